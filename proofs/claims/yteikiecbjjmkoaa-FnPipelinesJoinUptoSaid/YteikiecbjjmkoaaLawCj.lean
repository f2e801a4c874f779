/- The walk of FnCommandsJoin. -/
import Derived.Test.YteikiecbjjmkoaaPrn
import Derived.Test.YteikiecbjjmkoaaSrc
namespace Go.Proofs.Yteikiecbjjmkoaa
open Go.RowKit Go.Proofs

theorem sepBy_ne (sep : List UInt8) (a b : List (List UInt8)) (ha : a ≠ []) (hb : b ≠ []) (hs : sep ≠ []) : sepBy sep (a ++ b) ≠ [] := by
  rw [sepBy_append sep a b ha hb]
  intro e
  simp at e
  exact hs e.2.1

set_option maxRecDepth 100000 in
set_option maxHeartbeats 400000 in
theorem print_zero_part (w : World) : Calls Try.prog 22 #[.agg #[.string ⟨#[]⟩, .slice none 0 0, .string ⟨#[]⟩, .bool false]] w (Gives [46] w) :=
  print_part w.heap.size ⟨⟨#[]⟩, [], ⟨#[]⟩, false⟩ _ w (zero_part w) (Nat.le_refl _) (by decide)

set_option maxRecDepth 100000 in
set_option maxHeartbeats 2000000 in
theorem walk_commands_join (pa pb : List Part) (va vb : Value) (w : World) (ha : Parts w.heap.size pa va w) (hb : Parts w.heap.size pb vb w) (ca : Clean va) (cb : Clean vb)
    (sa : ∀ p ∈ pa, SmallPart 2147483647 p) (sb : ∀ p ∈ pb, SmallPart 2147483647 p) (na : pa.length ≤ 100000000) (nb : pb.length ≤ 100000000)
    (la : (commandText pa).length ≤ 200000000) (lb : (commandText pb).length ≤ 200000000) :
    Calls Try.prog 9 #[va, vb] w fun e w' => e = .returned (.bool true) ∧ Below w.heap.size w w' := by
  obtain ⟨i0, hi, hz0, hz1, hz2⟩ := info_parts infoPart
  have Hi := Lib.hid hi
  have Hz0 := Lib.hid hz0
  have Hz1 := Lib.hid hz1
  have Hz2 := Lib.hid hz2
  clear hi hz0 hz1 hz2
  have f1 := fits7 w.heap.size pa va w ha (Nat.le_refl _) (by omega) sa
  have cF : ∀ W, Below w.heap.size w W → Calls Try.prog 16 #[vb] W fun e W' => e = .returned (.bool true) ∧ Below w.heap.size w W' := fun W hW =>
    (fits7 w.heap.size pb vb W (hb.below hW) hW.size (by omega) sb).mono fun e W' ⟨he, h⟩ => ⟨he, hW.trans (h.mono hW.size)⟩
  have cA : ∀ W, Below w.heap.size w W → Calls Try.prog 17 #[va] W fun e W' => e = .returned (.string ⟨(commandText pa).toArray⟩) ∧ Below w.heap.size w W' := fun W hW =>
    (print_command w.heap.size pa va W (ha.below hW) hW.size (by omega) (by omega)).mono fun e W' ⟨he, h⟩ => ⟨he, hW.trans (h.mono hW.size)⟩
  have cB : ∀ W, Below w.heap.size w W → Calls Try.prog 17 #[vb] W fun e W' => e = .returned (.string ⟨(commandText pb).toArray⟩) ∧ Below w.heap.size w W' := fun W hW =>
    (print_command w.heap.size pb vb W (hb.below hW) hW.size (by omega) (by omega)).mono fun e W' ⟨he, h⟩ => ⟨he, hW.trans (h.mono hW.size)⟩
  have Ha := Lib.hid ha
  have Hb := Lib.hid hb
  have Ca := Lib.hid ca
  have Cb := Lib.hid cb
  have CF := Lib.hid cF
  have CA := Lib.hid cA
  have CB := Lib.hid cB
  obtain ⟨aa, capa, rfl, h1a, -⟩ := ha
  obtain ⟨ab, capb, rfl, h1b, -⟩ := hb
  clear sa sb ca cb cF cA cB
  by_cases h0a : pa = []
  · subst h0a
    simp only [List.length_nil] at *
    go_enter Try.func9, Try.ntmps9
    go_wp2_with fail
    refine f1.mono ?_
    rintro e w1 ⟨rfl, q1⟩
    have c2 := CF.out w1 q1
    clear f1 q1
    go_wp2_with fail
    refine c2.mono ?_
    rintro e w2 ⟨rfl, q2⟩
    have Q2 := Lib.hid q2
    have c3 := print_zero_part w2
    clear c2 q2
    go_wp2_with fail
    refine c3.mono ?_
    rintro e w3 ⟨rfl, q3⟩
    have Q3 := Lib.hid (Q2.out.trans (q3.mono Q2.out.size))
    clear c3 q3
    go_wp2
    go_ret
    exact ⟨rfl, Q3.out⟩
  by_cases h0b : pb = []
  · subst h0b
    have hna : ((pa.length : Int) == 0) = false := by simpa using h0a
    simp only [List.length_nil] at *
    go_enter Try.func9, Try.ntmps9
    go_wp2_with fail
    refine f1.mono ?_
    rintro e w1 ⟨rfl, q1⟩
    have c2 := CF.out w1 q1
    clear f1 q1
    go_wp2_with fail
    refine c2.mono ?_
    rintro e w2 ⟨rfl, q2⟩
    have Q2 := Lib.hid q2
    have c3 := print_zero_part w2
    clear c2 q2
    go_wp2_with fail
    refine c3.mono ?_
    rintro e w3 ⟨rfl, q3⟩
    have Q3 := Lib.hid (Q2.out.trans (q3.mono Q2.out.size))
    clear c3 q3
    go_wp2
    go_ret
    exact ⟨rfl, Q3.out⟩
  have hna : ((pa.length : Int) == 0) = false := by simpa using h0a
  have hnb : ((pb.length : Int) == 0) = false := by simpa using h0b
  have Hj : Hid (commandText (pa ++ pb) = commandText pa ++ [32] ++ commandText pb) := by
    rw [Hid]
    unfold commandText
    rw [List.map_append, sepBy_append [32] _ _ (by simpa using h0a) (by simpa using h0b), List.append_assoc]
  clear h0a h0b
  go_enter Try.func9, Try.ntmps9
  go_wp2_with fail
  refine f1.mono ?_
  rintro e w1 ⟨rfl, q1⟩
  have c2 := CF.out w1 q1
  clear f1 q1
  go_wp2_with fail
  refine c2.mono ?_
  rintro e w2 ⟨rfl, q2⟩
  obtain ⟨xa, hxa, hya, hsa⟩ := (Ha.out.below q2).src Ca.out
  have hsz2 := q2.size
  have Q2 := Lib.hid q2
  have Hxa := Lib.hid hxa
  have hoa := cellsOf_one hya
  have Hya := Lib.hid hya
  clear c2 q2 hxa hya
  go_wp2_with (at_builtin; refine wpList_append_src rfl _ _ 32 rfl w.heap.size 27 i0 (.agg #[.string .empty, .slice none 0 0, .string .empty, .bool false]) 4 64 Try.underlying32 Hi.out Hz0.out Hz1.out Hz2.out rfl (by decide) _ 0 [] rfl (World.ownsRow_nil _ _ _ _) _ _ _ rfl hsa hoa ?c2 ?c3 hsz2 ?_)
  case c2 => unfold maxLen; omega
  case c3 => omega
  intro v1 w3 ho1 hg1
  have q3 : Below w.heap.size w w3 := Q2.out.grown hg1 hsz2 (fun g hg => by simp [Value.ownBlock] at hg)
  obtain ⟨xb, hxb, hyb, hsb⟩ := (Hb.out.below q3).src Cb.out
  have hsz3 := q3.size
  have Q3 := Lib.hid q3
  have Hxb := Lib.hid hxb
  have hob := cellsOf_one hyb
  have Hyb := Lib.hid hyb
  have Hya3 := Lib.hid (fun x hx => (Hya.out x hx).below (show Below w.heap.size w2 w3 from (Below.refl _ _).grown hg1 hsz2 (fun g hg => by simp [Value.ownBlock] at hg)))
  clear q3 hxb hyb hsa hoa hg1
  go_wp2_with (at_builtin; refine wpList_append_src rfl _ _ 32 rfl w.heap.size 27 i0 (.agg #[.string .empty, .slice none 0 0, .string .empty, .bool false]) 4 64 Try.underlying32 Hi.out Hz0.out Hz1.out Hz2.out rfl (by decide) _ _ _ rfl ho1 _ _ _ rfl hsb hob ?c2 ?c3 hsz3 ?_)
  case c2 => unfold maxLen; omega
  case c3 => omega
  intro v2 w4 ho2 hg2
  have q34 : Below w.heap.size w3 w4 := (Below.refl _ _).grown hg2 hsz3 (fun g hg => (ho1.lt g hg).1)
  have q4 : Below w.heap.size w w4 := Q3.out.trans q34
  have hp4 : Parts w4.heap.size (pa ++ pb) v2 w4 := by
    have hl : (xa ++ xb).length = 0 + pa.length + pb.length := by
      have e1 := congrArg List.length Hxa.out
      have e2 := congrArg List.length Hxb.out
      simp at e1 e2 ⊢; omega
    have := parts_of_own (B := w.heap.size) (l := xa ++ xb) (v := v2) (w := w4) (base := w.heap.size) (by rw [hl, cellsOf_append]; simpa using ho2) (fun x hx => by
      rcases List.mem_append.1 hx with hx | hx
      · exact (Hya3.out x hx).below q34
      · exact (Hyb.out x hx).below q34) q4.size
    rw [List.map_append, Hxa.out, Hxb.out] at this
    exact this
  have c5 := print_command w4.heap.size (pa ++ pb) v2 w4 hp4 (Nat.le_refl _) (by simp; omega) (by rw [Hj.out]; simp; omega)
  rw [Hj.out] at c5
  have Q4 := Lib.hid q4
  clear q34 q4 hp4 ho1 ho2 hg2 hsb hob
  go_wp2_with fail
  refine c5.mono ?_
  rintro e w5 ⟨rfl, q5⟩
  have hq5 := Q4.out.trans (q5.mono Q4.out.size)
  have c6 := CA.out w5 hq5
  have hne : ((⟨(commandText pa ++ [32] ++ commandText pb).toArray⟩ : ByteArray).toList == []) = false := by rw [Lib.toList_data]; simp
  have hne2 : (commandText pa ++ [32] ++ commandText pb).isEmpty = false := by simp
  clear c5 q5 hq5
  generalize commandText pa = ta at *
  generalize commandText pb = tb at *
  go_wp2_with fail
  refine c6.mono ?_
  rintro e w6 ⟨rfl, q6⟩
  have c7 := CB.out w6 q6
  clear c6 q6
  go_wp2_with fail
  refine c7.mono ?_
  rintro e w7 ⟨rfl, q7⟩
  have Q7 := Lib.hid q7
  clear c7 q7
  go_wp2
  go_ret
  exact ⟨by simp [Lib.toList_data, ByteArray.data_append], Q7.out⟩

end Go.Proofs.Yteikiecbjjmkoaa
