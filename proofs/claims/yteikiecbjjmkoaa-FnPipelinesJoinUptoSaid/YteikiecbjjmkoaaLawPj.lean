/- The walk of FnPipelinesJoin. -/
import Derived.Test.YteikiecbjjmkoaaLawPl
import Derived.Test.YteikiecbjjmkoaaLawCj
import Derived.Test.YteikiecbjjmkoaaSrcC
namespace Go.Proofs.Yteikiecbjjmkoaa
open Go.RowKit Go.Proofs

theorem fine_append {a b : List (List Part)} (ha : Fine a) (hb : Fine b) : (sepBy [32, 124, 32] ((a ++ b).map commandText)).length ≤ 700000000 := by
  by_cases e1 : a = []
  · subst e1; have := hb.2.2.2; simp only [List.nil_append]; omega
  by_cases e2 : b = []
  · subst e2; have := ha.2.2.2; simp only [List.append_nil]; omega
  rw [List.map_append, sepBy_append _ _ _ (by simpa using e1) (by simpa using e2)]
  have h1 := ha.2.2.2
  have h2 := hb.2.2.2
  simp only [List.length_append, List.length_cons, List.length_nil]
  omega

set_option maxRecDepth 100000 in
set_option maxHeartbeats 2000000 in
theorem walk_pipelines_join (ds : List ByteArray) (asg : Bool) (pa pb : List (List Part)) (dv va vb : Value) (w : World) (hd : Strs w.heap.size ds dv w) (ha : Cmds w.heap.size pa va w) (hb : Cmds w.heap.size pb vb w) (ca : Clean va) (cb : Clean vb)
    (n0 : ds.length ≤ 1048577) (hz : ∀ s ∈ ds, s.size ≤ 1048577) (hj : (joined ds).length + ds.length ≤ 1048577) (fa : Fine pa) (fb : Fine pb) :
    Calls Try.prog 10 #[dv, .bool asg, va, vb] w fun e w' => e = .returned (.bool true) ∧ Below w.heap.size w w' := by
  obtain ⟨i0, hi, hz0, hz1, hz2⟩ := info_parts infoParts
  have Hi := Lib.hid hi
  have Hz0 := Lib.hid hz0
  have Hz1 := Lib.hid hz1
  have Hz2 := Lib.hid hz2
  clear hi hz0 hz1 hz2
  have na := fa.2.2.1
  have nb := fb.2.2.1
  have la := pipe_len ds asg pa hj fa
  have lb := pipe_len [] false pb (by simp [joined]) fb
  have f0 := fits4 w.heap.size ds dv w hd (by omega) (fun s hs => by have := hz s hs; omega)
  have f1 := fits8 w.heap.size pa va w ha (Nat.le_refl _) (by omega) (fun ps hps => ⟨by have := (fa.2.1 ps hps).1; omega, (fa.2.1 ps hps).2⟩)
  have cF : ∀ W, Below w.heap.size w W → Calls Try.prog 19 #[vb] W fun e W' => e = .returned (.bool true) ∧ Below w.heap.size w W' := fun W hW =>
    (fits8 w.heap.size pb vb W (hb.below hW) hW.size (by omega) (fun ps hps => ⟨by have := (fb.2.1 ps hps).1; omega, (fb.2.1 ps hps).2⟩)).mono fun e W' ⟨he, h⟩ => ⟨he, hW.trans (h.mono hW.size)⟩
  have cA : ∀ W, Below w.heap.size w W → Calls Try.prog 20 #[dv, .bool asg, va] W fun e W' => e = .returned (.string ⟨(pipelineText ds asg pa).toArray⟩) ∧ Below w.heap.size w W' := fun W hW =>
    (print_pipeline w.heap.size ds asg pa dv va W (hd.below hW) (ha.below hW) hW.size (by omega) (by omega) (fun ps hps => by have := (fa.2.1 ps hps).1; omega) (by omega)).mono fun e W' ⟨he, h⟩ => ⟨he, hW.trans (h.mono hW.size)⟩
  have cB : ∀ W, Below w.heap.size w W → Calls Try.prog 20 #[.slice none 0 0, .bool false, vb] W fun e W' => e = .returned (.string ⟨(pipelineText [] false pb).toArray⟩) ∧ Below w.heap.size w W' := fun W hW =>
    (print_pipeline w.heap.size [] false pb (.slice none 0 0) vb W ⟨none, 0, rfl, Nat.le_refl _, by unfold maxLen; omega, fun i hi => absurd hi (Nat.not_lt_zero _)⟩ (hb.below hW) hW.size (by simp) (by omega) (fun ps hps => by have := (fb.2.1 ps hps).1; omega) (by omega)).mono fun e W' ⟨he, h⟩ => ⟨he, hW.trans (h.mono hW.size)⟩
  have cJ : ∀ W v, Below w.heap.size w W → Cmds W.heap.size (pa ++ pb) v W → Calls Try.prog 20 #[dv, .bool asg, v] W fun e W' => e = .returned (.string ⟨(pipelineText ds asg (pa ++ pb)).toArray⟩) ∧ Below w.heap.size w W' := fun W v hW hv =>
    (print_pipeline W.heap.size ds asg (pa ++ pb) dv v W ((hd.below hW).mono hW.size) hv (Nat.le_refl _) (by omega) (by simp; omega) (fun ps hps => by
      rcases List.mem_append.1 hps with h | h
      · have := (fa.2.1 ps h).1; omega
      · have := (fb.2.1 ps h).1; omega) (by
      have h1 := decl_len ds asg
      have h2 := fine_append fa fb
      unfold pipelineText
      rw [List.length_append]
      omega)).mono fun e W' ⟨he, h⟩ => ⟨he, hW.trans (h.mono hW.size)⟩
  have Ha := Lib.hid ha
  have Hb := Lib.hid hb
  have Ca := Lib.hid ca
  have Cb := Lib.hid cb
  have CF := Lib.hid cF
  have CA := Lib.hid cA
  have CB := Lib.hid cB
  have CJ := Lib.hid cJ
  obtain ⟨aa, capa, rfl, h1a, -⟩ := ha
  obtain ⟨ab, capb, rfl, h1b, -⟩ := hb
  obtain ⟨aod, capd, rfl, -⟩ := hd
  clear fa fb ca cb cF cA cB cJ hz
  by_cases h0a : pa = []
  · subst h0a
    simp only [List.length_nil] at *
    go_enter Try.func10, Try.ntmps10
    go_wp2_with fail
    refine f0.mono ?_
    rintro e w1 ⟨rfl, rfl⟩
    clear f0
    go_wp2_with fail
    refine f1.mono ?_
    rintro e w1 ⟨rfl, q1⟩
    have c2 := CF.out w1 q1
    clear f1 q1
    go_wp2_with fail
    refine c2.mono ?_
    rintro e w2 ⟨rfl, q2⟩
    have Q2 := Lib.hid q2
    have c3 := print_zero_part w2
    clear c2 q2
    go_wp2_with fail
    refine c3.mono ?_
    rintro e w3 ⟨rfl, q3⟩
    have Q3 := Lib.hid (Q2.out.trans (q3.mono Q2.out.size))
    clear c3 q3
    go_wp2
    go_ret
    exact ⟨rfl, Q3.out⟩
  by_cases h0b : pb = []
  · subst h0b
    have hna : ((pa.length : Int) == 0) = false := by simpa using h0a
    simp only [List.length_nil] at *
    go_enter Try.func10, Try.ntmps10
    go_wp2_with fail
    refine f0.mono ?_
    rintro e w1 ⟨rfl, rfl⟩
    clear f0
    go_wp2_with fail
    refine f1.mono ?_
    rintro e w1 ⟨rfl, q1⟩
    have c2 := CF.out w1 q1
    clear f1 q1
    go_wp2_with fail
    refine c2.mono ?_
    rintro e w2 ⟨rfl, q2⟩
    have Q2 := Lib.hid q2
    have c3 := print_zero_part w2
    clear c2 q2
    go_wp2_with fail
    refine c3.mono ?_
    rintro e w3 ⟨rfl, q3⟩
    have Q3 := Lib.hid (Q2.out.trans (q3.mono Q2.out.size))
    clear c3 q3
    go_wp2
    go_ret
    exact ⟨rfl, Q3.out⟩
  have hna : ((pa.length : Int) == 0) = false := by simpa using h0a
  have hnb : ((pb.length : Int) == 0) = false := by simpa using h0b
  have Hj : Hid (pipelineText ds asg (pa ++ pb) = pipelineText ds asg pa ++ [32, 124, 32] ++ pipelineText [] false pb) := by
    rw [Hid]
    unfold pipelineText
    rw [List.map_append, sepBy_append [32, 124, 32] _ _ (by simpa using h0a) (by simpa using h0b)]
    simp [declText]
  clear h0a h0b
  go_enter Try.func10, Try.ntmps10
  go_wp2_with fail
  refine f0.mono ?_
  rintro e w1 ⟨rfl, rfl⟩
  clear f0
  go_wp2_with fail
  refine f1.mono ?_
  rintro e w1 ⟨rfl, q1⟩
  have c2 := CF.out w1 q1
  clear f1 q1
  go_wp2_with fail
  refine c2.mono ?_
  rintro e w2 ⟨rfl, q2⟩
  obtain ⟨xa, hxa, hya, hsa⟩ := (Ha.out.below q2).src Ca.out
  have hsz2 := q2.size
  have Q2 := Lib.hid q2
  have Hxa := Lib.hid hxa
  have hoa := cmds_one hya
  have Hya := Lib.hid hya
  clear c2 q2 hxa hya
  go_wp2_with (at_builtin; refine wpList_append_src rfl _ _ 35 rfl w.heap.size 32 i0 (.slice none 0 0) 1 24 Try.underlying35 Hi.out Hz0.out Hz1.out Hz2.out rfl (by decide) _ 0 [] rfl (World.ownsRow_nil _ _ _ _) _ _ _ rfl hsa hoa ?c2 ?c3 hsz2 ?_)
  case c2 => unfold maxLen; omega
  case c3 => omega
  intro v1 w3 ho1 hg1
  have q3 : Below w.heap.size w w3 := Q2.out.grown hg1 hsz2 (fun g hg => by simp [Value.ownBlock] at hg)
  obtain ⟨xb, hxb, hyb, hsb⟩ := (Hb.out.below q3).src Cb.out
  have hsz3 := q3.size
  have Q3 := Lib.hid q3
  have Hxb := Lib.hid hxb
  have hob := cmds_one hyb
  have Hyb := Lib.hid hyb
  have Hya3 := Lib.hid (fun x hx => (Hya.out x hx).below (show Below w.heap.size w2 w3 from (Below.refl _ _).grown hg1 hsz2 (fun g hg => by simp [Value.ownBlock] at hg)))
  clear q3 hxb hyb hsa hoa hg1
  go_wp2_with (at_builtin; refine wpList_append_src rfl _ _ 35 rfl w.heap.size 32 i0 (.slice none 0 0) 1 24 Try.underlying35 Hi.out Hz0.out Hz1.out Hz2.out rfl (by decide) _ _ _ rfl ho1 _ _ _ rfl hsb hob ?c2 ?c3 hsz3 ?_)
  case c2 => unfold maxLen; omega
  case c3 => omega
  intro v2 w4 ho2 hg2
  have q34 : Below w.heap.size w3 w4 := (Below.refl _ _).grown hg2 hsz3 (fun g hg => (ho1.lt g hg).1)
  have q4 : Below w.heap.size w w4 := Q3.out.trans q34
  have hp4 : Cmds w4.heap.size (pa ++ pb) v2 w4 := by
    have hl : (xa ++ xb).length = 0 + pa.length + pb.length := by
      have e1 := congrArg List.length Hxa.out
      have e2 := congrArg List.length Hxb.out
      simp at e1 e2 ⊢; omega
    have := cmds_of_own (B := w.heap.size) (l := xa ++ xb) (v := v2) (w := w4) (base := w.heap.size) (by rw [hl, List.map_append]; simpa using ho2) (fun x hx => by
      rcases List.mem_append.1 hx with hx | hx
      · exact (Hya3.out x hx).below q34
      · exact (Hyb.out x hx).below q34) q4.size
    rw [List.map_append, Hxa.out, Hxb.out] at this
    exact this
  have c5 := CJ.out w4 v2 q4 hp4
  rw [Hj.out] at c5
  clear q34 q4 hp4 ho1 ho2 hg2 hsb hob
  have hne2 : (pipelineText ds asg pa ++ [32, 124, 32] ++ pipelineText [] false pb).isEmpty = false := by simp
  generalize pipelineText ds asg pa = ta at *
  generalize pipelineText [] false pb = tb at *
  go_wp2_with fail
  refine c5.mono ?_
  rintro e w5 ⟨rfl, q5⟩
  have c6 := CA.out w5 q5
  have hne : ((⟨(ta ++ [32, 124, 32] ++ tb).toArray⟩ : ByteArray).toList == []) = false := by rw [Lib.toList_data]; simp
  clear c5 q5
  go_wp2_with fail
  refine c6.mono ?_
  rintro e w6 ⟨rfl, q6⟩
  have c7 := CB.out w6 q6
  clear c6 q6
  go_wp2_with fail
  refine c7.mono ?_
  rintro e w7 ⟨rfl, q7⟩
  have Q7 := Lib.hid q7
  clear c7 q7
  go_wp2
  go_ret
  exact ⟨by simp [Lib.toList_data, ByteArray.data_append], Q7.out⟩

end Go.Proofs.Yteikiecbjjmkoaa
