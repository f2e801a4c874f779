/- The walk of FnTextsPrint. -/
import Derived.Test.YteikiecbjjmkoaaTxt
import Derived.Test.YteikiecbjjmkoaaApp
namespace Go.Proofs.Yteikiecbjjmkoaa
open Go.RowKit Go.Proofs

theorem infoStr2 : (Try.prog.info? 9).map (fun i => (i.zero, i.size, i.bytes)) = some (some (.string .empty), 1, 16) := by kernel_rfl

set_option maxRecDepth 100000 in
set_option maxHeartbeats 1000000 in
theorem walk_texts_print (ss : List ByteArray) (sv : Value) (w : World) (ha : Strs w.heap.size ss sv w) (ca : Clean sv)
    (na : ss.length ≤ 10000000) (za : ∀ s ∈ ss, s.size ≤ 10000000) (ja : (joined ss).length ≤ 10000000) :
    Calls Try.prog 4 #[sv] w fun e w' => e = .returned (.bool true) ∧ Below w.heap.size w w' := by
  obtain ⟨i0, hi, hz0, hz1, hz2⟩ := info_parts infoStr2
  have Hi := Lib.hid hi
  have Hz0 := Lib.hid hz0
  have Hz1 := Lib.hid hz1
  have Hz2 := Lib.hid hz2
  clear hi hz0 hz1 hz2
  have f1 := fits4 w.heap.size ss sv w ha (by omega) (fun s hs => by have := za s hs; omega)
  have p1 := print_texts w.heap.size ss sv w ha (Nat.le_refl _) (by omega) (by omega) (fun s hs => by have := za s hs; omega)
  have Ha := Lib.hid ha
  have Za := Lib.hid za
  have Ca := Lib.hid ca
  obtain ⟨ao, cap, rfl, h1, h2, h3⟩ := ha
  clear h3 za ca
  obtain ⟨n, hn'⟩ : ∃ n, n = ss.length := ⟨_, rfl⟩
  rw [← hn'] at h1 na f1 p1
  rw [← hn']
  unfold maxLen at h2
  have Hn := Lib.hid hn'
  have Ja := Lib.hid ja
  clear hn' ja
  have P1 := Lib.hid p1
  clear p1
  go_enter Try.func4, Try.ntmps4
  go_wp2_with fail
  refine f1.mono ?_
  rintro e w' ⟨rfl, rfl⟩
  clear f1
  go_wp2
  go_loop [3, 4] (fun s i => ∃ k : Nat, k ≤ n ∧ i = .int .i64 k ∧ s = .string ⟨(joined (ss.take k)).toArray⟩) (fun _ i => n - (intOf i).toNat)
  case atStart => exact ⟨0, Nat.zero_le _, rfl, rfl⟩
  case round =>
    obtain ⟨k, hk, rfl, rfl⟩ := hrel
    by_cases hlt : k < n
    · have hlt' : k < ss.length := by rw [← Hn.out]; exact hlt
      obtain ⟨_, _, hv, _, _, h3⟩ := Ha.out
      obtain ⟨c, off, hao, hcB, hc⟩ := h3 k hlt'
      obtain rfl : ao = some ⟨c, off, none⟩ := by injection hv with e1 _ _; rw [e1, hao]
      have hl := joined_len ss k hlt'
      have hl2 := Ja.out
      have e1 : Hid (joined (ss.take (k + 1)) = joined (ss.take k) ++ (ss.getD k .empty).data.toList) := joined_take ss k hlt'
      clear hv h3 hao
      have hl3 : (joined (ss.take k)).length ≤ 10000000 := by omega
      have hl4 : (ss.getD k .empty).size ≤ 10000000 := by rw [Lib.size_eq]; omega
      clear hl hl2
      generalize ss.getD k .empty = s at hc e1 hl4
      generalize joined (ss.take k) = l at e1 hl3
      go_wp2
      go_round
      case rel => exact ⟨k + 1, by omega, by go_num, by rw [e1.out, mk_append]⟩
      case measure => simp [intOf]; omega
    · have hkn : k = ss.length := by rw [← Hn.out]; omega
      have hE : Hid (joined (ss.take k) = joined ss) := by rw [Hid, hkn, List.take_length]
      clear hkn
      rw [hE.out]
      go_wp2_with fail
      refine P1.out.mono ?_
      rintro e w1 ⟨rfl, q1⟩
      have Q1 := Lib.hid q1
      clear q1
      by_cases hj : joined ss = []
      · rw [hj]
        have hb0 : Below w1.heap.size w1 (w1.alloc (.cells #[.string ⟨#[97]⟩] 9)) := (Below.refl _ _).alloc (Nat.le_refl _) _
        have ho0 : (w1.alloc (.cells #[.string ⟨#[97]⟩] 9)).ownsRow w1.heap.size 9 1 (.slice (some ⟨w1.heap.size, 0, none⟩) 1 1) 1 [.string ⟨#[97]⟩] := World.ownsRow_lit w1 #[.string ⟨#[97]⟩] 1 (Nat.le_refl _) (by unfold maxLen; omega) rfl
        have hsa := ((Ha.out.below Q1.out).below (hb0.mono Q1.out.size)).src Ca.out
        rw [← Hn.out] at hsa
        have Hb0 := Lib.hid hb0
        have Hj := Lib.hid hj
        clear hb0 hj
        go_wp2_with (at_builtin; refine wpList_append_src ?hw _ _ 22 rfl w1.heap.size 9 i0 (.string .empty) 1 16 Try.underlying22 Hi.out Hz0.out Hz1.out Hz2.out rfl (by decide) _ 1 _ rfl ho0 _ _ _ rfl hsa ?c1 ?c2 ?c3 ?c4 ?_)
        case c1 => intro u hu; simp at hu; obtain ⟨s, _, rfl⟩ := hu; rfl
        case c2 => unfold maxLen; omega
        case c3 => omega
        case c4 => simp
        intro v1 w2 ho1 hg1
        have hb2 : Below w1.heap.size w1 w2 := Hb0.out.grown hg1 (by simp) (fun g hg => by simp [Value.ownBlock] at hg; omega)
        obtain ⟨hs2, _⟩ := strs_of_own (ss := ⟨#[97]⟩ :: ss) (base := w1.heap.size) (v := v1) (w := w2) (by
          have e1 : (⟨#[97]⟩ :: ss : List ByteArray).length = 1 + n := by simp [Hn.out]; omega
          rw [e1]; simpa using ho1)
        have hj2 : joined (⟨#[97]⟩ :: ss) = [97] := by simp [joined, Hj.out]
        have p2 := print_texts w2.heap.size _ v1 w2 hs2 (Nat.le_refl _) (by rw [hj2]; simp) (by simp [← Hn.out]; omega) (fun s hs => by
          rcases List.mem_cons.1 hs with rfl | hs
          · decide
          · have := Za.out s hs; omega)
        rw [hj2] at p2
        have Hb2 := Lib.hid hb2
        clear hb2 ho1 hg1 hs2 hj2 hsa ho0
        go_wp2_with fail
        refine p2.mono ?_
        rintro e w3 ⟨rfl, q2⟩
        have Hb3 := Lib.hid (Q1.out.trans ((Hb2.out.trans (q2.mono Hb2.out.size)).mono Q1.out.size))
        clear q2 p2
        go_wp2
        go_ret
        exact ⟨rfl, Hb3.out⟩
      · have hne : ((⟨(joined ss).toArray⟩ : ByteArray).toList == []) = false := by rw [Lib.toList_data]; simpa using hj
        have hne2 : (joined ss).isEmpty = false := by simpa using hj
        have Hj := Lib.hid hj
        clear hj
        go_wp2
        go_ret
        exact ⟨by simp, Q1.out⟩

end Go.Proofs.Yteikiecbjjmkoaa
