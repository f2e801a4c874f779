/- The walk of FnChainPrint. -/
import Derived.Test.YteikiecbjjmkoaaPrn
namespace Go.Proofs.Yteikiecbjjmkoaa
open Go.RowKit Go.Proofs

set_option maxRecDepth 100000 in
set_option maxHeartbeats 1000000 in
theorem walk_chain_print (p : Part) (ss : List ByteArray) (v fv : Value) (w : World) (h : IsPart w.heap.size p v w) (hf : Strs w.heap.size ss fv w) (hs : SmallPart 2147483647 p) (hlen : (partText p).length ≤ 100000000) (hd : (dotted p.names).length ≤ 100000000)
    (hds : (dotted ss).length ≤ 100000000) (hns : ss.length ≤ 100000000) (hzs : ∀ s ∈ ss, s.size ≤ 100000000) :
    Calls Try.prog 5 #[v, fv] w fun e w' => e = .returned (.bool true) ∧ Below w.heap.size w w' := by
  have hb0 : Below w.heap.size w (w.alloc (.cells v.cells 27)) := (Below.refl _ _).alloc (Nat.le_refl _) _
  have hsz : (w.alloc (.cells v.cells 27)).heap.size = w.heap.size + 1 := World.size_alloc ..
  have f1 := fits6 w.heap.size p v _ (h.below hb0) hb0.size hs
  have cF : ∀ W, Below (w.heap.size + 1) (w.alloc (.cells v.cells 27)) W → Calls Try.prog 11 #[fv] W fun e W' => e = .returned (.bool true) ∧ W = W' := fun W hW =>
    fits4 w.heap.size ss fv W ((hf.below hb0).below (hW.mono (by omega))) (by omega) (fun s hs => by have := hzs s hs; omega)
  have cT : ∀ W, Below (w.heap.size + 1) (w.alloc (.cells v.cells 27)) W → Calls Try.prog 14 #[v] W fun e W' => e = .returned (.string ⟨(partText p).toArray⟩) ∧ Below (w.heap.size + 1) (w.alloc (.cells v.cells 27)) W' := fun W hW => by
    have hsz : w.heap.size + 1 ≤ W.heap.size := by have := hW.size; omega
    refine (part_text w.heap.size p v W ((h.below hb0).below (hW.mono (by omega))) (by omega) (by omega) (by omega)).mono ?_
    rintro e W' ⟨he, hb⟩
    exact ⟨he, hW.trans (hb.mono hsz)⟩
  have cC : ∀ W, Below (w.heap.size + 1) (w.alloc (.cells v.cells 27)) W → Calls Try.prog 15 #[v, fv] W fun e W' => e = .returned (.string ⟨(partText p ++ dotted ss).toArray⟩) ∧ Below (w.heap.size + 1) (w.alloc (.cells v.cells 27)) W' := fun W hW => by
    have hsz : w.heap.size + 1 ≤ W.heap.size := by have := hW.size; omega
    refine (print_chain w.heap.size p ss v fv W ((h.below hb0).below (hW.mono (by omega))) ((hf.below hb0).below (hW.mono (by omega))) (by omega) (by simp only [List.length_append]; omega)).mono ?_
    rintro e W' ⟨he, hb⟩
    exact ⟨he, hW.trans (hb.mono hsz)⟩
  have hcells : ∀ W, Below (w.heap.size + 1) (w.alloc (.cells v.cells 27)) W → Strs w.heap.size ss fv W := fun W hW => (hf.below hb0).below (hW.mono (by omega))
  obtain ⟨nv, rfl, -⟩ := h
  obtain ⟨ao, cap, rfl, h1, h2, -⟩ := hf
  have Hb0 := Lib.hid hb0
  have CF := Lib.hid cF
  have CT := Lib.hid cT
  have CC := Lib.hid cC
  have HC := Lib.hid hcells
  have Hds := Lib.hid hds
  clear hs hb0 cF cT cC hd hzs hcells hds
  generalize partText p = t at *
  generalize p.kind = k at *
  generalize p.text = tx at *
  generalize p.tr = tr at *
  generalize hn' : ss.length = n at *
  unfold maxLen at h2
  have Hn := Lib.hid hn'
  clear hn'
  go_enter Try.func5, Try.ntmps5
  go_wp2_with fail
  refine f1.mono ?_
  rintro e w1 ⟨rfl, q1⟩
  have hb1 : Below (w.heap.size + 1) (w.alloc (.cells #[.string k, nv, .string tx, .bool tr] 27)) w1 := by
    rw [World.size_alloc] at q1; exact q1
  obtain ⟨k0, k1, k2, k3⟩ := box4 hb1
  have c2 := CF.out w1 hb1
  have Hb1 := Lib.hid hb1
  clear q1 f1 hb1
  go_wp2_with fail
  refine c2.mono ?_
  rintro e w' ⟨rfl, rfl⟩
  have c3 := CT.out w1 Hb1.out
  clear c2
  go_wp2_with fail
  refine c3.mono ?_
  rintro e w2 ⟨rfl, hb2⟩
  obtain ⟨j0, j1, j2, j3⟩ := box4 hb2
  have Hss := Lib.hid (HC.out w2 hb2)
  have c4 := CC.out w2 hb2
  have Hb2 := Lib.hid hb2
  have C4 := Lib.hid c4
  clear c3 c4 hb2 k0 k1 k2 k3
  go_wp2
  go_loop [5, 6] (fun s i => ∃ q : Nat, q ≤ n ∧ i = .int .i64 q ∧ s = .string ⟨(t ++ dotted (ss.take q)).toArray⟩) (fun _ i => n - (intOf i).toNat)
  case atStart => exact ⟨0, Nat.zero_le _, rfl, by simp [dotted]⟩
  case round =>
    obtain ⟨q, hk, rfl, rfl⟩ := hrel
    by_cases hlt : q < n
    · have hlt' : q < ss.length := by rw [Hn.out]; exact hlt
      obtain ⟨_, _, hv, _, _, h3⟩ := Hss.out
      obtain ⟨c, off, hao, hcB, hc⟩ := h3 q hlt'
      obtain rfl : ao = some ⟨c, off, none⟩ := by injection hv with e1 _ _; rw [e1, hao]
      have hl := dotted_len ss q hlt'
      have hl2 := Hds.out
      have e1 : Hid (dotted (ss.take (q + 1)) = dotted (ss.take q) ++ 46 :: (ss.getD q .empty).data.toList) := dotted_take ss q hlt'
      clear hv h3 hao
      have hl3 : (dotted (ss.take q)).length ≤ 100000000 := by omega
      have hl4 : (ss.getD q .empty).size ≤ 100000000 := by rw [Lib.size_eq]; omega
      clear hl hl2
      generalize ss.getD q .empty = s at hc e1 hl4
      generalize dotted (ss.take q) = l at e1 hl3
      go_wp2
      go_round
      case rel => exact ⟨q + 1, by omega, by go_num, by rw [e1.out]; exact congrArg Value.string (ByteArray.ext (by simp [ByteArray.data_append]))⟩
      case measure => simp [intOf]; omega
    · have hkn : q = ss.length := by rw [Hn.out]; omega
      have hE : Hid (dotted (ss.take q) = dotted ss) := by rw [Hid, hkn, List.take_length]
      clear hkn
      rw [hE.out]
      go_wp2_with fail
      refine C4.out.mono ?_
      rintro e w3 ⟨rfl, hb3⟩
      have Hb3 := Lib.hid hb3
      clear hb3
      go_wp2
      go_ret
      exact ⟨by simp, Hb0.out.trans (Hb3.out.mono (Nat.le_succ _))⟩

end Go.Proofs.Yteikiecbjjmkoaa
