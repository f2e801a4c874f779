/- The walk of FnPartPrint. -/
import Derived.Test.YteikiecbjjmkoaaStr
import Derived.Deep.RegionWith
namespace Go.Proofs.Yteikiecbjjmkoaa
open Go.RowKit Go.Proofs

set_option maxRecDepth 100000 in
set_option maxHeartbeats 1000000 in
theorem walk_part_print (p : Part) (v : Value) (w : World) (h : IsPart w.heap.size p v w) (hs : SmallPart 2147483647 p) (hlen : (partText p).length ≤ 1000000000) (hd : (dotted p.names).length ≤ 1000000000) :
    Calls Try.prog 8 #[v] w fun e w' => e = .returned (.bool true) ∧ Below w.heap.size w w' := by
  have hb0 : Below w.heap.size w (w.alloc (.cells v.cells 27)) := (Below.refl _ _).alloc (Nat.le_refl _) _
  have f1 := fits6 w.heap.size p v _ (h.below hb0) hb0.size hs
  have cP : ∀ W, Below (w.heap.size + 1) (w.alloc (.cells v.cells 27)) W → Calls Try.prog 22 #[v] W fun e W' => e = .returned (.string ⟨(partText p).toArray⟩) ∧ Below (w.heap.size + 1) (w.alloc (.cells v.cells 27)) W' := fun W hW => by
    have hsz : w.heap.size + 1 ≤ W.heap.size := by have := hW.size; simpa using this
    refine (print_part w.heap.size p v W ((h.below hb0).below (hW.mono (by omega))) (by omega) (by omega)).mono ?_
    rintro e W' ⟨he, hb⟩
    exact ⟨he, hW.trans (hb.mono hsz)⟩
  have cT : ∀ W, Below (w.heap.size + 1) (w.alloc (.cells v.cells 27)) W → Calls Try.prog 14 #[v] W fun e W' => e = .returned (.string ⟨(partText p).toArray⟩) ∧ Below (w.heap.size + 1) (w.alloc (.cells v.cells 27)) W' := fun W hW => by
    have hsz : w.heap.size + 1 ≤ W.heap.size := by have := hW.size; simpa using this
    refine (part_text w.heap.size p v W ((h.below hb0).below (hW.mono (by omega))) (by omega) hlen hd).mono ?_
    rintro e W' ⟨he, hb⟩
    exact ⟨he, hW.trans (hb.mono hsz)⟩
  obtain ⟨nv, rfl, -⟩ := h
  have Hb0 := Lib.hid hb0
  have CP := Lib.hid cP
  have CT := Lib.hid cT
  clear hs hb0 cP cT hlen hd
  generalize partText p = t at *
  generalize p.kind = k at *
  generalize p.text = tx at *
  generalize p.tr = tr at *
  go_enter Try.func8, Try.ntmps8
  go_wp2_with fail
  refine f1.mono ?_
  rintro e w1 ⟨rfl, q1⟩
  have hb1 : Below (w.heap.size + 1) (w.alloc (.cells #[.string k, nv, .string tx, .bool tr] 27)) w1 := by
    rw [World.size_alloc] at q1; exact q1
  obtain ⟨k0, k1, k2, k3⟩ := box4 hb1
  clear q1 f1
  go_wp2_with fail
  go_region_with (first
    | (go_at_call 22; refine (CP.out _ ?_).mono ?_; (first | exact hb1.drew | assumption); rintro e W' ⟨rfl, hW'⟩; obtain ⟨j0, j1, j2, j3⟩ := box4 hW')
    | (go_at_call 14; refine (CT.out _ ?_).mono ?_; (first | exact hb1.drew | assumption); rintro e W' ⟨rfl, hW'⟩; obtain ⟨j0, j1, j2, j3⟩ := box4 hW'))
  all_goals go_wp2
  all_goals go_ret
  all_goals exact ⟨rfl, Hb0.out.trans (hW'.mono (by omega))⟩

end Go.Proofs.Yteikiecbjjmkoaa
