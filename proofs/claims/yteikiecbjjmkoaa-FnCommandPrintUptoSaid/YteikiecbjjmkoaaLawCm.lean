/- The walk of FnCommandPrint. -/
import Derived.Test.YteikiecbjjmkoaaPrn
namespace Go.Proofs.Yteikiecbjjmkoaa
open Go.RowKit Go.Proofs

set_option maxRecDepth 100000 in
set_option maxHeartbeats 1000000 in
theorem walk_command_print (ps : List Part) (v : Value) (w : World) (h : Parts w.heap.size ps v w) (hs : ∀ p ∈ ps, SmallPart 2147483647 p) (ho : ∀ p ∈ ps, Okp p) (hn : ps.length ≤ 100000000) (hlen : (commandText ps).length ≤ 1000000000) :
    Calls Try.prog 6 #[v] w fun e w' => e = .returned (.bool true) ∧ Below w.heap.size w w' := by
  have f1 := fits7 w.heap.size ps v w h (Nat.le_refl _) (by omega) hs
  have cP : ∀ W, Below w.heap.size w W → Calls Try.prog 17 #[v] W (Gives (commandText ps) W) := fun W hW => print_command w.heap.size ps v W (h.below hW) hW.size (by omega) (by omega)
  have cT : ∀ W, Below w.heap.size w W → Calls Try.prog 18 #[v] W (Gives (commandText ps) W) := fun W hW => command_text w.heap.size ps v W (h.below hW) hW.size ho hlen
  obtain ⟨ao, cap, rfl, -⟩ := h
  generalize commandText ps = t at *
  have CP := Lib.hid cP
  have CT := Lib.hid cT
  clear hs ho cP cT
  go_enter Try.func6, Try.ntmps6
  go_wp2_with fail
  refine f1.mono ?_
  rintro e w1 ⟨rfl, hb1⟩
  have c2 := CP.out w1 hb1
  have Hb1 := Lib.hid hb1
  clear f1 hb1
  go_wp2_with fail
  refine c2.mono ?_
  rintro e w2 ⟨rfl, q2⟩
  have Hb2 := Lib.hid (Hb1.out.trans (q2.mono Hb1.out.size))
  have c3 := CT.out w2 Hb2.out
  clear c2 q2
  go_wp2_with fail
  refine c3.mono ?_
  rintro e w3 ⟨rfl, q3⟩
  have Hb3 := Lib.hid (Hb2.out.trans (q3.mono Hb2.out.size))
  clear c3 q3
  go_wp2
  go_ret
  exact ⟨by simp, Hb3.out⟩

end Go.Proofs.Yteikiecbjjmkoaa
