/- PrintChain and PrintCommand. -/
import Derived.Test.YteikiecbjjmkoaaPut
import Derived.Test.YteikiecbjjmkoaaCmd
namespace Go.Proofs.Yteikiecbjjmkoaa
open Go.RowKit Go.Proofs

set_option maxRecDepth 100000 in
set_option maxHeartbeats 400000 in
/-- impl.PrintCommand. -/
theorem print_command (B : Nat) (ps : List Part) (v : Value) (w : World) (h : Parts B ps v w) (hB : B ≤ w.heap.size) (hn : ps.length ≤ 1000000000) (hlen : (commandText ps).length ≤ 140737488355328) :
    Calls Try.prog 17 #[v] w (Gives (commandText ps) w) := by
  have c1 := command_makes B ps v w h hB hn
  have hl := hlen
  unfold commandText at hl ⊢
  obtain ⟨ao, cap, rfl, -⟩ := h
  go_enter Try.func17, Try.ntmps17
  go_wp2_with fail
  refine c1.mono ?_
  rintro e w1 ⟨rfl, x, vs, hR⟩
  have hnodes := hR.nodes (by simp)
  have hb1 : Below w.heap.size w w1 := hR.2.2.2
  have n3 : w1.cell? ⟨w.heap.size, 3, none⟩ = some x := by rw [Lib.cell_of_heap hR.1]; rfl
  have c2 := string_command w.heap.size (sepBy [32] (ps.map partText)) w1 (fun b l w' hb hBb hh hl => put_command B w1.heap.size w.heap.size b _ x l w' ((hb.cell (p := ⟨w.heap.size, 3, none⟩) (World.block_lt_of_cell? w1 _ n3)).trans n3) (hnodes.below hb) hBb hh hl) hl
  have Hb1 := Lib.hid hb1
  clear hnodes hb1 n3 hR c1 hl
  go_wp2_with fail
  refine c2.mono ?_
  rintro e w2 ⟨rfl, q1⟩
  have Hb2 := Lib.hid (Hb1.out.trans (q1.mono Hb1.out.size))
  clear q1 c2
  go_wp2
  go_ret
  exact ⟨rfl, Hb2.out⟩

set_option maxRecDepth 100000 in
set_option maxHeartbeats 1000000 in
/-- impl.PrintChain. -/
theorem print_chain (B : Nat) (p : Part) (ss : List ByteArray) (v fv : Value) (w : World) (h : IsPart B p v w) (hs : Strs B ss fv w) (hB : B ≤ w.heap.size) (hlen : (partText p ++ dotted ss).length ≤ 140737488355328) :
    Calls Try.prog 15 #[v, fv] w (Gives (partText p ++ dotted ss) w) := by
  have hb0 : Below w.heap.size w (w.alloc (.cells v.cells 27)) := (Below.refl _ _).alloc (Nat.le_refl _) _
  have c1 := operand_makes B p v _ (h.below (hb0.mono hB)) (Nat.le_trans hB hb0.size)
  have Hb0 := Lib.hid hb0
  have Hs := Lib.hid hs
  obtain ⟨nv, rfl, -⟩ := h
  obtain ⟨ao, cap, rfl, -⟩ := hs
  generalize partText p = t at *
  generalize p.kind = k at *
  generalize p.text = tx at *
  generalize p.tr = tr at *
  clear hb0
  go_enter Try.func15, Try.ntmps15
  go_wp2_with fail
  refine c1.mono ?_
  rintro e w1 ⟨x, rfl, hx, hb1⟩
  obtain ⟨T, a, rfl⟩ := node_form hx
  have hb2 : Below w.heap.size w w1 := Hb0.out.trans (hb1.mono Hb0.out.size)
  have hw2 : Below w1.heap.size w1 (w1.alloc (.cells #[.int .i64 0, .int .i64 0, .pointer none, .iface T (.pointer (some ⟨a, 0, none⟩)), .slice ao ss.length cap] 58)) := (Below.refl _ _).alloc (Nat.le_refl _) _
  have hbk : (w1.alloc (.cells #[.int .i64 0, .int .i64 0, .pointer none, .iface T (.pointer (some ⟨a, 0, none⟩)), .slice ao ss.length cap] 58)).heap[w1.heap.size]? = some (.cells #[.int .i64 0, .int .i64 0, .pointer none, .iface T (.pointer (some ⟨a, 0, none⟩)), .slice ao ss.length cap] 58) := heap_alloc_new w1 _
  have hsz : (w1.alloc (.cells #[.int .i64 0, .int .i64 0, .pointer none, .iface T (.pointer (some ⟨a, 0, none⟩)), .slice ao ss.length cap] 58)).heap.size = w1.heap.size + 1 := World.size_alloc ..
  have c2 := string_chain w1.heap.size (t ++ dotted ss) _ (fun b l w' hb hBb hh hl => by
    have hb' : Below (w1.heap.size + 1) (w1.alloc (.cells #[.int .i64 0, .int .i64 0, .pointer none, .iface T (.pointer (some ⟨a, 0, none⟩)), .slice ao ss.length cap] 58)) w' := by rw [← hsz]; exact hb
    have hBb' : w1.heap.size + 1 ≤ b := by rw [← hsz]; exact hBb
    have hs' := (((Hs.out.below (hb2.mono hB)).below (hw2.mono (Nat.le_trans hB hb2.size))).mono (show B ≤ w1.heap.size + 1 from by have := hb2.size; omega)).below hb'
    have hx' := ((hx.below hw2).mono (Nat.le_succ _)).below hb'
    exact put_chain B (w1.heap.size + 1) w1.heap.size b t ss _ _ l w' ((hb'.cell (p := ⟨w1.heap.size, 3, none⟩) (Nat.lt_succ_self _)).trans ((Lib.cell_of_heap hbk 3).trans rfl)) ((hb'.cell (p := ⟨w1.heap.size, 4, none⟩) (Nat.lt_succ_self _)).trans ((Lib.cell_of_heap hbk 4).trans rfl))
      hx' hs' (Nat.lt_succ_self _) hBb' hh hl) hlen
  have Hb2 := Lib.hid (hb2.trans (hw2.mono hb2.size))
  have Hsz := Lib.hid hb2.size
  clear hx hb1 hb2 hw2 hbk hsz c1
  go_wp2_with fail
  refine c2.mono ?_
  rintro e w2 ⟨rfl, q1⟩
  have Hb3 := Lib.hid (Hb2.out.trans (q1.mono Hb2.out.size))
  clear q1 c2
  go_wp2
  go_ret
  exact ⟨rfl, Hb3.out⟩

end Go.Proofs.Yteikiecbjjmkoaa
