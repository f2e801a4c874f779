/- String of each node that writes itself into a builder of its own; String of a node behind the interface; PrintPart. -/
import Derived.Test.YteikiecbjjmkoaaOpd
namespace Go.Proofs.Yteikiecbjjmkoaa
open Go.RowKit Go.Proofs

/-- What writeTo of the node at block a does, in every later world. -/
def Puts (f a : Nat) (t : List UInt8) (w : World) : Prop :=
  ∀ b l w', Below w.heap.size w w' → w.heap.size ≤ b → Holds b l w' → l.length + t.length ≤ 140737488355328 → Calls Try.prog f #[.pointer (some ⟨a, 0, none⟩), .pointer (some ⟨b, 0, none⟩)] w' (Wrote b l t w')

theorem string_field (a : Nat) (t : List UInt8) (w : World) (hput : Puts 72 a t w) (hlen : t.length ≤ 140737488355328) : Calls Try.prog 70 #[.pointer (some ⟨a, 0, none⟩)] w (Gives t w) := by
  have hb0 : Below w.heap.size w (w.alloc (.cells #[.pointer none, .slice none 0 0] 71)) := (Below.refl _ _).alloc (Nat.le_refl _) _
  have c1 := hput w.heap.size [] _ hb0 (Nat.le_refl _) (fresh_holds w) (by simpa using hlen)
  have Hb0 := Lib.hid hb0
  clear hb0 hlen hput
  go_enter Try.func70, Try.ntmps70
  go_wp2_with fail
  refine c1.mono ?_
  rintro e w' ⟨rfl, q1, q2⟩
  have c2 := Try.Builder_String_any w.heap.size w.heap.size t w' (by simpa using q1.1) q1.2
  have HW := Lib.hid (Hb0.out.trans q2)
  clear q1 q2 c1
  go_wp2_with fail
  refine c2.mono ?_
  rintro e w'' ⟨rfl, q3⟩
  have HW2 := Lib.hid (HW.out.trans q3)
  clear q3 c2 HW
  go_wp2
  go_ret
  exact ⟨rfl, HW2.out⟩

theorem string_variable (a : Nat) (t : List UInt8) (w : World) (hput : Puts 37 a t w) (hlen : t.length ≤ 140737488355328) : Calls Try.prog 66 #[.pointer (some ⟨a, 0, none⟩)] w (Gives t w) := by
  have hb0 : Below w.heap.size w (w.alloc (.cells #[.pointer none, .slice none 0 0] 71)) := (Below.refl _ _).alloc (Nat.le_refl _) _
  have c1 := hput w.heap.size [] _ hb0 (Nat.le_refl _) (fresh_holds w) (by simpa using hlen)
  have Hb0 := Lib.hid hb0
  clear hb0 hlen hput
  go_enter Try.func66, Try.ntmps66
  go_wp2_with fail
  refine c1.mono ?_
  rintro e w' ⟨rfl, q1, q2⟩
  have c2 := Try.Builder_String_any w.heap.size w.heap.size t w' (by simpa using q1.1) q1.2
  have HW := Lib.hid (Hb0.out.trans q2)
  clear q1 q2 c1
  go_wp2_with fail
  refine c2.mono ?_
  rintro e w'' ⟨rfl, q3⟩
  have HW2 := Lib.hid (HW.out.trans q3)
  clear q3 c2 HW
  go_wp2
  go_ret
  exact ⟨rfl, HW2.out⟩

theorem string_chain (a : Nat) (t : List UInt8) (w : World) (hput : Puts 32 a t w) (hlen : t.length ≤ 140737488355328) : Calls Try.prog 26 #[.pointer (some ⟨a, 0, none⟩)] w (Gives t w) := by
  have hb0 : Below w.heap.size w (w.alloc (.cells #[.pointer none, .slice none 0 0] 71)) := (Below.refl _ _).alloc (Nat.le_refl _) _
  have c1 := hput w.heap.size [] _ hb0 (Nat.le_refl _) (fresh_holds w) (by simpa using hlen)
  have Hb0 := Lib.hid hb0
  clear hb0 hlen hput
  go_enter Try.func26, Try.ntmps26
  go_wp2_with fail
  refine c1.mono ?_
  rintro e w' ⟨rfl, q1, q2⟩
  have c2 := Try.Builder_String_any w.heap.size w.heap.size t w' (by simpa using q1.1) q1.2
  have HW := Lib.hid (Hb0.out.trans q2)
  clear q1 q2 c1
  go_wp2_with fail
  refine c2.mono ?_
  rintro e w'' ⟨rfl, q3⟩
  have HW2 := Lib.hid (HW.out.trans q3)
  clear q3 c2 HW
  go_wp2
  go_ret
  exact ⟨rfl, HW2.out⟩

theorem string_command (a : Nat) (t : List UInt8) (w : World) (hput : Puts 33 a t w) (hlen : t.length ≤ 140737488355328) : Calls Try.prog 28 #[.pointer (some ⟨a, 0, none⟩)] w (Gives t w) := by
  have hb0 : Below w.heap.size w (w.alloc (.cells #[.pointer none, .slice none 0 0] 71)) := (Below.refl _ _).alloc (Nat.le_refl _) _
  have c1 := hput w.heap.size [] _ hb0 (Nat.le_refl _) (fresh_holds w) (by simpa using hlen)
  have Hb0 := Lib.hid hb0
  clear hb0 hlen hput
  go_enter Try.func28, Try.ntmps28
  go_wp2_with fail
  refine c1.mono ?_
  rintro e w' ⟨rfl, q1, q2⟩
  have c2 := Try.Builder_String_any w.heap.size w.heap.size t w' (by simpa using q1.1) q1.2
  have HW := Lib.hid (Hb0.out.trans q2)
  clear q1 q2 c1
  go_wp2_with fail
  refine c2.mono ?_
  rintro e w'' ⟨rfl, q3⟩
  have HW2 := Lib.hid (HW.out.trans q3)
  clear q3 c2 HW
  go_wp2
  go_ret
  exact ⟨rfl, HW2.out⟩

theorem string_pipe (a : Nat) (t : List UInt8) (w : World) (hput : Puts 34 a t w) (hlen : t.length ≤ 140737488355328) : Calls Try.prog 29 #[.pointer (some ⟨a, 0, none⟩)] w (Gives t w) := by
  have hb0 : Below w.heap.size w (w.alloc (.cells #[.pointer none, .slice none 0 0] 71)) := (Below.refl _ _).alloc (Nat.le_refl _) _
  have c1 := hput w.heap.size [] _ hb0 (Nat.le_refl _) (fresh_holds w) (by simpa using hlen)
  have Hb0 := Lib.hid hb0
  clear hb0 hlen hput
  go_enter Try.func29, Try.ntmps29
  go_wp2_with fail
  refine c1.mono ?_
  rintro e w' ⟨rfl, q1, q2⟩
  have c2 := Try.Builder_String_any w.heap.size w.heap.size t w' (by simpa using q1.1) q1.2
  have HW := Lib.hid (Hb0.out.trans q2)
  clear q1 q2 c1
  go_wp2_with fail
  refine c2.mono ?_
  rintro e w'' ⟨rfl, q3⟩
  have HW2 := Lib.hid (HW.out.trans q3)
  clear q3 c2 HW
  go_wp2
  go_ret
  exact ⟨rfl, HW2.out⟩

/-- How the walk meets String of a node. -/
def Strings (v : Value) (t : List UInt8) (w : World) : Prop :=
  ∃ (T a f : Nat), v = .iface T (.pointer (some ⟨a, 0, none⟩)) ∧
    (∀ w', (method 259 T (.pointer (some ⟨a, 0, none⟩)) "String").run Try.prog w' = .ok (f, .pointer (some ⟨a, 0, none⟩)) w') ∧
    (∀ args w', (callFunc f args).run Try.prog w' = .ok (.enter f args) w') ∧
    Calls Try.prog f #[.pointer (some ⟨a, 0, none⟩)] w (Gives t w)

theorem node_strings (B0 : Nat) (v : Value) (t : List UInt8) (w : World) (h : IsNode B0 w.heap.size v t w) (hlen : t.length ≤ 140737488355328) : Strings v t w := by
  obtain ⟨hB0, a, h | h | h | h | h | h | h | h | h⟩ := h
  · obtain ⟨rfl, ss, sv, hbx, hss, rfl⟩ := h
    refine ⟨73, a, 70, rfl, fun _ => by kernel_rfl, enters 70 _ _ Try.func70 (by kernel_rfl) rfl, string_field a _ w (fun b l w' hb hBb hh hl => ?_) hlen⟩
    exact put_field w.heap.size a b ss sv l w' (hbx.below hb).cell ((hss.mono hB0).below hb) hBb hh hl
  · obtain ⟨rfl, ss, sv, hbx, hss, rfl⟩ := h
    refine ⟨66, a, 66, rfl, fun _ => by kernel_rfl, enters 66 _ _ Try.func66 (by kernel_rfl) rfl, string_variable a _ w (fun b l w' hb hBb hh hl => ?_) hlen⟩
    exact put_variable w.heap.size a b ss sv l w' (hbx.below hb).cell ((hss.mono hB0).below hb) hBb hh hl
  · obtain ⟨rfl, x, hbx, rfl⟩ := h
    exact ⟨75, a, 74, rfl, fun _ => by kernel_rfl, enters 74 _ _ Try.func74 (by kernel_rfl) rfl, (text_bool a x w hbx.cell).mono fun e w' ⟨h1, h2⟩ => ⟨h1, h2 ▸ Below.refl _ _⟩⟩
  · obtain ⟨rfl, s, hbx, rfl⟩ := h
    exact ⟨78, a, 78, rfl, fun _ => by kernel_rfl, enters 78 _ _ Try.func78 (by kernel_rfl) rfl, (text_string a s w hbx.cell).mono fun e w' ⟨h1, h2⟩ => ⟨h1, h2 ▸ Below.refl _ _⟩⟩
  · obtain ⟨rfl, s, hbx, rfl⟩ := h
    exact ⟨81, a, 82, rfl, fun _ => by kernel_rfl, enters 82 _ _ Try.func82 (by kernel_rfl) rfl, (text_number a s w hbx.cell).mono fun e w' ⟨h1, h2⟩ => ⟨h1, h2 ▸ Below.refl _ _⟩⟩
  · obtain ⟨rfl, s, hbx, rfl⟩ := h
    exact ⟨87, a, 87, rfl, fun _ => by kernel_rfl, enters 87 _ _ Try.func87 (by kernel_rfl) rfl, (text_ident a s w hbx.cell).mono fun e w' ⟨h1, h2⟩ => ⟨h1, h2 ▸ Below.refl _ _⟩⟩
  · obtain ⟨rfl, rfl⟩ := h
    exact ⟨90, a, 91, rfl, fun _ => by kernel_rfl, enters 91 _ _ Try.func91 (by kernel_rfl) rfl, (text_nil a w).mono fun e w' ⟨h1, h2⟩ => ⟨h1, h2 ▸ Below.refl _ _⟩⟩
  · obtain ⟨rfl, rfl⟩ := h
    exact ⟨93, a, 96, rfl, fun _ => by kernel_rfl, enters 96 _ _ Try.func96 (by kernel_rfl) rfl, (text_dot a w).mono fun e w' ⟨h1, h2⟩ => ⟨h1, h2 ▸ Below.refl _ _⟩⟩
  · obtain ⟨rfl, sv, hbx, hs⟩ := h
    exact ⟨48, a, 58, rfl, fun _ => by kernel_rfl, enters 58 _ _ Try.func58 (by kernel_rfl) rfl, (text_text w.heap.size a t sv w hbx.cell hs).mono fun e w' ⟨h1, h2⟩ => ⟨h1, h2 ▸ Below.refl _ _⟩⟩

set_option maxRecDepth 100000 in
set_option maxHeartbeats 400000 in
/-- impl.PrintPart. -/
theorem print_part (B0 : Nat) (p : Part) (v : Value) (w : World) (h : IsPart B0 p v w) (hB : B0 ≤ w.heap.size) (hlen : (partText p).length ≤ 140737488355328) :
    Calls Try.prog 22 #[v] w (Gives (partText p) w) := by
  have hb0 : Below w.heap.size w (w.alloc (.cells v.cells 27)) := (Below.refl _ _).alloc (Nat.le_refl _) _
  have c1 := operand_makes B0 p v _ (h.below (hb0.mono hB)) (Nat.le_trans hB hb0.size)
  have Hb0 := Lib.hid hb0
  obtain ⟨nv, rfl, -⟩ := h
  generalize partText p = t at *
  generalize p.kind = k at *
  generalize p.text = tx at *
  generalize p.tr = tr at *
  clear hb0
  go_enter Try.func22, Try.ntmps22
  go_wp2_with fail
  refine c1.mono ?_
  rintro e w1 ⟨x, rfl, hx, hb1⟩
  have Hb1 := Lib.hid (Hb0.out.trans (hb1.mono Hb0.out.size))
  obtain ⟨T, a, f, rfl, hm, he, hcall⟩ := node_strings B0 x t w1 hx hlen
  have Hm := Lib.hid hm
  have He := Lib.hid he
  clear hm he hx hb1 c1
  go_wp2_with fail
  rw [Hm.out]
  simp only [Result.andThen]
  rw [He.out, Oper.upon_enter]
  refine hcall.mono ?_
  rintro e w2 ⟨rfl, q1⟩
  have Hb2 := Lib.hid (Hb1.out.trans (q1.mono Hb1.out.size))
  clear q1 hcall
  go_wp2
  go_ret
  exact ⟨rfl, Hb2.out⟩

/-- The boxed operand's four cells stand. -/
theorem box4 {w W : World} {c0 c1 c2 c3 : Value} (h : Below (w.heap.size + 1) (w.alloc (.cells #[c0, c1, c2, c3] 27)) W) :
    W.cell? ⟨w.heap.size, 0, none⟩ = some c0 ∧ W.cell? ⟨w.heap.size, 1, none⟩ = some c1 ∧ W.cell? ⟨w.heap.size, 2, none⟩ = some c2 ∧ W.cell? ⟨w.heap.size, 3, none⟩ = some c3 := by
  have hb : W.heap[w.heap.size]? = some (.cells #[c0, c1, c2, c3] 27) := (h.block w.heap.size (by omega)).trans (heap_alloc_new w _)
  exact ⟨by rw [Lib.cell_of_heap hb]; rfl, by rw [Lib.cell_of_heap hb]; rfl, by rw [Lib.cell_of_heap hb]; rfl, by rw [Lib.cell_of_heap hb]; rfl⟩

end Go.Proofs.Yteikiecbjjmkoaa
