/- impl.operand makes a node that prints as the operand is written; String of a node; PrintPart. -/
import Derived.Test.YteikiecbjjmkoaaPart
namespace Go.Proofs.Yteikiecbjjmkoaa
open Go.RowKit Go.Proofs

/-- What operand leaves: an interface value that is a node. -/
def Makes (B0 : Nat) (t : List UInt8) (w : World) (e : Ending) (w' : World) : Prop := ∃ x, e = .returned x ∧ IsNode B0 w'.heap.size x t w' ∧ Below w.heap.size w w'

theorem two (w : World) (a b : Obj) : ((w.alloc a).alloc b).heap[w.heap.size + 1]? = some b ∧ ((w.alloc a).alloc b).heap.size = w.heap.size + 2 := by
  refine ⟨?_, ?_⟩
  · show ((w.heap.push a).push b)[w.heap.size + 1]? = some b
    rw [Array.getElem?_push, if_pos (by simp)]
  · show ((w.heap.push a).push b).size = _
    simp

theorem box_two (w : World) (a : Obj) (cs : Array Value) (T j : Nat) (x : Value) (h : cs[j]? = some x) : Box ((w.alloc a).alloc (.cells cs T)).heap.size (w.heap.size + 1) T j x ((w.alloc a).alloc (.cells cs T)) :=
  ⟨by rw [(two w a _).2]; omega, cs, (0, 0), (two w a _).1, h⟩

set_option maxRecDepth 100000 in
set_option maxHeartbeats 1000000 in
theorem operand_makes (B0 : Nat) (p : Part) (v : Value) (w : World) (h : IsPart B0 p v w) (hB : B0 ≤ w.heap.size) :
    Calls Try.prog 25 #[v] w (Makes B0 (partText p) w) := by
  obtain ⟨nv, rfl, hn⟩ := h
  have hsz : ∀ a b, B0 ≤ ((w.alloc a).alloc b).heap.size := fun a b => by rw [(two w a b).2]; omega
  have Hn := Lib.hid hn
  have Hsz := Lib.hid hsz
  obtain ⟨ao, cap, rfl, -⟩ := hn
  obtain ⟨k, names, tx, tr⟩ := p
  simp only at *
  clear hsz
  rcases kind_cases k with rfl | rfl | rfl | rfl | rfl | rfl | rfl | hk
  · have Hb := Lib.hid (below_two w (.cells #[.string ⟨#[102, 105, 101, 108, 100]⟩, .slice ao names.length cap, .string tx, .bool tr] 27) (.cells #[.int .i64 0, .int .i64 0, .pointer none, .slice ao names.length cap] 74))
    have Hx := Lib.hid (box_two w (.cells #[.string ⟨#[102, 105, 101, 108, 100]⟩, .slice ao names.length cap, .string tx, .bool tr] 27) #[.int .i64 0, .int .i64 0, .pointer none, .slice ao names.length cap] 74 3 _ rfl)
    go_enter Try.func25, Try.ntmps25
    go_wp2
    go_ret
    exact ⟨_, rfl, ⟨Hsz.out _ _, w.heap.size + 1, .inl ⟨rfl, names, _, Hx.out, Hn.out.below (Hb.out.mono hB), rfl⟩⟩, Hb.out⟩
  · have Hb := Lib.hid (below_two w (.cells #[.string ⟨#[118, 97, 114, 105, 97, 98, 108, 101]⟩, .slice ao names.length cap, .string tx, .bool tr] 27) (.cells #[.int .i64 0, .int .i64 0, .pointer none, .slice ao names.length cap] 68))
    have Hx := Lib.hid (box_two w (.cells #[.string ⟨#[118, 97, 114, 105, 97, 98, 108, 101]⟩, .slice ao names.length cap, .string tx, .bool tr] 27) #[.int .i64 0, .int .i64 0, .pointer none, .slice ao names.length cap] 68 3 _ rfl)
    go_enter Try.func25, Try.ntmps25
    go_wp2
    go_ret
    exact ⟨_, rfl, ⟨Hsz.out _ _, w.heap.size + 1, .inr (.inl ⟨rfl, names, _, Hx.out, Hn.out.below (Hb.out.mono hB), rfl⟩)⟩, Hb.out⟩
  · have Hb := Lib.hid (below_two w (.cells #[.string ⟨#[98, 111, 111, 108]⟩, .slice ao names.length cap, .string tx, .bool tr] 27) (.cells #[.int .i64 0, .int .i64 0, .pointer none, .bool tr] 77))
    have Hx := Lib.hid (box_two w (.cells #[.string ⟨#[98, 111, 111, 108]⟩, .slice ao names.length cap, .string tx, .bool tr] 27) #[.int .i64 0, .int .i64 0, .pointer none, .bool tr] 77 3 _ rfl)
    go_enter Try.func25, Try.ntmps25
    go_wp2
    go_ret
    exact ⟨_, rfl, ⟨Hsz.out _ _, w.heap.size + 1, .inr (.inr (.inl ⟨rfl, tr, Hx.out, rfl⟩))⟩, Hb.out⟩
  · have Hb := Lib.hid (below_two w (.cells #[.string ⟨#[115, 116, 114, 105, 110, 103]⟩, .slice ao names.length cap, .string tx, .bool tr] 27) (.cells #[.int .i64 0, .int .i64 0, .pointer none, .string tx, .string ⟨#[]⟩] 80))
    have Hx := Lib.hid (box_two w (.cells #[.string ⟨#[115, 116, 114, 105, 110, 103]⟩, .slice ao names.length cap, .string tx, .bool tr] 27) #[.int .i64 0, .int .i64 0, .pointer none, .string tx, .string ⟨#[]⟩] 80 3 _ rfl)
    go_enter Try.func25, Try.ntmps25
    go_wp2
    go_ret
    exact ⟨_, rfl, ⟨Hsz.out _ _, w.heap.size + 1, .inr (.inr (.inr (.inl ⟨rfl, tx, Hx.out, rfl⟩)))⟩, Hb.out⟩
  · have Hb := Lib.hid (below_two w (.cells #[.string ⟨#[110, 117, 109, 98, 101, 114]⟩, .slice ao names.length cap, .string tx, .bool tr] 27) (.cells #[.int .i64 0, .int .i64 0, .pointer none, .bool false, .bool false, .bool false, .bool false, .int .i64 0, .int .u64 0, .float .f64 0, .complex .f64 0 0, .string tx] 86))
    have Hx := Lib.hid (box_two w (.cells #[.string ⟨#[110, 117, 109, 98, 101, 114]⟩, .slice ao names.length cap, .string tx, .bool tr] 27) #[.int .i64 0, .int .i64 0, .pointer none, .bool false, .bool false, .bool false, .bool false, .int .i64 0, .int .u64 0, .float .f64 0, .complex .f64 0 0, .string tx] 86 11 _ rfl)
    go_enter Try.func25, Try.ntmps25
    go_wp2
    go_ret
    exact ⟨_, rfl, ⟨Hsz.out _ _, w.heap.size + 1, .inr (.inr (.inr (.inr (.inl ⟨rfl, tx, Hx.out, rfl⟩))))⟩, Hb.out⟩
  · have Hb := Lib.hid (below_two w (.cells #[.string ⟨#[105, 100, 101, 110, 116]⟩, .slice ao names.length cap, .string tx, .bool tr] 27) (.cells #[.int .i64 0, .int .i64 0, .pointer none, .string tx] 89))
    have Hx := Lib.hid (box_two w (.cells #[.string ⟨#[105, 100, 101, 110, 116]⟩, .slice ao names.length cap, .string tx, .bool tr] 27) #[.int .i64 0, .int .i64 0, .pointer none, .string tx] 89 3 _ rfl)
    go_enter Try.func25, Try.ntmps25
    go_wp2
    go_ret
    exact ⟨_, rfl, ⟨Hsz.out _ _, w.heap.size + 1, .inr (.inr (.inr (.inr (.inr (.inl ⟨rfl, tx, Hx.out, rfl⟩)))))⟩, Hb.out⟩
  · have Hb := Lib.hid (below_two w (.cells #[.string ⟨#[110, 105, 108]⟩, .slice ao names.length cap, .string tx, .bool tr] 27) (.cells #[.int .i64 0, .int .i64 0, .pointer none] 92))
    go_enter Try.func25, Try.ntmps25
    go_wp2
    go_ret
    exact ⟨_, rfl, ⟨Hsz.out _ _, w.heap.size + 1, .inr (.inr (.inr (.inr (.inr (.inr (.inl ⟨rfl, rfl⟩))))))⟩, Hb.out⟩
  · have e1 : partText ⟨k, names, tx, tr⟩ = [46] := partText_other _ hk
    rw [e1]
    obtain ⟨h1, h2, h3, h4, h5, h6, h7⟩ := hk
    have Hb := Lib.hid (below_two w (.cells #[.string k, .slice ao names.length cap, .string tx, .bool tr] 27) (.cells #[.int .i64 0, .int .i64 0, .pointer none] 94))
    go_enter Try.func25, Try.ntmps25
    go_wp2
    go_ret
    exact ⟨_, rfl, ⟨Hsz.out _ _, w.heap.size + 1, .inr (.inr (.inr (.inr (.inr (.inr (.inr (.inl ⟨rfl, rfl⟩)))))))⟩, Hb.out⟩

end Go.Proofs.Yteikiecbjjmkoaa
