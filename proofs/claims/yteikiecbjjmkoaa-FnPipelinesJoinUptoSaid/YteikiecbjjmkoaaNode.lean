/- A node behind the interface: what it prints, whatever its kind; and the list of texts. -/
import Derived.Test.YteikiecbjjmkoaaLeaf
namespace Go.Proofs.Yteikiecbjjmkoaa
open Go.RowKit Go.Proofs

/-- The interface value v is a node, of blocks below B, that prints t; names that it holds lie below B0. -/
def IsNode (B0 B : Nat) (v : Value) (t : List UInt8) (w : World) : Prop :=
  B0 ≤ B ∧ ∃ a : Nat,
    (v = .iface 73 (.pointer (some ⟨a, 0, none⟩)) ∧ ∃ ss sv, Box B a 74 3 sv w ∧ Strs B0 ss sv w ∧ t = dotted ss) ∨
    (v = .iface 66 (.pointer (some ⟨a, 0, none⟩)) ∧ ∃ ss sv, Box B a 68 3 sv w ∧ Strs B0 ss sv w ∧ t = varText ss) ∨
    (v = .iface 75 (.pointer (some ⟨a, 0, none⟩)) ∧ ∃ x, Box B a 77 3 (.bool x) w ∧ t = boolText x) ∨
    (v = .iface 78 (.pointer (some ⟨a, 0, none⟩)) ∧ ∃ s, Box B a 80 3 (.string s) w ∧ t = s.data.toList) ∨
    (v = .iface 81 (.pointer (some ⟨a, 0, none⟩)) ∧ ∃ s, Box B a 86 11 (.string s) w ∧ t = s.data.toList) ∨
    (v = .iface 87 (.pointer (some ⟨a, 0, none⟩)) ∧ ∃ s, Box B a 89 3 (.string s) w ∧ t = s.data.toList) ∨
    (v = .iface 90 (.pointer (some ⟨a, 0, none⟩)) ∧ t = [110, 105, 108]) ∨
    (v = .iface 93 (.pointer (some ⟨a, 0, none⟩)) ∧ t = [46]) ∨
    (v = .iface 48 (.pointer (some ⟨a, 0, none⟩)) ∧ ∃ sv, Box B a 51 3 sv w ∧ Bytes B t sv w)

/-- The value v is a list of nodes that print the texts ts; the cells lie below block B. -/
def Nodes (B0 B : Nat) (ts : List (List UInt8)) (v : Value) (w : World) : Prop :=
  ∃ ao cap, v = .slice ao ts.length cap ∧ ts.length ≤ cap ∧ cap ≤ maxLen ∧ ∀ i, i < ts.length → ∃ b off x, ao = some ⟨b, off, none⟩ ∧ b < B ∧ w.cell? ⟨b, off + i, none⟩ = some x ∧ IsNode B0 B x (ts.getD i []) w

/-- nm is the name of the unexported method writeTo, as the program's own table of methods has it. -/
def IsWt (nm : String) : Prop := nm = ((Try.prog.info? 48).bind fun i => (i.methods.map (·.name))[5]?).getD ""

/-- How the walk meets writeTo of a node: the method found, that it is entered, that it is no pipeline, and what the call leaves. -/
def Writes (B : Nat) (v : Value) (t : List UInt8) (w : World) : Prop :=
  ∃ (T a f : Nat), v = .iface T (.pointer (some ⟨a, 0, none⟩)) ∧
    (∀ nm w', IsWt nm → (method 259 T (.pointer (some ⟨a, 0, none⟩)) nm).run Try.prog w' = .ok (f, .pointer (some ⟨a, 0, none⟩)) w') ∧
    (∀ args w', (callFunc f args).run Try.prog w' = .ok (.enter f args) w') ∧
    T ≠ 61 ∧ (∀ w', (Instr.typeAssert (.iface T (.pointer (some ⟨a, 0, none⟩))) 55 61 true).run Try.prog w' = .ok (.tuple #[.pointer none, .bool false]) w') ∧
    ∀ b l w', Below B w w' → B ≤ b → Holds b l w' → l.length + t.length ≤ 140737488355328 → Calls Try.prog f #[.pointer (some ⟨a, 0, none⟩), .pointer (some ⟨b, 0, none⟩)] w' (Wrote b l t w')

theorem enters (f : Nat) (fn : Func) (c : Code) (hf : Try.prog.funcs[f]? = some fn) (hname : (fn.name == "runtime.NumGoroutine") = false) (hb : fn.body = some c) : ∀ args w', (callFunc f args).run Try.prog w' = .ok (.enter f args) w' :=
by
  intro args w'
  have h1 : fn.name ≠ "runtime.NumGoroutine" := by simpa using hname
  simp [callFunc, hf, h1, hb, mark]

theorem node_writes (B0 B : Nat) (v : Value) (t : List UInt8) (w : World) (h : IsNode B0 B v t w) : Writes B v t w := by
  obtain ⟨hB0, a, h | h | h | h | h | h | h | h | h⟩ := h
  · obtain ⟨rfl, ss, sv, hbx, hss, rfl⟩ := h
    refine ⟨73, a, 72, rfl, fun nm w' h => by rw [show nm = _ from h]; kernel_rfl, enters 72 _ _ Try.func72 (by kernel_rfl) rfl, by decide, fun w' => by kernel_rfl, fun b l w' hb hBb hh hl => ?_⟩
    exact put_field B a b ss sv l w' (hbx.below hb).cell ((hss.mono hB0).below hb) hBb hh hl
  · obtain ⟨rfl, ss, sv, hbx, hss, rfl⟩ := h
    refine ⟨66, a, 37, rfl, fun nm w' h => by rw [show nm = _ from h]; kernel_rfl, enters 37 _ _ Try.func37 (by kernel_rfl) rfl, by decide, fun w' => by kernel_rfl, fun b l w' hb hBb hh hl => ?_⟩
    exact put_variable B a b ss sv l w' (hbx.below hb).cell ((hss.mono hB0).below hb) hBb hh hl
  · obtain ⟨rfl, x, hbx, rfl⟩ := h
    refine ⟨75, a, 76, rfl, fun nm w' h => by rw [show nm = _ from h]; kernel_rfl, enters 76 _ _ Try.func76 (by kernel_rfl) rfl, by decide, fun w' => by kernel_rfl, fun b l w' hb _ hh hl => ?_⟩
    exact put_bool a b x l w' (hbx.below hb).cell hh hl
  · obtain ⟨rfl, s, hbx, rfl⟩ := h
    refine ⟨78, a, 80, rfl, fun nm w' h => by rw [show nm = _ from h]; kernel_rfl, enters 80 _ _ Try.func80 (by kernel_rfl) rfl, by decide, fun w' => by kernel_rfl, fun b l w' hb _ hh hl => ?_⟩
    exact put_text_string a b s l w' (hbx.below hb).cell hh hl
  · obtain ⟨rfl, s, hbx, rfl⟩ := h
    refine ⟨81, a, 85, rfl, fun nm w' h => by rw [show nm = _ from h]; kernel_rfl, enters 85 _ _ Try.func85 (by kernel_rfl) rfl, by decide, fun w' => by kernel_rfl, fun b l w' hb _ hh hl => ?_⟩
    exact put_number a b s l w' (hbx.below hb).cell hh hl
  · obtain ⟨rfl, s, hbx, rfl⟩ := h
    refine ⟨87, a, 89, rfl, fun nm w' h => by rw [show nm = _ from h]; kernel_rfl, enters 89 _ _ Try.func89 (by kernel_rfl) rfl, by decide, fun w' => by kernel_rfl, fun b l w' hb _ hh hl => ?_⟩
    exact put_ident a b s l w' (hbx.below hb).cell hh hl
  · obtain ⟨rfl, rfl⟩ := h
    exact ⟨90, a, 94, rfl, fun nm w' h => by rw [show nm = _ from h]; kernel_rfl, enters 94 _ _ Try.func94 (by kernel_rfl) rfl, by decide, fun w' => by kernel_rfl, fun b l w' _ _ hh hl => put_nil a b l w' hh hl⟩
  · obtain ⟨rfl, rfl⟩ := h
    exact ⟨93, a, 99, rfl, fun nm w' h => by rw [show nm = _ from h]; kernel_rfl, enters 99 _ _ Try.func99 (by kernel_rfl) rfl, by decide, fun w' => by kernel_rfl, fun b l w' _ _ hh hl => put_dot_node a b l w' hh hl⟩
  · obtain ⟨rfl, sv, hbx, hs⟩ := h
    refine ⟨48, a, 59, rfl, fun nm w' h => by rw [show nm = _ from h]; kernel_rfl, enters 59 _ _ Try.func59 (by kernel_rfl) rfl, by decide, fun w' => by kernel_rfl, fun b l w' hb _ hh hl => ?_⟩
    exact put_text B a b t sv l w' (hbx.below hb).cell (hs.below hb) hh hl

theorem IsNode.below {B0 B : Nat} {v : Value} {t : List UInt8} {w w' : World} (h : IsNode B0 B v t w) (hb : Below B w w') : IsNode B0 B v t w' := by
  obtain ⟨hB0, a, h | h | h | h | h | h | h | h | h⟩ := h
  · obtain ⟨rfl, ss, sv, hbx, hss, rfl⟩ := h
    exact ⟨hB0, a, .inl ⟨rfl, ss, sv, hbx.below hb, hss.below (hb.mono hB0), rfl⟩⟩
  · obtain ⟨rfl, ss, sv, hbx, hss, rfl⟩ := h
    exact ⟨hB0, a, .inr (.inl ⟨rfl, ss, sv, hbx.below hb, hss.below (hb.mono hB0), rfl⟩)⟩
  · obtain ⟨rfl, x, hbx, rfl⟩ := h
    exact ⟨hB0, a, .inr (.inr (.inl ⟨rfl, x, hbx.below hb, rfl⟩))⟩
  · obtain ⟨rfl, x, hbx, rfl⟩ := h
    exact ⟨hB0, a, .inr (.inr (.inr (.inl ⟨rfl, x, hbx.below hb, rfl⟩)))⟩
  · obtain ⟨rfl, x, hbx, rfl⟩ := h
    exact ⟨hB0, a, .inr (.inr (.inr (.inr (.inl ⟨rfl, x, hbx.below hb, rfl⟩))))⟩
  · obtain ⟨rfl, x, hbx, rfl⟩ := h
    exact ⟨hB0, a, .inr (.inr (.inr (.inr (.inr (.inl ⟨rfl, x, hbx.below hb, rfl⟩)))))⟩
  · exact ⟨hB0, a, .inr (.inr (.inr (.inr (.inr (.inr (.inl h))))))⟩
  · exact ⟨hB0, a, .inr (.inr (.inr (.inr (.inr (.inr (.inr (.inl h)))))))⟩
  · obtain ⟨rfl, sv, hbx, hs⟩ := h
    exact ⟨hB0, a, .inr (.inr (.inr (.inr (.inr (.inr (.inr (.inr ⟨rfl, sv, hbx.below hb, hs.below hb⟩)))))))⟩

theorem IsNode.mono {B0 B B' : Nat} {v : Value} {t : List UInt8} {w : World} (h : IsNode B0 B v t w) (hb : B ≤ B') : IsNode B0 B' v t w := by
  obtain ⟨hB0, a, h | h | h | h | h | h | h | h | h⟩ := h
  · obtain ⟨rfl, ss, sv, hbx, hss, rfl⟩ := h
    exact ⟨Nat.le_trans hB0 hb, a, .inl ⟨rfl, ss, sv, hbx.mono hb, hss, rfl⟩⟩
  · obtain ⟨rfl, ss, sv, hbx, hss, rfl⟩ := h
    exact ⟨Nat.le_trans hB0 hb, a, .inr (.inl ⟨rfl, ss, sv, hbx.mono hb, hss, rfl⟩)⟩
  · obtain ⟨rfl, x, hbx, rfl⟩ := h
    exact ⟨Nat.le_trans hB0 hb, a, .inr (.inr (.inl ⟨rfl, x, hbx.mono hb, rfl⟩))⟩
  · obtain ⟨rfl, x, hbx, rfl⟩ := h
    exact ⟨Nat.le_trans hB0 hb, a, .inr (.inr (.inr (.inl ⟨rfl, x, hbx.mono hb, rfl⟩)))⟩
  · obtain ⟨rfl, x, hbx, rfl⟩ := h
    exact ⟨Nat.le_trans hB0 hb, a, .inr (.inr (.inr (.inr (.inl ⟨rfl, x, hbx.mono hb, rfl⟩))))⟩
  · obtain ⟨rfl, x, hbx, rfl⟩ := h
    exact ⟨Nat.le_trans hB0 hb, a, .inr (.inr (.inr (.inr (.inr (.inl ⟨rfl, x, hbx.mono hb, rfl⟩)))))⟩
  · exact ⟨Nat.le_trans hB0 hb, a, .inr (.inr (.inr (.inr (.inr (.inr (.inl h))))))⟩
  · exact ⟨Nat.le_trans hB0 hb, a, .inr (.inr (.inr (.inr (.inr (.inr (.inr (.inl h)))))))⟩
  · obtain ⟨rfl, sv, hbx, hs⟩ := h
    exact ⟨Nat.le_trans hB0 hb, a, .inr (.inr (.inr (.inr (.inr (.inr (.inr (.inr ⟨rfl, sv, hbx.mono hb, hs.mono hb⟩)))))))⟩

/-- A node stands while a row of interface values grows and block N, of another type than a node's, is written. -/
theorem IsNode.kept {B0 B N e TN : Nat} {v : Value} {t : List UInt8} {w w' : World} (h : IsNode B0 B v t w) (hb : Below B0 w w') (hk : Lib.OthersKept e (some N) w w') (hN : ∃ cs fz, w.heap[N]? = some (.cells cs TN fz))
    (he : e ∉ [74, 68, 77, 80, 86, 89, 51, 5]) (hT : TN ∉ [74, 68, 77, 80, 86, 89, 51, 5]) : IsNode B0 B v t w' := by
  simp only [List.mem_cons, List.not_mem_nil, or_false, not_or] at he hT
  obtain ⟨he1, he2, he3, he4, he5, he6, he7, he8⟩ := he
  obtain ⟨hT1, hT2, hT3, hT4, hT5, hT6, hT7, hT8⟩ := hT
  obtain ⟨cN, fN, hN⟩ := hN
  have ne : ∀ {a j : Nat} {T : TypeId} {x : Value}, Box B a T j x w → TN ≠ T → a ≠ N := fun {a j T x} hbx hT e => by
    obtain ⟨_, cs, fz, h1, _⟩ := hbx
    subst e
    rw [hN] at h1
    exact hT (by injection (Option.some.inj h1))
  obtain ⟨hB0, a, h | h | h | h | h | h | h | h | h⟩ := h
  · obtain ⟨rfl, ss, sv, hbx, hss, rfl⟩ := h
    exact ⟨hB0, a, .inl ⟨rfl, ss, sv, hbx.kept hk (Ne.symm he1) (ne hbx hT1), hss.below hb, rfl⟩⟩
  · obtain ⟨rfl, ss, sv, hbx, hss, rfl⟩ := h
    exact ⟨hB0, a, .inr (.inl ⟨rfl, ss, sv, hbx.kept hk (Ne.symm he2) (ne hbx hT2), hss.below hb, rfl⟩)⟩
  · obtain ⟨rfl, x, hbx, rfl⟩ := h
    exact ⟨hB0, a, .inr (.inr (.inl ⟨rfl, x, hbx.kept hk (Ne.symm he3) (ne hbx hT3), rfl⟩))⟩
  · obtain ⟨rfl, x, hbx, rfl⟩ := h
    exact ⟨hB0, a, .inr (.inr (.inr (.inl ⟨rfl, x, hbx.kept hk (Ne.symm he4) (ne hbx hT4), rfl⟩)))⟩
  · obtain ⟨rfl, x, hbx, rfl⟩ := h
    exact ⟨hB0, a, .inr (.inr (.inr (.inr (.inl ⟨rfl, x, hbx.kept hk (Ne.symm he5) (ne hbx hT5), rfl⟩))))⟩
  · obtain ⟨rfl, x, hbx, rfl⟩ := h
    exact ⟨hB0, a, .inr (.inr (.inr (.inr (.inr (.inl ⟨rfl, x, hbx.kept hk (Ne.symm he6) (ne hbx hT6), rfl⟩)))))⟩
  · exact ⟨hB0, a, .inr (.inr (.inr (.inr (.inr (.inr (.inl h))))))⟩
  · exact ⟨hB0, a, .inr (.inr (.inr (.inr (.inr (.inr (.inr (.inl h)))))))⟩
  · obtain ⟨rfl, sv, hbx, hs⟩ := h
    exact ⟨hB0, a, .inr (.inr (.inr (.inr (.inr (.inr (.inr (.inr ⟨rfl, sv, hbx.kept hk (Ne.symm he7) (ne hbx hT7), hs.kept hk (Ne.symm he8) (fun cs fz e1 => hT8 (by rw [hN] at e1; injection (Option.some.inj e1)))⟩)))))))⟩

theorem Nodes.below {B0 B : Nat} {ts : List (List UInt8)} {v : Value} {w w' : World} (h : Nodes B0 B ts v w) (hb : Below B w w') : Nodes B0 B ts v w' := by
  obtain ⟨ao, cap, hv, h1, h2, h3⟩ := h
  refine ⟨ao, cap, hv, h1, h2, fun i hi => ?_⟩
  obtain ⟨b, off, x, hao, hbB, hc, hx⟩ := h3 i hi
  exact ⟨b, off, x, hao, hbB, (hb.cell (p := ⟨b, off + i, none⟩) hbB).trans hc, hx.below hb⟩

theorem flatten_take_succ (ts : List (List UInt8)) (k : Nat) (h : k < ts.length) : (ts.take (k + 1)).flatten = (ts.take k).flatten ++ ts.getD k [] := by
  rw [take_succ_getD ts [] k h]; simp
theorem flatten_len (ts : List (List UInt8)) (k : Nat) (h : k < ts.length) : (ts.take k).flatten.length + (ts.getD k []).length ≤ ts.flatten.length := by
  conv => rhs; rw [split_getD ts [] k h]
  simp only [List.flatten_append, List.flatten_cons, List.length_append]; omega

set_option maxRecDepth 100000 in
set_option maxHeartbeats 400000 in
/-- ListNode.writeTo: each node in turn. -/
theorem put_list (B0 B N b : Nat) (ts : List (List UInt8)) (sv : Value) (l : List UInt8) (w : World) (h : w.cell? ⟨N, 3, none⟩ = some sv) (hts : Nodes B0 B ts sv w) (hBb : B ≤ b) (hb : Holds b l w) (hlen : l.length + ts.flatten.length ≤ 140737488355328) :
    Calls Try.prog 30 #[.pointer (some ⟨N, 0, none⟩), .pointer (some ⟨b, 0, none⟩)] w (Wrote b l ts.flatten w) := by
  have Hss := Lib.hid hts
  obtain ⟨ao, cap, rfl, h1, h2, h3⟩ := hts
  clear h3
  obtain ⟨n, hn'⟩ : ∃ n, n = ts.length := ⟨_, rfl⟩
  rw [← hn'] at h1 h
  unfold maxLen at h2
  have Hn := Lib.hid hn'
  have Hb := Lib.hid hb
  have Hlen := Lib.hid hlen
  clear hn' hb hlen
  go_enter Try.func30, Try.ntmps30
  go_wp2
  go_loopw [11] (fun i wr => ∃ k : Nat, k ≤ n ∧ i = .int .i64 k ∧ Hid (Holds b (l ++ (ts.take k).flatten) wr ∧ Below b w wr)) (fun i _ => n - (intOf i).toNat)
  case atStart => exact ⟨0, Nat.zero_le _, rfl, by simpa using Hb.out, Below.refl _ _⟩
  case round =>
    obtain ⟨k, hk, rfl, hW⟩ := hrel
    by_cases hlt : k < n
    · have hlt' : k < ts.length := by rw [← Hn.out]; exact hlt
      obtain ⟨_, _, hv, _, _, h3⟩ := Hss.out.below (hW.out.2.mono hBb)
      obtain ⟨c, off, x, hao, hcB, hc, hx⟩ := h3 k hlt'
      obtain rfl : ao = some ⟨c, off, none⟩ := by injection hv with e1 _ _; rw [e1, hao]
      obtain ⟨T, a, f, rfl, hm, he, -, -, hcall⟩ := node_writes B0 B x _ wr hx
      have hl := flatten_len ts k hlt'
      have hl2 := Hlen.out
      have c1 := hcall b (l ++ (ts.take k).flatten) wr (Below.refl _ _) hBb hW.out.1 (by simp only [List.length_append]; omega)
      have e1 : Hid (l ++ (ts.take (k + 1)).flatten = l ++ (ts.take k).flatten ++ ts.getD k []) := by
        rw [Hid, flatten_take_succ ts k hlt', List.append_assoc]
      have Hm := Lib.hid hm
      have He := Lib.hid he
      clear hv h3 hao hl hl2 hx hcall hm he
      generalize ts.getD k [] = t at c1 e1
      go_wp2_with fail
      rw [Hm.out]
      · simp only [Result.andThen]
        rw [He.out, Oper.upon_enter]
        refine c1.mono ?_
        rintro e w' ⟨rfl, q1, q2⟩
        have HW2 := Lib.hid (hW.out.2.trans q2)
        have Q1 := Lib.hid q1
        clear q1 q2 hW c1
        go_wp2
        go_roundw
        case rel => exact ⟨k + 1, by omega, by go_num, by rw [e1.out]; exact Q1.out, HW2.out⟩
        case measure => simp [intOf]; omega
      · unfold IsWt; kernel_rfl
    · have hkn : k = ts.length := by rw [← Hn.out]; omega
      have hE : Hid (Holds b (l ++ ts.flatten) wr ∧ Below b w wr) := by
        have := hW.out
        rw [hkn, List.take_length] at this
        exact this
      clear hkn hW
      go_wp2
      go_end0
      exact ⟨rfl, hE.out.1, hE.out.2⟩

end Go.Proofs.Yteikiecbjjmkoaa
