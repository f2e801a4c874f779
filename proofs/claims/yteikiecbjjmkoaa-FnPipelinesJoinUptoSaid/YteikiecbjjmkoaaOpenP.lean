/- From the reading of an operand, a list of operands and a list of commands to what the walks ask; their weights. -/
import Derived.Test.YteikiecbjjmkoaaOpen
import Derived.Test.YteikiecbjjmkoaaCmd
import Derived.Deep.Slices
namespace Go.Proofs.Yteikiecbjjmkoaa
open Go.ChangeShapes Go.WideShapes Go.ChangeAt Go.RowKit

theorem cells4 : Try.prog.cellsOf 4 = 1 := by kernel_rfl
theorem cells22 : Try.prog.cellsOf 22 = 1 := by kernel_rfl
theorem cells27 : Try.prog.cellsOf 27 = 4 := by kernel_rfl
theorem cells32 : Try.prog.cellsOf 32 = 1 := by kernel_rfl

/-- How many letters and names an operand holds. -/
def weight (p : Part) : Nat := p.kind.size + ((joined p.names).length + p.names.length) + p.text.size

def weights : List Part → Nat
  | [] => 0
  | p :: r => weight p + 3 + weights r

def weightss : List (List Part) → Nat
  | [] => 0
  | p :: r => weights p + weightss r

section
variable {H : Type} {enc : TypeId × Value → H} {W : World}

set_option maxRecDepth 100000 in
theorem open_strs1 {n : Nat} {v : Value} {y : DataW H × List MemPlace} (h : DataW.trod enc Try.prog W 0 (fun _ => true) true n 22 [v] = some y) :
    ∃ ss, Strs W.heap.size ss v W ∧ Clean v ∧ (joined ss).length + ss.length ≤ Rows.uptoBulk y.1 := by
  rcases open_strings Try.underlying22 Try.underlying9 cells9 h with ⟨hcs, hx⟩ | ⟨a, len, cap, ss, hcs, _, hl, hm, hz, hx, hcell, hws⟩
  · simp only [List.cons.injEq, and_true] at hcs
    subst hcs
    exact ⟨[], ⟨none, 0, rfl, Nat.le_refl _, by unfold maxLen; omega, fun i hi => absurd hi (Nat.not_lt_zero _)⟩, .inl rfl, by simp [joined]⟩
  · simp only [List.cons.injEq, and_true] at hcs
    subst hcs hx
    have hsl : len ≤ ss.length := by rw [hz]; simpa using hl
    have htl : (ss.take len).length = len := by rw [List.length_take]; omega
    refine ⟨ss.take len, ⟨some a, cap, by rw [htl], by rw [htl]; exact hl, hm, fun i hi => ?_⟩, .inr ⟨_, _, _, rfl⟩, ?_⟩
    · rw [htl] at hi
      obtain ⟨b, off, rfl, hb, hc⟩ := plain_addr (hcell 0 (by omega)) (hcell i (by omega))
      refine ⟨b, off, rfl, hb, ?_⟩
      rw [hc]
      simp only [List.getD_eq_getElem?_getD, List.getElem?_take_of_lt hi]
    · simp only [Rows.uptoBulk, bulk_strs]
      omega

set_option maxRecDepth 100000 in
theorem open_part_cells {n : Nat} {cs : List Value} {y : DataW H × List MemPlace} (h : DataW.trod enc Try.prog W 0 (fun _ => true) true n 27 cs = some y) :
    ∃ p nv, cs = [.string p.kind, nv, .string p.text, .bool p.tr] ∧ Strs W.heap.size p.names nv W ∧ weight p + 3 ≤ Rows.uptoBulk y.1 := by
  obtain ⟨xs, m, _, rfl, hlen, hxl, hf⟩ := DataW.trod_struct Try.underlying27 h
  rw [cells27] at hlen
  match cs, hlen with
  | [c0, c1, c2, c3], _ =>
    match xs, hxl with
    | [y0, y1, y2, y3], _ =>
      have g0 : DataW.trod enc Try.prog W 0 (fun _ => true) true m 9 [c0] = some y0 := by have := hf 0 _ rfl; simpa [cells9] using this
      have g1 : DataW.trod enc Try.prog W 0 (fun _ => true) true m 22 [c1] = some y1 := by have := hf 1 _ rfl; simpa [cells22] using this
      have g2 : DataW.trod enc Try.prog W 0 (fun _ => true) true m 9 [c2] = some y2 := by have := hf 2 _ rfl; simpa [cells9] using this
      have g3 : DataW.trod enc Try.prog W 0 (fun _ => true) true m 4 [c3] = some y3 := by have := hf 3 _ rfl; simpa [cells4] using this
      obtain ⟨k, e0, rfl, _⟩ := DataW.trod_string Try.underlying9 g0
      obtain ⟨tx, e2, rfl, _⟩ := DataW.trod_string Try.underlying9 g2
      obtain ⟨tr, e3, rfl⟩ := DataW.trod_bool Try.underlying4 g3
      obtain ⟨ss, hs, _, hb⟩ := open_strs1 g1
      simp only [List.cons.injEq, and_true] at e0 e2 e3
      subst e0 e2 e3
      refine ⟨⟨k, ss, tx, tr⟩, c1, rfl, hs, ?_⟩
      have ek : k.data.toList.length = k.size := by rw [Array.length_toList]; rfl
      have et : tx.data.toList.length = tx.size := by rw [Array.length_toList]; rfl
      simp only [List.map_cons, List.map_nil, Rows.uptoBulk, Rows.uptoBulkAll, weight, ek, et]
      omega

theorem plain_addr4 {w : World} {a : Addr} {i j : Nat} {v v0 : Value} (h0 : w.cell? ((a.add 0).add 0) = some v0) (h : w.cell? ((a.add (i * 4)).add j) = some v) : ∃ b off, a = ⟨b, off, none⟩ ∧ b < w.heap.size ∧ w.cell? ⟨b, off + i * 4 + j, none⟩ = some v := by
  obtain ⟨b, off, spot⟩ := a
  have hspot : spot = none := by simpa [Addr.add] using World.cell?_spot h0
  subst hspot
  rw [Go.WideShapes.add_plain, Go.WideShapes.add_plain] at h
  exact ⟨b, off, rfl, World.block_lt_of_cell? w _ h, h⟩

theorem weights_range {H : Type} (f : Nat → Part) (D : Nat → DataW H) (n : Nat) (h : ∀ i, i < n → weight (f i) + 3 ≤ Rows.uptoBulk (D i)) : weights ((List.range n).map f) ≤ Rows.uptoBulkAll ((List.range n).map D) := by
  have gen : ∀ l : List Nat, (∀ i ∈ l, i < n) → weights (l.map f) ≤ Rows.uptoBulkAll (l.map D) := by
    intro l
    induction l with
    | nil => intro _; simp [weights]
    | cons x r ih =>
      intro hl
      have h1 := h x (hl x (by simp))
      have h2 := ih fun i hi => hl i (by simp [hi])
      simp only [List.map_cons, weights, Rows.uptoBulkAll]; omega
  exact gen _ fun i hi => List.mem_range.1 hi

set_option maxRecDepth 100000 in
theorem open_parts1 {n : Nat} {v : Value} {y : DataW H × List MemPlace} (h : DataW.trod enc Try.prog W 0 (fun _ => true) true n 32 [v] = some y) :
    ∃ ps, Parts W.heap.size ps v W ∧ Clean v ∧ weights ps + 1 ≤ Rows.uptoBulk y.1 := by
  rcases Go.Deep.open_slice Try.underlying32 h with ⟨hcs, hx⟩ | ⟨a, len, cap, m, q, D, Pl, hcs, _, hl, hm, hmm, hx, hi⟩
  · simp only [List.cons.injEq, and_true] at hcs
    subst hcs hx
    exact ⟨[], ⟨none, 0, rfl, Nat.le_refl _, by unfold maxLen; omega, fun i hi => absurd hi (Nat.not_lt_zero _)⟩, .inl rfl, by simp [weights, Rows.uptoBulk]⟩
  · simp only [List.cons.injEq, and_true] at hcs
    subst hcs hx
    rw [cells27] at hi
    have hlm : len ≤ m := by rw [hmm]; simpa using hl
    have each : ∀ i, i < len → ∃ p : Part, (∃ nv, Strs W.heap.size p.names nv W ∧ W.cell? ((a.add (i * 4)).add 0) = some (.string p.kind) ∧ W.cell? ((a.add (i * 4)).add 1) = some nv ∧ W.cell? ((a.add (i * 4)).add 2) = some (.string p.text) ∧ W.cell? ((a.add (i * 4)).add 3) = some (.bool p.tr)) ∧ weight p + 3 ≤ Rows.uptoBulk (D i) := fun i hlt => by
      obtain ⟨cs', hc, ht⟩ := hi i (by omega)
      obtain ⟨p, nv, rfl, hs, hw⟩ := open_part_cells ht
      obtain ⟨_, _, hat⟩ := World.cells?_some hc
      exact ⟨p, ⟨nv, hs, hat 0 (by omega), hat 1 (by omega), hat 2 (by omega), hat 3 (by omega)⟩, hw⟩
    obtain ⟨f, hf⟩ := Go.Deep.choose_lt each
    have hpl : ((List.range len).map f).length = len := by simp
    refine ⟨(List.range len).map f, ⟨some a, cap, by rw [hpl], by rw [hpl]; exact hl, hm, fun i hlt => ?_⟩, .inr ⟨_, _, _, rfl⟩, ?_⟩
    · rw [hpl] at hlt
      have hg : ((List.range len).map f).getD i default = f i := by simp [List.getD_eq_getElem?_getD, hlt]
      rw [hg]
      obtain ⟨⟨nv, hs, c0, c1, c2, c3⟩, _⟩ := hf i hlt
      obtain ⟨⟨_, _, z0, _⟩, _⟩ := hf 0 (by omega)
      rw [Nat.zero_mul] at z0
      obtain ⟨b, off, rfl, hb, d0⟩ := plain_addr4 z0 c0
      rw [Go.WideShapes.add_plain, Go.WideShapes.add_plain] at c1 c2 c3
      exact ⟨b, off, nv, rfl, hb, hs, d0, c1, c2, c3⟩
    · have := weights_range f D len fun i hlt => (hf i hlt).2
      simp only [Rows.uptoBulk]; omega

set_option maxRecDepth 100000 in
/-- An operand that came in. -/
theorem open_part {r : Reach} {b0 : Nat} {v : Value} {d : DataW H} {p : List MemPlace} (hval : Value.okWide Try.prog W r b0 27 v) (h : DataW.Trod enc Try.prog W 0 (fun _ => true) true 27 v d p) :
    ∃ q, IsPart W.heap.size q v W ∧ weight q + 3 ≤ Rows.uptoBulk d := by
  obtain ⟨cs, rfl, _⟩ := okWide_struct Try.underlying27 hval
  obtain ⟨fuel, hf⟩ := h
  obtain ⟨q, nv, hcs, hs, hw⟩ := open_part_cells hf
  refine ⟨q, ⟨nv, ?_, hs⟩, hw⟩
  obtain ⟨l⟩ := cs
  simp only [Value.cells] at hcs
  rw [show l = _ from hcs]

set_option maxRecDepth 100000 in
/-- A list of operands that came in. -/
theorem open_parts {r : Reach} {b0 : Nat} {v : Value} {d : DataW H} {p : List MemPlace} (hval : Value.okWide Try.prog W r b0 32 v) (h : DataW.Trod enc Try.prog W 0 (fun _ => true) true 32 v d p) :
    ∃ ps, Parts W.heap.size ps v W ∧ Clean v ∧ weights ps + 1 ≤ Rows.uptoBulk d := by
  obtain ⟨a0, len, cap, rfl⟩ := okWide_slice Try.underlying32 hval
  obtain ⟨fuel, hf⟩ := h
  exact open_parts1 hf

end

theorem small_of (p : Part) (m : Nat) (h : weight p ≤ m) (hm : m ≤ 100000000) : SmallPart 2147483647 p := by
  have hj := size_le_joined p.names
  unfold weight at h
  exact ⟨by omega, by omega, fun s hs => by have := hj s hs; omega, by omega⟩

theorem partText_len (p : Part) : (partText p).length ≤ weight p + 5 ∧ (dotted p.names).length ≤ weight p := by
  obtain ⟨k, names, tx, tr⟩ := p
  have hd : (dotted names).length = (joined names).length + names.length := dotted_length names
  have hv : (varText names).length ≤ (joined names).length + names.length := by
    cases names with
    | nil => simp [varText]
    | cons s r => have := dotted_length r; simp only [varText, joined, List.length_append, List.length_cons]; omega
  have et : tx.data.toList.length = tx.size := by rw [Array.length_toList]; rfl
  refine ⟨?_, by simp only [weight]; omega⟩
  unfold partText
  simp only [weight]
  repeat' split
  all_goals first | omega | (cases tr <;> simp [boolText]) | simp
  all_goals omega

theorem weights_mem {ps : List Part} {p : Part} (h : p ∈ ps) : weight p + 3 ≤ weights ps := by
  induction ps with
  | nil => cases h
  | cons x r ih =>
    simp only [weights]
    rcases List.mem_cons.1 h with rfl | h
    · omega
    · have := ih h; omega

theorem weights_length (ps : List Part) : 3 * ps.length ≤ weights ps := by
  induction ps with
  | nil => simp [weights]
  | cons x r ih => simp only [weights, List.length_cons]; omega

theorem sep_flat_len (ps : List Part) : ((ps.map partText).map fun x => ([32] : List UInt8) ++ x).flatten.length ≤ 2 * weights ps := by
  induction ps with
  | nil => simp [weights]
  | cons p r ih =>
    have := (partText_len p).1
    simp only [List.map_cons, List.flatten_cons, List.length_append, weights, List.length_singleton]
    omega

theorem commandText_len (ps : List Part) : (commandText ps).length ≤ 2 * weights ps := by
  cases ps with
  | nil => simp [commandText, sepBy]
  | cons p r =>
    have h1 := (partText_len p).1
    have h2 := sep_flat_len r
    simp only [commandText, List.map_cons, sepBy, List.length_append, weights]
    omega

/-- What the walks ask of a list of operands, out of its weight. -/
theorem okp_of (ps : List Part) (m : Nat) (h : weights ps ≤ m) (hm : m ≤ 100000000) : (∀ p ∈ ps, Okp p) ∧ (∀ p ∈ ps, SmallPart 2147483647 p) ∧ ps.length ≤ 100000000 ∧ (commandText ps).length ≤ 200000000 := by
  refine ⟨fun p hp => ?_, fun p hp => ?_, by have := weights_length ps; omega, by have := commandText_len ps; omega⟩
  · have h1 := weights_mem hp
    have h2 := partText_len p
    exact ⟨by omega, by omega⟩
  · have h1 := weights_mem hp
    have hj := size_le_joined p.names
    unfold weight at h1
    exact ⟨by omega, by omega, fun s hs => by have := hj s hs; omega, by omega⟩

end Go.Proofs.Yteikiecbjjmkoaa
