/- Lists of operands that are appended: their cells, and what a row of the call reads as. -/
import Derived.Test.YteikiecbjjmkoaaPrn
import Derived.Test.YteikiecbjjmkoaaApp
import Derived.Deep.Slices
namespace Go.Proofs.Yteikiecbjjmkoaa
open Go.RowKit Go.Proofs

theorem infoPart : (Try.prog.info? 27).map (fun i => (i.zero, i.size, i.bytes)) = some (some (.agg #[.string .empty, .slice none 0 0, .string .empty, .bool false]), 4, 64) := by kernel_rfl

/-- The cells of a list of operands, the names' values given. -/
def cellsOf (l : List (Part × Value)) : List Value := (l.map fun x => [.string x.1.kind, x.2, .string x.1.text, .bool x.1.tr]).flatten

theorem cellsOf_length (l : List (Part × Value)) : (cellsOf l).length = l.length * 4 := by
  induction l with
  | nil => rfl
  | cons x r ih =>
    have : cellsOf (x :: r) = [.string x.1.kind, x.2, .string x.1.text, .bool x.1.tr] ++ cellsOf r := rfl
    rw [this, List.length_append, ih]; simp; omega

theorem cellsOf_append (a b : List (Part × Value)) : cellsOf (a ++ b) = cellsOf a ++ cellsOf b := by simp [cellsOf]

theorem cellsOf_at (l : List (Part × Value)) (i : Nat) (x : Part × Value) (h : l[i]? = some x) :
    (cellsOf l)[i * 4]? = some (.string x.1.kind) ∧ (cellsOf l)[i * 4 + 1]? = some x.2 ∧ (cellsOf l)[i * 4 + 2]? = some (.string x.1.text) ∧ (cellsOf l)[i * 4 + 3]? = some (.bool x.1.tr) := by
  induction l generalizing i with
  | nil => simp at h
  | cons y r ih =>
    have e : cellsOf (y :: r) = [.string y.1.kind, y.2, .string y.1.text, .bool y.1.tr] ++ cellsOf r := rfl
    rw [e]
    cases i with
    | zero => simp at h; subst h; simp
    | succ j =>
      have := ih j (by simpa using h)
      have e0 : (j + 1) * 4 = j * 4 + 4 := by omega
      rw [e0]
      refine ⟨?_, ?_, ?_, ?_⟩ <;> rw [List.getElem?_append_right (by simp)]
      · simpa using this.1
      · have e1 : j * 4 + 4 + 1 - [Value.string y.1.kind, y.2, .string y.1.text, .bool y.1.tr].length = j * 4 + 1 := by simp
        rw [e1]; exact this.2.1
      · have e1 : j * 4 + 4 + 2 - [Value.string y.1.kind, y.2, .string y.1.text, .bool y.1.tr].length = j * 4 + 2 := by simp
        rw [e1]; exact this.2.2.1
      · have e1 : j * 4 + 4 + 3 - [Value.string y.1.kind, y.2, .string y.1.text, .bool y.1.tr].length = j * 4 + 3 := by simp
        rw [e1]; exact this.2.2.2

/-- A list of operands as a source of an append: its cells, whose names read below B. -/
theorem Parts.src {B : Nat} {ps : List Part} {v : Value} {w : World} (h : Parts B ps v w) (hc : Clean v) :
    ∃ l : List (Part × Value), l.map (·.1) = ps ∧ (∀ x ∈ l, Strs B x.1.names x.2 w) ∧ Src v ps.length (cellsOf l) 4 w := by
  obtain ⟨ao, cap, rfl, h1, h2, h3⟩ := h
  have each : ∀ i, i < ps.length → ∃ nv, Strs B (ps.getD i default).names nv w ∧ ∃ b off, ao = some ⟨b, off, none⟩ ∧
      w.cell? ⟨b, off + i * 4, none⟩ = some (.string (ps.getD i default).kind) ∧ w.cell? ⟨b, off + i * 4 + 1, none⟩ = some nv ∧ w.cell? ⟨b, off + i * 4 + 2, none⟩ = some (.string (ps.getD i default).text) ∧ w.cell? ⟨b, off + i * 4 + 3, none⟩ = some (.bool (ps.getD i default).tr) := fun i hi => by
    obtain ⟨b, off, nv, hao, _, hs, c⟩ := h3 i hi
    exact ⟨nv, hs, b, off, hao, c⟩
  obtain ⟨f, hf⟩ := Go.Deep.choose_lt each
  let l : List (Part × Value) := (List.range ps.length).map fun i => (ps.getD i default, f i)
  have hll : l.length = ps.length := by simp [l]
  have hli : ∀ i, i < ps.length → l[i]? = some (ps.getD i default, f i) := fun i hi => by simp [l, hi]
  refine ⟨l, ?_, ?_, ?_⟩
  · apply List.ext_getElem?
    intro i
    by_cases hi : i < ps.length
    · rw [List.getElem?_map, hli i hi]
      simp only [Option.map_some, List.getD_eq_getElem?_getD, List.getElem?_eq_getElem hi, Option.getD_some]
    · rw [List.getElem?_eq_none (by simp [hll]; omega), List.getElem?_eq_none (by omega)]
  · intro x hx
    obtain ⟨i, hi, rfl⟩ := List.getElem_of_mem hx
    have hi' : i < ps.length := by rw [← hll]; exact hi
    have e := hli i hi'
    rw [List.getElem?_eq_getElem hi] at e
    rw [Option.some.inj e]
    exact (hf i hi').1
  · rcases hc with e | ⟨a, n, c, e⟩
    · injection e with e1 e2 e3
      subst e1 e3
      have hp : ps = [] := List.eq_nil_of_length_eq_zero e2
      subst hp
      exact .inl ⟨rfl, rfl, rfl⟩
    · injection e with e1 e2 e3
      subst e1
      refine .inr ⟨a, cap, rfl, by rw [cellsOf_length, hll], fun j u hj => ?_⟩
      have hjl : j < ps.length * 4 := by have := (List.getElem?_eq_some_iff.1 hj).1; rw [cellsOf_length, hll] at this; exact this
      obtain ⟨q, r, hr, rfl⟩ : ∃ q r, r < 4 ∧ j = q * 4 + r := ⟨j / 4, j % 4, by omega, by omega⟩
      have hq : q < ps.length := by omega
      obtain ⟨_, b, off, hao, c0, c1, c2, c3⟩ := hf q hq
      injection hao with hao
      subst hao
      obtain ⟨g0, g1, g2, g3⟩ := cellsOf_at l q _ (hli q hq)
      rw [Addr.add_lit]
      match r, hr with
      | 0, _ => rw [Nat.add_zero, g0] at hj; rw [Nat.add_zero, c0]; exact hj
      | 1, _ => rw [g1] at hj; rw [← Nat.add_assoc, c1]; exact hj
      | 2, _ => rw [g2] at hj; rw [← Nat.add_assoc, c2]; exact hj
      | 3, _ => rw [g3] at hj; rw [← Nat.add_assoc, c3]; exact hj

/-- A row of operands of the call's own reads as a list of operands. -/
theorem parts_of_own {w : World} {base B : Nat} {v : Value} {l : List (Part × Value)} (h : w.ownsRow base 27 4 v l.length (cellsOf l)) (hs : ∀ x ∈ l, Strs B x.1.names x.2 w) (hB : B ≤ w.heap.size) : Parts w.heap.size (l.map (·.1)) v w := by
  rcases h.2 with ⟨rfl, h0⟩ | ⟨g, cap, cur, rfl, _, hgg, hle, hcap, hcs, htake⟩
  · have hl : l = [] := List.eq_nil_of_length_eq_zero h0
    subst hl
    exact ⟨none, 0, rfl, Nat.le_refl _, by unfold maxLen; omega, fun i hi => absurd hi (Nat.not_lt_zero _)⟩
  · refine ⟨some ⟨g, 0, none⟩, cap, by simp, by simpa using hle, hcap, fun i hi => ?_⟩
    have hi' : i < l.length := by simpa using hi
    have hg : (l.map (·.1)).getD i default = (l[i]).1 := by simp [List.getD_eq_getElem?_getD, hi']
    rw [hg]
    obtain ⟨g0, g1, g2, g3⟩ := cellsOf_at l i l[i] (List.getElem?_eq_getElem hi')
    have hcell : ∀ j u, j < l.length * 4 → (cellsOf l)[j]? = some u → w.cell? ⟨g, 0 + j, none⟩ = some u := fun j u hj hu => by
      rw [Nat.zero_add, Lib.cell_of_heap hgg]
      rw [← htake, List.getElem?_take_of_lt hj] at hu
      simpa using hu
    refine ⟨g, 0, _, rfl, ?_, (hs _ (List.getElem_mem hi')).mono hB, hcell _ _ (by omega) g0, ?_, ?_, ?_⟩
    · rcases Nat.lt_or_ge g w.heap.size with h' | h'
      · exact h'
      · simp [Array.getElem?_eq_none h'] at hgg
    · rw [Nat.add_assoc]; exact hcell _ _ (by omega) g1
    · rw [Nat.add_assoc]; exact hcell _ _ (by omega) g2
    · rw [Nat.add_assoc]; exact hcell _ _ (by omega) g3

theorem cellsOf_one {B : Nat} {l : List (Part × Value)} {w : World} (h : ∀ x ∈ l, Strs B x.1.names x.2 w) : ∀ u ∈ cellsOf l, u.oneCell' = true := by
  intro u hu
  simp only [cellsOf, List.mem_flatten, List.mem_map] at hu
  obtain ⟨c, ⟨x, hx, rfl⟩, hu⟩ := hu
  obtain ⟨ao, cap, hv, _⟩ := h x hx
  rw [hv] at hu
  simp only [List.mem_cons, List.not_mem_nil, or_false] at hu
  rcases hu with rfl | rfl | rfl | rfl <;> rfl

/-- The zero operand prints a dot. -/
theorem zero_part (w : World) : IsPart w.heap.size ⟨⟨#[]⟩, [], ⟨#[]⟩, false⟩ (.agg #[.string ⟨#[]⟩, .slice none 0 0, .string ⟨#[]⟩, .bool false]) w :=
  ⟨.slice none 0 0, rfl, none, 0, rfl, Nat.le_refl _, by unfold maxLen; omega, fun i hi => absurd hi (Nat.not_lt_zero _)⟩

end Go.Proofs.Yteikiecbjjmkoaa
