/- From the reading of a list of commands to what the walks ask. -/
import Derived.Test.YteikiecbjjmkoaaOpenP
import Derived.Test.YteikiecbjjmkoaaCmds
namespace Go.Proofs.Yteikiecbjjmkoaa
open Go.ChangeShapes Go.WideShapes Go.ChangeAt Go.RowKit

theorem cells35 : Try.prog.cellsOf 35 = 1 := by kernel_rfl

/-- How many letters, names, operands and commands a list of commands holds. -/
def heavy : List (List Part) → Nat
  | [] => 0
  | p :: r => weights p + 1 + heavy r

theorem heavy_range {H : Type} (f : Nat → List Part) (D : Nat → DataW H) (n : Nat) (h : ∀ i, i < n → weights (f i) + 1 ≤ Rows.uptoBulk (D i)) : heavy ((List.range n).map f) ≤ Rows.uptoBulkAll ((List.range n).map D) := by
  have gen : ∀ l : List Nat, (∀ i ∈ l, i < n) → heavy (l.map f) ≤ Rows.uptoBulkAll (l.map D) := by
    intro l
    induction l with
    | nil => intro _; simp [heavy]
    | cons x r ih =>
      intro hl
      have h1 := h x (hl x (by simp))
      have h2 := ih fun i hi => hl i (by simp [hi])
      simp only [List.map_cons, heavy, Rows.uptoBulkAll]; omega
  exact gen _ fun i hi => List.mem_range.1 hi

theorem heavy_mem {cs : List (List Part)} {ps : List Part} (h : ps ∈ cs) : weights ps + 1 ≤ heavy cs := by
  induction cs with
  | nil => cases h
  | cons x r ih =>
    simp only [heavy]
    rcases List.mem_cons.1 h with rfl | h
    · omega
    · have := ih h; omega

theorem heavy_length (cs : List (List Part)) : cs.length ≤ heavy cs := by
  induction cs with
  | nil => simp [heavy]
  | cons x r ih => simp only [heavy, List.length_cons]; omega

theorem heavy_flat (cs : List (List Part)) : ((cs.map commandText).map fun x => ([32, 124, 32] : List UInt8) ++ x).flatten.length ≤ 3 * heavy cs := by
  induction cs with
  | nil => simp [heavy]
  | cons p r ih =>
    have := commandText_len p
    simp only [List.map_cons, List.flatten_cons, List.length_append, heavy, List.length_cons, List.length_nil]
    omega

theorem heavy_text (cs : List (List Part)) : (sepBy [32, 124, 32] (cs.map commandText)).length ≤ 3 * heavy cs := by
  cases cs with
  | nil => simp [sepBy]
  | cons p r =>
    have h1 := commandText_len p
    have h2 := heavy_flat r
    simp only [List.map_cons, sepBy, List.length_append, heavy]
    omega

theorem commas_len (ds : List ByteArray) : ((ds.map fun s => s.data.toList).map fun x => ([44, 32] : List UInt8) ++ x).flatten.length = (joined ds).length + 2 * ds.length := by
  induction ds with
  | nil => rfl
  | cons s r ih =>
    simp only [List.map_cons, List.flatten_cons, List.length_append, joined, List.length_cons, List.length_nil] at ih ⊢
    omega

theorem decl_len (ds : List ByteArray) (asg : Bool) : (declText ds asg).length ≤ (joined ds).length + 2 * ds.length + 4 := by
  unfold declText
  cases ds with
  | nil => simp
  | cons s r =>
    have h1 := commas_len r
    rw [if_neg (by simp)]
    simp only [List.map_cons, sepBy, List.length_append, joined, List.length_cons] at h1 ⊢
    have h2 : (if asg = true then ([32, 61, 32] : List UInt8) else [32, 58, 61, 32]).length ≤ 4 := by cases asg <;> decide
    omega

/-- What the walks ask of a list of commands. -/
def Fine (cs : List (List Part)) : Prop :=
  (∀ ps ∈ cs, Okc ps) ∧ (∀ ps ∈ cs, ps.length ≤ 100000000 ∧ ∀ p ∈ ps, SmallPart 2147483647 p) ∧ cs.length ≤ 100000000 ∧ (sepBy [32, 124, 32] (cs.map commandText)).length ≤ 300000000

theorem okps_of (cs : List (List Part)) (m : Nat) (h : heavy cs ≤ m) (hm : m ≤ 100000000) : Fine cs := by
  have hw : ∀ ps ∈ cs, weights ps ≤ m := fun ps hps => by have := heavy_mem hps; omega
  refine ⟨fun ps hps => ?_, fun ps hps => ?_, by have := heavy_length cs; omega, by have := heavy_text cs; omega⟩
  · obtain ⟨a, b, c, d⟩ := okp_of ps m (hw ps hps) hm
    exact ⟨a, by omega⟩
  · obtain ⟨a, b, c, d⟩ := okp_of ps m (hw ps hps) hm
    exact ⟨c, b⟩

section
variable {H : Type} {enc : TypeId × Value → H} {W : World}

set_option maxRecDepth 100000 in
/-- A list of commands that came in. -/
theorem open_cmds {r : Reach} {b0 : Nat} {v : Value} {d : DataW H} {p : List MemPlace} (hval : Value.okWide Try.prog W r b0 35 v) (h : DataW.Trod enc Try.prog W 0 (fun _ => true) true 35 v d p) :
    ∃ cs, Cmds W.heap.size cs v W ∧ Clean v ∧ heavy cs ≤ Rows.uptoBulk d := by
  obtain ⟨a0, len, cap, rfl⟩ := okWide_slice Try.underlying35 hval
  obtain ⟨fuel, hf⟩ := h
  rcases Go.Deep.open_slice1 Try.underlying35 cells32 hf with ⟨hcs, hx⟩ | ⟨a, len', cap', m, q, V, D, Pl, hcs, _, hl, hm, hmm, hx, hi⟩
  · have hcs' : [Value.slice a0 len cap] = [.slice none 0 0] := hcs
    simp only [List.cons.injEq, and_true] at hcs'
    injection hx with hx _
    subst hx
    rw [hcs']
    exact ⟨[], Cmds.nil _ _, .inl rfl, by simp [heavy]⟩
  · have hcs' : [Value.slice a0 len cap] = [.slice (some a) len' cap'] := hcs
    simp only [List.cons.injEq, and_true] at hcs'
    injection hx with hx _
    subst hx
    rw [hcs']
    have hlm : len' ≤ m := by rw [hmm]; simpa using hl
    have each : ∀ i, i < len' → ∃ ps : List Part, Parts W.heap.size ps (V i) W ∧ weights ps + 1 ≤ Rows.uptoBulk (D i) := fun i hlt => by
      obtain ⟨_, ht⟩ := hi i (by omega)
      obtain ⟨ps, hp, _, hw⟩ := open_parts1 ht
      exact ⟨ps, hp, hw⟩
    obtain ⟨f, hf⟩ := Go.Deep.choose_lt each
    have hpl : ((List.range len').map f).length = len' := by simp
    refine ⟨(List.range len').map f, ⟨some a, cap', by rw [hpl], by rw [hpl]; exact hl, hm, fun i hlt => ?_⟩, .inr ⟨_, _, _, rfl⟩, ?_⟩
    · rw [hpl] at hlt
      have hg : ((List.range len').map f).getD i [] = f i := by simp [List.getD_eq_getElem?_getD, hlt]
      rw [hg]
      obtain ⟨b, off, rfl, hb, hc⟩ := plain_addr (hi 0 (by omega)).1 (hi i (by omega)).1
      exact ⟨b, off, _, rfl, hb, hc, (hf i hlt).1⟩
    · have := heavy_range f D len' fun i hlt => (hf i hlt).2
      simp only [Rows.uptoBulk]; omega

end

end Go.Proofs.Yteikiecbjjmkoaa
