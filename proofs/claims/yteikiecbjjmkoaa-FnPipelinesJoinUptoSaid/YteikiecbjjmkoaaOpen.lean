/- From the reading of an argument to what the walks ask of it; the end of a law that only makes memory; what the bound on the bulk gives. -/
import Derived.Test.YteikiecbjjmkoaaRows
import Derived.Test.YteikiecbjjmkoaaApp
import Derived.Test.YteikiecbjjmkoaaPlain
import Derived.ProofKit
import Derived.OpenShut
import Derived.JoinedCond
import Derived.SliceStrings
namespace Go.Proofs.Yteikiecbjjmkoaa
open Go.ChangeShapes Go.WideShapes Go.ChangeAt Go.RowKit

theorem own : ownKnob Try.prog.godebug = none := by kernel_rfl
theorem laidOut : laidOutB Try.prog = true := by kernel_rfl

theorem one_le {H : Type} (d : DataW H) : 1 ≤ Rows.uptoBulk d := by
  cases d with
  | lit l => cases l <;> simp [Rows.uptoBulk]
  | nil => simp [Rows.uptoBulk]
  | ptr d => simp [Rows.uptoBulk]
  | slice elems spare => simp [Rows.uptoBulk]
  | agg parts => simp [Rows.uptoBulk]
  | iface t d => simp [Rows.uptoBulk]
  | map entries => simp [Rows.uptoBulk]
  | held h => simp [Rows.uptoBulk]

theorem bound {H : Type} {l : List (DataW H)} (hk : Rows.uptoSmall H l = true) : Rows.uptoBulkAll l ≤ 1048576 := of_decide_eq_true hk

theorem bulk_strs {H : Type} (ss : List ByteArray) : Rows.uptoBulkAll (strs (H := H) ss) = (joined ss).length + ss.length := by
  induction ss with
  | nil => rfl
  | cons s r ih =>
    simp only [strs, List.map_cons] at ih ⊢
    simp only [Rows.uptoBulkAll, Rows.uptoBulk, ih, joined, List.length_append, List.length_cons]; omega

theorem size_le_joined (ss : List ByteArray) : ∀ s ∈ ss, s.size ≤ (joined ss).length := by
  induction ss with
  | nil => intro s h; cases h
  | cons x r ih =>
    intro s hs
    have e : x.data.toList.length = x.size := by rw [Array.length_toList]; rfl
    simp only [joined, List.length_append]
    rcases List.mem_cons.1 hs with rfl | h
    · omega
    · have := ih s h; omega

theorem plain_addr {w : World} {a : Addr} {i : Nat} {v v0 : Value} (h0 : w.cell? (a.add 0) = some v0) (h : w.cell? (a.add i) = some v) : ∃ b off, a = ⟨b, off, none⟩ ∧ b < w.heap.size ∧ w.cell? ⟨b, off + i, none⟩ = some v := by
  obtain ⟨b, off, spot⟩ := a
  have hspot : spot = none := by simpa [Addr.add] using World.cell?_spot h0
  subst hspot
  rw [Go.WideShapes.add_plain] at h
  exact ⟨b, off, rfl, World.block_lt_of_cell? w _ h, h⟩

section
variable {H : Type} {enc : TypeId × Value → H} {W : World}

theorem cells9 : Try.prog.cellsOf 9 = 1 := by kernel_rfl

set_option maxRecDepth 100000 in
/-- A list of strings that came in. -/
theorem open_strs {r : Reach} {b0 : Nat} {v : Value} {d : DataW H} {p : List MemPlace} (hval : Value.okWide Try.prog W r b0 22 v) (h : DataW.Trod enc Try.prog W 0 (fun _ => true) true 22 v d p) :
    ∃ ss, Strs W.heap.size ss v W ∧ Clean v ∧ (joined ss).length + ss.length + 1 ≤ Rows.uptoBulk d + (if ss = [] then 1 else 0) := by
  obtain ⟨a0, len, cap, rfl⟩ := okWide_slice Try.underlying22 hval
  obtain ⟨fuel, hf⟩ := h
  rcases open_strings Try.underlying22 Try.underlying9 cells9 hf with ⟨hcs, hx⟩ | ⟨a, len', cap', ss, hcs, _, hl, hm, hz, hx, hcell, hws⟩
  · simp only [Value.cells, List.cons.injEq, and_true] at hcs
    injection hcs with e1 e2 e3
    subst e1 e2 e3
    refine ⟨[], ⟨none, 0, rfl, Nat.le_refl _, by unfold maxLen; omega, fun i hi => absurd hi (Nat.not_lt_zero _)⟩, .inl rfl, by simp [joined]⟩
  · simp only [Value.cells, List.cons.injEq, and_true] at hcs
    injection hcs with e1 e2 e3
    subst e1 e2 e3
    simp only [Prod.mk.injEq] at hx
    obtain ⟨rfl, _⟩ := hx
    have hsl : len ≤ ss.length := by rw [hz]; simpa using hl
    have htl : (ss.take len).length = len := by rw [List.length_take]; omega
    refine ⟨ss.take len, ⟨some a, cap, by rw [htl], by rw [htl]; exact hl, hm, fun i hi => ?_⟩, .inr ⟨_, _, _, rfl⟩, ?_⟩
    · rw [htl] at hi
      obtain ⟨b, off, rfl, hb, hc⟩ := plain_addr (hcell 0 (by omega)) (hcell i (by omega))
      refine ⟨b, off, rfl, hb, ?_⟩
      rw [hc]
      simp only [List.getD_eq_getElem?_getD, List.getElem?_take_of_lt hi]
    · simp only [Rows.uptoBulk, bulk_strs]
      omega

/-- The end of a law: true, the arguments as they were, nothing turned below the heap's old end. -/
theorem law_post {f : Func} {s : ChangeSpec} {W' : World} {args : Array Value} {ds : List (DataW H)} {p : List MemPlace} (hv : s.vars = []) (hr : f.resultTypes = #[4])
    (hW' : DataW.Whole enc Try.prog f.params.toList s.vars false W args.toList ds [] p) (hfn : s.fn H (ds ++ []) = { results := [.lit (.bool true)], args := ds })
    (hargs : DataW.TrodAll enc Try.prog W' 0 (fun b => decide (b < W.heap.size)) true f.params.toList args.toList ds p) (hb : Below W.heap.size W W') :
    s.post enc Try.prog f false true false false W args (.bool true) W' := by
  refine ⟨_, _, _, [] ++ [], p, [], hW', ?_, ?_, ?_, hb.frame _, fun h => by cases h⟩
  · rw [hfn, hr]; exact trodAll_mk1 (shut_bool Try.underlying4 true)
  · rw [hfn]; exact hargs
  · rw [hfn, hv]; rfl

end
end Go.Proofs.Yteikiecbjjmkoaa
