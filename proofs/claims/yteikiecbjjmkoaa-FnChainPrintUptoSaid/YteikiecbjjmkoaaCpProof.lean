/- FnChainPrint answers true at every input, an operand and a list of fields, whose bulk is at most 1048576; the arguments read afterwards as before. -/
import Derived.Test.YteikiecbjjmkoaaOpenP
import Derived.Test.YteikiecbjjmkoaaLawCp
namespace Go.Proofs.Yteikiecbjjmkoaa.fnChainPrint
open Go.ChangeShapes Go.WideShapes Go.ChangeAt Go.RowKit

set_option maxRecDepth 100000 in
set_option maxHeartbeats 400000 in
theorem contract (H : Type) (enc : TypeId × Value → H) (W : World) (base : Nat) (args : Array Value) (ds gs : List (DataW H)) (before : List MemPlace)
    (hval : ∀ (j : Nat) t v, Try.f5.params[j]? = some t → args[j]? = some v → Value.okWide Try.prog W .any base t v)
    (hW : DataW.Whole enc Try.prog Try.f5.params.toList Rows.fnChainPrintSpec.vars false W args.toList ds gs before) (hk : Rows.uptoSmall H (ds ++ gs) = true) :
    Calls Try.prog 5 args W fun e W' => ∃ v, e = .returned v ∧ Rows.fnChainPrintSpec.post enc Try.prog Try.f5 false true false false W args v W' := by
  have hW' := hW
  obtain ⟨p, q, hA0, hV, rfl, hfz, hnd⟩ := hW
  have hA : DataW.TrodAll enc Try.prog W 0 (fun _ => true) true Try.f5.params.toList args.toList ds p := hA0
  rw [Try.params5] at hA hval
  obtain ⟨v0, vs0, d0, ds0, p0, q0, hargs, rfl, rfl, h0, r0⟩ := trodAll_cons hA
  obtain ⟨v1, vs1, d1, ds1, p1, q1, rfl, rfl, rfl, h1, r1⟩ := trodAll_cons r0
  obtain ⟨rfl, rfl, rfl⟩ := trodAll_nil r1
  obtain rfl : args = #[v0, v1] := by cases args; simp_all
  obtain ⟨rfl, rfl⟩ := trodVars_none hV
  obtain ⟨s0, a0, b0⟩ := open_part (hval 0 27 v0 rfl rfl) h0
  obtain ⟨s1, a1, c1, b1⟩ := open_strs (hval 1 22 v1 rfl rfl) h1
  clear hA0
  simp only [List.append_nil] at hW' hk
  have hbd := bound hk
  simp only [Rows.uptoBulkAll] at hbd
  have hlt : ∀ x ∈ p0 ++ (p1), x.block < W.heap.size := fun x hx => by simpa using hW'.lt x hx
  have w0 : weight s0 ≤ 1048576 := by omega
  have l0 := partText_len s0
  have w1 : (joined s1).length + s1.length ≤ 1048577 := by split at b1 <;> omega
  refine (walk_chain_print s0 s1 v0 v1 W a0 a1 (small_of s0 1048576 w0 (by omega)) (by omega) (by omega) (by rw [dotted_length]; omega) (by omega) (fun s hs => by have := size_le_joined s1 s hs; omega)).mono fun e W' ⟨he, hg⟩ => ?_
  subst he
  refine ⟨_, rfl, law_post rfl rfl hW' rfl ?_ hg⟩
  rw [Try.params5]
  have t0 := Below.trod laidOut (by kernel_rfl) (of_decide_eq_true (by kernel_rfl)) h0 hg (fun x hx => hlt x (List.mem_append_left _ hx))
  have t1 := Below.trod laidOut (by kernel_rfl) (of_decide_eq_true (by kernel_rfl)) h1 hg (fun x hx => hlt x (List.mem_append_right _ (hx)))
  have := (trodAll_cons_mk t0 (trodAll_cons_mk t1 trodAll_mk0))
  simpa using this

set_option maxRecDepth 100000 in
theorem lifted (os : Os) (started : os.Started) (H : Type) (enc : TypeId × Value → H) (F : Stop.Interp) :
    ReturnsInHanded {} Try.checked os 5 .any ((Rows.OpenSpec.upto Rows.fnChainPrintSpec).pre6 enc Try.prog Try.f5 Rows.fnChainPrintUptoRow.domain false) (((Rows.OpenSpec.upto Rows.fnChainPrintSpec).at F).post enc Try.prog Try.f5 false true false false) := by
  refine returnsInHanded_of_cond (C := Try.checked) (s := Rows.OpenSpec.upto Rows.fnChainPrintSpec) (k := Rows.uptoSmall) rfl own started (by kernel_rfl) Try.func5
    (OpenSpec.witness (enc := enc) (C := Try.checked) (s := Rows.OpenSpec.upto Rows.fnChainPrintSpec) (k := Rows.uptoSmall) rfl false ⟨#[], #[.agg #[.string .empty, .slice none 0 0, .string .empty, .bool false], .slice none 0 0], []⟩ 8 (by kernel_rfl) (by kernel_rfl) (by kernel_rfl)
      (x := ([.agg [.lit (.string []), .nil, .lit (.string []), .lit (.bool false)], .nil], [], [])) (by kernel_rfl) rfl (by kernel_rfl)) ?_
  intro W base args ds gs before hval hW _ hk _
  exact contract H enc W base args ds gs before hval hW hk

theorem proved : Rows.FnChainPrintUptoSaid :=
  OpenClaim.holds_of_cond 5 Try.f5 rfl rfl rfl rfl rfl rfl rfl ⟨rfl, rfl, rfl, rfl, rfl⟩ rfl rfl rfl rfl rfl (by kernel_rfl) Try.func5 (by kernel_rfl)
    (of_decide_eq_true (by kernel_rfl)) (by unfold Func.isWrapper; first | (rw [if_pos (by decide +kernel)]; kernel_rfl) | (rw [if_neg (by decide +kernel)]; exact ⟨rfl, rfl⟩))
    (fun os started H enc _ F => lifted os started H enc F)

#print axioms proved
end Go.Proofs.Yteikiecbjjmkoaa.fnChainPrint
