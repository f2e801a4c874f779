/- FnCommandsJoin answers true at every input, two lists of operands, whose bulk is at most 1048576; the arguments read afterwards as before. -/
import Derived.Test.YteikiecbjjmkoaaOpenP
import Derived.Test.YteikiecbjjmkoaaLawCj
namespace Go.Proofs.Yteikiecbjjmkoaa.fnCommandsJoin
open Go.ChangeShapes Go.WideShapes Go.ChangeAt Go.RowKit

set_option maxRecDepth 100000 in
set_option maxHeartbeats 400000 in
theorem contract (H : Type) (enc : TypeId × Value → H) (W : World) (base : Nat) (args : Array Value) (ds gs : List (DataW H)) (before : List MemPlace)
    (hval : ∀ (j : Nat) t v, Try.f9.params[j]? = some t → args[j]? = some v → Value.okWide Try.prog W .any base t v)
    (hW : DataW.Whole enc Try.prog Try.f9.params.toList Rows.fnCommandsJoinSpec.vars false W args.toList ds gs before) (hk : Rows.uptoSmall H (ds ++ gs) = true) :
    Calls Try.prog 9 args W fun e W' => ∃ v, e = .returned v ∧ Rows.fnCommandsJoinSpec.post enc Try.prog Try.f9 false true false false W args v W' := by
  have hW' := hW
  obtain ⟨p, q, hA0, hV, rfl, hfz, hnd⟩ := hW
  have hA : DataW.TrodAll enc Try.prog W 0 (fun _ => true) true Try.f9.params.toList args.toList ds p := hA0
  rw [Try.params9] at hA hval
  obtain ⟨v0, vs0, d0, ds0, p0, q0, hargs, rfl, rfl, h0, r0⟩ := trodAll_cons hA
  obtain ⟨v1, vs1, d1, ds1, p1, q1, rfl, rfl, rfl, h1, r1⟩ := trodAll_cons r0
  obtain ⟨rfl, rfl, rfl⟩ := trodAll_nil r1
  obtain rfl : args = #[v0, v1] := by cases args; simp_all
  obtain ⟨rfl, rfl⟩ := trodVars_none hV
  obtain ⟨s0, a0, c0, b0⟩ := open_parts (hval 0 32 v0 rfl rfl) h0
  obtain ⟨s1, a1, c1, b1⟩ := open_parts (hval 1 32 v1 rfl rfl) h1
  clear hA0
  simp only [List.append_nil] at hW' hk
  have hbd := bound hk
  simp only [Rows.uptoBulkAll] at hbd
  have hlt : ∀ x ∈ p0 ++ (p1), x.block < W.heap.size := fun x hx => by simpa using hW'.lt x hx
  have w0 := okp_of s0 1048576 (by omega) (by omega)
  have w1 := okp_of s1 1048576 (by omega) (by omega)
  refine (walk_commands_join s0 s1 v0 v1 W a0 a1 c0 c1 w0.2.1 w1.2.1 w0.2.2.1 w1.2.2.1 w0.2.2.2 w1.2.2.2).mono fun e W' ⟨he, hg⟩ => ?_
  subst he
  refine ⟨_, rfl, law_post rfl rfl hW' rfl ?_ hg⟩
  rw [Try.params9]
  have t0 := Below.trod laidOut (by kernel_rfl) (of_decide_eq_true (by kernel_rfl)) h0 hg (fun x hx => hlt x (List.mem_append_left _ hx))
  have t1 := Below.trod laidOut (by kernel_rfl) (of_decide_eq_true (by kernel_rfl)) h1 hg (fun x hx => hlt x (List.mem_append_right _ (hx)))
  have := (trodAll_cons_mk t0 (trodAll_cons_mk t1 trodAll_mk0))
  simpa using this

set_option maxRecDepth 100000 in
theorem lifted (os : Os) (started : os.Started) (H : Type) (enc : TypeId × Value → H) (F : Stop.Interp) :
    ReturnsInHanded {} Try.checked os 9 .any ((Rows.OpenSpec.upto Rows.fnCommandsJoinSpec).pre6 enc Try.prog Try.f9 Rows.fnCommandsJoinUptoRow.domain false) (((Rows.OpenSpec.upto Rows.fnCommandsJoinSpec).at F).post enc Try.prog Try.f9 false true false false) := by
  refine returnsInHanded_of_cond (C := Try.checked) (s := Rows.OpenSpec.upto Rows.fnCommandsJoinSpec) (k := Rows.uptoSmall) rfl own started (by kernel_rfl) Try.func9
    (OpenSpec.witness (enc := enc) (C := Try.checked) (s := Rows.OpenSpec.upto Rows.fnCommandsJoinSpec) (k := Rows.uptoSmall) rfl false ⟨#[], #[.slice none 0 0, .slice none 0 0], []⟩ 8 (by kernel_rfl) (by kernel_rfl) (by kernel_rfl)
      (x := ([.nil, .nil], [], [])) (by kernel_rfl) rfl (by kernel_rfl)) ?_
  intro W base args ds gs before hval hW _ hk _
  exact contract H enc W base args ds gs before hval hW hk

theorem proved : Rows.FnCommandsJoinUptoSaid :=
  OpenClaim.holds_of_cond 9 Try.f9 rfl rfl rfl rfl rfl rfl rfl ⟨rfl, rfl, rfl, rfl, rfl⟩ rfl rfl rfl rfl rfl (by kernel_rfl) Try.func9 (by kernel_rfl)
    (of_decide_eq_true (by kernel_rfl)) (by unfold Func.isWrapper; first | (rw [if_pos (by decide +kernel)]; kernel_rfl) | (rw [if_neg (by decide +kernel)]; exact ⟨rfl, rfl⟩))
    (fun os started H enc _ F => lifted os started H enc F)

#print axioms proved
end Go.Proofs.Yteikiecbjjmkoaa.fnCommandsJoin
