/- FnPipelinesJoin answers true at every input, a list of variables, a truth value and two lists of commands, whose bulk is at most 1048576; the arguments read afterwards as before. -/
import Derived.Test.YteikiecbjjmkoaaOpenP
import Derived.Test.YteikiecbjjmkoaaLawPj
namespace Go.Proofs.Yteikiecbjjmkoaa.fnPipelinesJoin
open Go.ChangeShapes Go.WideShapes Go.ChangeAt Go.RowKit

set_option maxRecDepth 100000 in
set_option maxHeartbeats 400000 in
theorem contract (H : Type) (enc : TypeId × Value → H) (W : World) (base : Nat) (args : Array Value) (ds gs : List (DataW H)) (before : List MemPlace)
    (hval : ∀ (j : Nat) t v, Try.f10.params[j]? = some t → args[j]? = some v → Value.okWide Try.prog W .any base t v)
    (hW : DataW.Whole enc Try.prog Try.f10.params.toList Rows.fnPipelinesJoinSpec.vars false W args.toList ds gs before) (hk : Rows.uptoSmall H (ds ++ gs) = true) :
    Calls Try.prog 10 args W fun e W' => ∃ v, e = .returned v ∧ Rows.fnPipelinesJoinSpec.post enc Try.prog Try.f10 false true false false W args v W' := by
  have hW' := hW
  obtain ⟨p, q, hA0, hV, rfl, hfz, hnd⟩ := hW
  have hA : DataW.TrodAll enc Try.prog W 0 (fun _ => true) true Try.f10.params.toList args.toList ds p := hA0
  rw [Try.params10] at hA hval
  obtain ⟨v0, vs0, d0, ds0, p0, q0, hargs, rfl, rfl, h0, r0⟩ := trodAll_cons hA
  obtain ⟨v1, vs1, d1, ds1, p1, q1, rfl, rfl, rfl, h1, r1⟩ := trodAll_cons r0
  obtain ⟨v2, vs2, d2, ds2, p2, q2, rfl, rfl, rfl, h2, r2⟩ := trodAll_cons r1
  obtain ⟨v3, vs3, d3, ds3, p3, q3, rfl, rfl, rfl, h3, r3⟩ := trodAll_cons r2
  obtain ⟨rfl, rfl, rfl⟩ := trodAll_nil r3
  obtain rfl : args = #[v0, v1, v2, v3] := by cases args; simp_all
  obtain ⟨rfl, rfl⟩ := trodVars_none hV
  obtain ⟨s0, a0, c0, b0⟩ := open_strs (hval 0 22 v0 rfl rfl) h0
  have g1 := h1
  obtain ⟨x1, ev1, ed1, _⟩ := open_bool Try.underlying4 (hval 1 4 v1 rfl rfl) h1
  obtain ⟨s2, a2, c2, b2⟩ := open_cmds (hval 2 35 v2 rfl rfl) h2
  obtain ⟨s3, a3, c3, b3⟩ := open_cmds (hval 3 35 v3 rfl rfl) h3
  clear hA0
  simp only [List.append_nil] at hW' hk
  have hbd := bound hk
  simp only [Rows.uptoBulkAll] at hbd
  have hlt : ∀ x ∈ p0 ++ (p1 ++ (p2 ++ (p3))), x.block < W.heap.size := fun x hx => by simpa using hW'.lt x hx
  have w0 : (joined s0).length + s0.length ≤ 1048577 := by split at b0 <;> omega
  have w2 := okps_of s2 1048576 (by omega) (by omega)
  have w3 := okps_of s3 1048576 (by omega) (by omega)
  subst ev1 ed1
  refine (walk_pipelines_join s0 x1 s2 s3 v0 v2 v3 W a0 a2 a3 c2 c3 (by omega) (fun s hs => by have := size_le_joined s0 s hs; omega) (by omega) w2 w3).mono fun e W' ⟨he, hg⟩ => ?_
  subst he
  refine ⟨_, rfl, law_post rfl rfl hW' rfl ?_ hg⟩
  rw [Try.params10]
  have t0 := Below.trod laidOut (by kernel_rfl) (of_decide_eq_true (by kernel_rfl)) h0 hg (fun x hx => hlt x (List.mem_append_left _ hx))
  have t1 := Below.trod laidOut (by kernel_rfl) (of_decide_eq_true (by kernel_rfl)) g1 hg (fun x hx => hlt x (List.mem_append_right _ (List.mem_append_left _ hx)))
  have t2 := Below.trod laidOut (by kernel_rfl) (of_decide_eq_true (by kernel_rfl)) h2 hg (fun x hx => hlt x (List.mem_append_right _ (List.mem_append_right _ (List.mem_append_left _ hx))))
  have t3 := Below.trod laidOut (by kernel_rfl) (of_decide_eq_true (by kernel_rfl)) h3 hg (fun x hx => hlt x (List.mem_append_right _ (List.mem_append_right _ (List.mem_append_right _ (hx)))))
  have := (trodAll_cons_mk t0 (trodAll_cons_mk t1 (trodAll_cons_mk t2 (trodAll_cons_mk t3 trodAll_mk0))))
  simpa using this

set_option maxRecDepth 100000 in
theorem lifted (os : Os) (started : os.Started) (H : Type) (enc : TypeId × Value → H) (F : Stop.Interp) :
    ReturnsInHanded {} Try.checked os 10 .any ((Rows.OpenSpec.upto Rows.fnPipelinesJoinSpec).pre6 enc Try.prog Try.f10 Rows.fnPipelinesJoinUptoRow.domain false) (((Rows.OpenSpec.upto Rows.fnPipelinesJoinSpec).at F).post enc Try.prog Try.f10 false true false false) := by
  refine returnsInHanded_of_cond (C := Try.checked) (s := Rows.OpenSpec.upto Rows.fnPipelinesJoinSpec) (k := Rows.uptoSmall) rfl own started (by kernel_rfl) Try.func10
    (OpenSpec.witness (enc := enc) (C := Try.checked) (s := Rows.OpenSpec.upto Rows.fnPipelinesJoinSpec) (k := Rows.uptoSmall) rfl false ⟨#[], #[.slice none 0 0, .bool false, .slice none 0 0, .slice none 0 0], []⟩ 8 (by kernel_rfl) (by kernel_rfl) (by kernel_rfl)
      (x := ([.nil, .lit (.bool false), .nil, .nil], [], [])) (by kernel_rfl) rfl (by kernel_rfl)) ?_
  intro W base args ds gs before hval hW _ hk _
  exact contract H enc W base args ds gs before hval hW hk

theorem proved : Rows.FnPipelinesJoinUptoSaid :=
  OpenClaim.holds_of_cond 10 Try.f10 rfl rfl rfl rfl rfl rfl rfl ⟨rfl, rfl, rfl, rfl, rfl⟩ rfl rfl rfl rfl rfl (by kernel_rfl) Try.func10 (by kernel_rfl)
    (of_decide_eq_true (by kernel_rfl)) (by unfold Func.isWrapper; first | (rw [if_pos (by decide +kernel)]; kernel_rfl) | (rw [if_neg (by decide +kernel)]; exact ⟨rfl, rfl⟩))
    (fun os started H enc _ F => lifted os started H enc F)

#print axioms proved
end Go.Proofs.Yteikiecbjjmkoaa.fnPipelinesJoin
