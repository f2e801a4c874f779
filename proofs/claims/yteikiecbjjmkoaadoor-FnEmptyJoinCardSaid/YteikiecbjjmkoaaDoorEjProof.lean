/- FnEmptyJoin answers true at every input; the arguments read afterwards as before; and its tied card. -/
import Derived.Test.YteikiecbjjmkoaaDoorOpen
import Derived.Test.YteikiecbjjmkoaaDoorLawEj
import Derived.Deep.DeepWitnessRowRef
namespace Go.Proofs.YteikiecbjjmkoaaDoor.fnEmptyJoin
open Go.ChangeShapes Go.WideShapes Go.ChangeAt Go.RowKit

set_option maxRecDepth 100000 in
set_option maxHeartbeats 400000 in
theorem contract (H : Type) (enc : TypeId × Value → H) (W : World) (base : Nat) (args : Array Value) (ds gs : List (DataW H)) (before : List MemPlace)
    (hval : ∀ (j : Nat) t v, Tryd.f3.params[j]? = some t → args[j]? = some v → Value.okWide Tryd.prog W .any base t v)
    (hW : DataW.Whole enc Tryd.prog Tryd.f3.params.toList Rows.fnEmptyJoinSpec.vars false W args.toList ds gs before) (hL : laidMetH Tryd.prog Rows.fnEmptyJoinRow.laid W) :
    Calls Tryd.prog 3 args W fun e W' => ∃ v, e = .returned v ∧ Rows.fnEmptyJoinSpec.post enc Tryd.prog Tryd.f3 false true false false W args v W' := by
  have hT : Tabs W := tabs hL
  have hW' := hW
  obtain ⟨p, q, hA0, hV, rfl, hfz, hnd⟩ := hW
  have hA : DataW.TrodAll enc Tryd.prog W 0 (fun _ => true) true Tryd.f3.params.toList args.toList ds p := hA0
  rw [Tryd.params3] at hA hval
  obtain ⟨v0, vs0, d0, ds0, p0, q0, hargs, rfl, rfl, h0, r0⟩ := trodAll_cons hA
  obtain ⟨v1, vs1, d1, ds1, p1, q1, rfl, rfl, rfl, h1, r1⟩ := trodAll_cons r0
  obtain ⟨rfl, rfl, rfl⟩ := trodAll_nil r1
  obtain rfl : args = #[v0, v1] := by cases args; simp_all
  obtain ⟨rfl, rfl⟩ := trodVars_none hV
  obtain ⟨s0, a0, c0⟩ := open_lists (hval 0 22 v0 rfl rfl) h0
  obtain ⟨s1, a1, c1⟩ := open_lists (hval 1 22 v1 rfl rfl) h1
  clear hA0
  simp only [List.append_nil] at hW'
  have hlt : ∀ x ∈ p0 ++ (p1), x.block < W.heap.size := fun x hx => by simpa using hW'.lt x hx
  refine (walk_empty_join s0 s1 v0 v1 W a0 a1 c0 c1 hT).mono fun e W' ⟨he, hg⟩ => ?_
  subst he
  refine ⟨_, rfl, law_post rfl rfl hW' rfl ?_ hg⟩
  rw [Tryd.params3]
  have t0 := Below.trod laidOut (by kernel_rfl) (of_decide_eq_true (by kernel_rfl)) h0 hg (fun x hx => hlt x (List.mem_append_left _ hx))
  have t1 := Below.trod laidOut (by kernel_rfl) (of_decide_eq_true (by kernel_rfl)) h1 hg (fun x hx => hlt x (List.mem_append_right _ (hx)))
  have := (trodAll_cons_mk t0 (trodAll_cons_mk t1 trodAll_mk0))
  simpa using this

/-- THE WITNESS: nil, in the settled world with the tables laid. -/
theorem reads (os : Os) {H : Type} (enc : TypeId × Value → H) : ∃ places, DataW.whole enc Tryd.prog ((laidWorld os).forCall (fun _ _ => 0) ⟨#[], #[.slice none 0 0, .slice none 0 0], []⟩).memory Tryd.f3.params.toList Rows.fnEmptyJoinSpec.vars false #[Value.slice none 0 0, Value.slice none 0 0].toList 8 = some ([.nil, .nil], [], places) :=
  ⟨[], by kernel_rfl⟩

set_option maxRecDepth 100000 in
theorem lifted (os : Os) (started : os.Started) (H : Type) (enc : TypeId × Value → H) (F : Stop.Interp) :
    ReturnsInHanded {} Tryd.checked os 3 .any ((OpenSpec.ofChange Rows.fnEmptyJoinSpec).preRow enc Tryd.prog Tryd.f3 Rows.fnEmptyJoinRow.domain false Rows.fnEmptyJoinRow.laid) (((OpenSpec.ofChange Rows.fnEmptyJoinSpec).at F).post enc Tryd.prog Tryd.f3 false true false false) := by
  obtain ⟨places, hx⟩ := reads os enc
  refine returnsInHanded_of_row (C := Tryd.checked) (s := OpenSpec.ofChange Rows.fnEmptyJoinSpec) own started (by kernel_rfl) Tryd.func3
    (witness_row_atRef (enc := enc) (C := Tryd.checked) false (laidWorld os) #[.slice none 0 0, .slice none 0 0] rfl (by kernel_rfl) (by kernel_rfl) (by kernel_rfl)
      (OpenSpec.preRow_of_cond 8 hx (by kernel_rfl) (fun k hk => by cases hk) (by kernel_rfl) (laid_met os _))) ?_
  intro W base args ds gs before hval hW _ _ _ hL _ _
  exact contract H enc W base args ds gs before hval hW hL

theorem said : Rows.FnEmptyJoinSaid :=
  OpenClaim.holds_of_cond 3 Tryd.f3 rfl rfl rfl rfl rfl rfl rfl ⟨rfl, rfl, rfl, rfl, rfl⟩ rfl rfl rfl rfl rfl (by kernel_rfl) Tryd.func3 (by kernel_rfl)
    (of_decide_eq_true (by kernel_rfl)) (by unfold Func.isWrapper; first | (rw [if_pos (by decide +kernel)]; kernel_rfl) | (rw [if_neg (by decide +kernel)]; exact ⟨rfl, rfl⟩))
    (fun os started H enc _ F => by rw [OpenClaim.pre_eq_preRow]; exact lifted os started H enc F)

/-- No parameter wants a stand-in; the program's own looks are off. -/
theorem plain (f : FuncId) (fn : Func) (hf : Tryd.pinned.checked.prog.funcNamed Rows.fnEmptyJoinRow.func = some f) (hfn : Tryd.pinned.checked.prog.funcs[f]? = some fn) :
    Rows.fnEmptyJoinCard.stood.looks = Tryd.pinned.checked.prog.looks [] ∧ ∀ (j : Nat) t, fn.params[j]? = some t → Tryd.pinned.checked.prog.wantsStandIn t = false := by
  obtain rfl : f = 3 := Option.some.inj ((show Tryd.prog.funcNamed Rows.fnEmptyJoinRow.func = some 3 by kernel_rfl).symm.trans hf) |>.symm
  obtain rfl : fn = Tryd.f3 := (Option.some.inj (Tryd.func3.symm.trans hfn)).symm
  refine ⟨by kernel_rfl, fun j t ht => ?_⟩
  rw [Tryd.params3] at ht
  obtain rfl : t = 22 := by simpa using Array.mem_of_getElem? ht
  exact (show Tryd.prog.wantsStandIn 22 = false by kernel_rfl)

/-- THE CARD. -/
theorem proved : Rows.FnEmptyJoinCardSaid :=
  Claim7.holds_tied_plain_at .later [] _ _ _ _ said (fun _ h => by cases h) (by kernel_rfl) (fun _ h => by cases h) fnEmptyJoin_row_tie rfl ⟨rfl, rfl⟩ (by kernel_rfl) rfl plain (by kernel_rfl)

#print axioms proved
end Go.Proofs.YteikiecbjjmkoaaDoor.fnEmptyJoin
