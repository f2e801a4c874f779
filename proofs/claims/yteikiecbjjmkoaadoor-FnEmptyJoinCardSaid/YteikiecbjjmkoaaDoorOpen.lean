/- From the reading of an argument to what the walks ask; the end of a law that only makes memory; a world for the witness. -/
import Derived.Test.YteikiecbjjmkoaaDoorLaid
import Derived.Test.YteikiecbjjmkoaaDoorCards
import Derived.Test.YteikiecbjjmkoaaDoorTie
import Derived.Test.YteikiecbjjmkoaaDoorLawEj
import Derived.ProofKit
import Derived.OpenShut
import Derived.JoinedCond
import Derived.SliceStrings
import Derived.Deep.Slices
import Derived.Deep.DeepHandedRow
import Derived.Deep.DeepLaidRun
namespace Go.Proofs.YteikiecbjjmkoaaDoor
open Go.ChangeShapes Go.WideShapes Go.ChangeAt Go.RowKit

theorem own : ownKnob Tryd.prog.godebug = none := by kernel_rfl
theorem laidOut : laidOutB Tryd.prog = true := by kernel_rfl
theorem cells9 : Tryd.prog.cellsOf 9 = 1 := by kernel_rfl
theorem cells27 : Tryd.prog.cellsOf 27 = 2 := by kernel_rfl
theorem cells25 : Tryd.prog.cellsOf 25 = 1 := by kernel_rfl

theorem plain_addr {w : World} {a : Addr} {i : Nat} {v v0 : Value} (h0 : w.cell? (a.add 0) = some v0) (h : w.cell? (a.add i) = some v) : ∃ b off, a = ⟨b, off, none⟩ ∧ b < w.heap.size ∧ w.cell? ⟨b, off + i, none⟩ = some v := by
  obtain ⟨b, off, spot⟩ := a
  have hspot : spot = none := by simpa [Addr.add] using World.cell?_spot h0
  subst hspot
  rw [Go.WideShapes.add_plain] at h
  exact ⟨b, off, rfl, World.block_lt_of_cell? w _ h, h⟩

theorem plain_addr2 {w : World} {a : Addr} {i j : Nat} {v v0 : Value} (h0 : w.cell? ((a.add 0).add 0) = some v0) (h : w.cell? ((a.add (i * 2)).add j) = some v) : ∃ b off, a = ⟨b, off, none⟩ ∧ b < w.heap.size ∧ w.cell? ⟨b, off + i * 2 + j, none⟩ = some v := by
  obtain ⟨b, off, spot⟩ := a
  have hspot : spot = none := by simpa [Addr.add] using World.cell?_spot h0
  subst hspot
  rw [Go.WideShapes.add_plain, Go.WideShapes.add_plain] at h
  exact ⟨b, off, rfl, World.block_lt_of_cell? w _ h, h⟩

section
variable {H : Type} {enc : TypeId × Value → H} {W : World}

set_option maxRecDepth 100000 in
theorem open_item_cells {n : Nat} {cs : List Value} {y : DataW H × List MemPlace} (h : DataW.trod enc Tryd.prog W 0 (fun _ => true) true n 27 cs = some y) :
    ∃ it : Item, cs = [.string it.kind, .string it.text] := by
  obtain ⟨xs, m, _, rfl, hlen, hxl, hf⟩ := DataW.trod_struct Tryd.underlying27 h
  rw [cells27] at hlen
  match cs, hlen with
  | [c0, c1], _ =>
    match xs, hxl with
    | [y0, y1], _ =>
      have g0 : DataW.trod enc Tryd.prog W 0 (fun _ => true) true m 9 [c0] = some y0 := by have := hf 0 _ rfl; simpa [cells9] using this
      have g1 : DataW.trod enc Tryd.prog W 0 (fun _ => true) true m 9 [c1] = some y1 := by have := hf 1 _ rfl; simpa [cells9] using this
      obtain ⟨k, e0, rfl, _⟩ := DataW.trod_string Tryd.underlying9 g0
      obtain ⟨tx, e1, rfl, _⟩ := DataW.trod_string Tryd.underlying9 g1
      simp only [List.cons.injEq, and_true] at e0 e1
      subst e0 e1
      exact ⟨⟨k, tx⟩, rfl⟩

set_option maxRecDepth 100000 in
theorem open_items1 {n : Nat} {v : Value} {y : DataW H × List MemPlace} (h : DataW.trod enc Tryd.prog W 0 (fun _ => true) true n 25 [v] = some y) : ∃ its, Items W.heap.size its v W := by
  rcases Go.Deep.open_slice Tryd.underlying25 h with ⟨hcs, hx⟩ | ⟨a, len, cap, m, q, D, Pl, hcs, _, hl, hm, hmm, hx, hi⟩
  · simp only [List.cons.injEq, and_true] at hcs
    subst hcs hx
    exact ⟨[], none, 0, rfl, Nat.le_refl _, by unfold maxLen; omega, fun i hi => absurd hi (Nat.not_lt_zero _)⟩
  · simp only [List.cons.injEq, and_true] at hcs
    subst hcs hx
    rw [cells27] at hi
    have hlm : len ≤ m := by rw [hmm]; simpa using hl
    have each : ∀ i, i < len → ∃ it : Item, W.cell? ((a.add (i * 2)).add 0) = some (.string it.kind) ∧ W.cell? ((a.add (i * 2)).add 1) = some (.string it.text) := fun i hlt => by
      obtain ⟨cs', hc, ht⟩ := hi i (by omega)
      obtain ⟨it, rfl⟩ := open_item_cells ht
      obtain ⟨_, _, hat⟩ := World.cells?_some hc
      exact ⟨it, hat 0 (by omega), hat 1 (by omega)⟩
    obtain ⟨f, hf⟩ := Go.Deep.choose_lt each
    have hpl : ((List.range len).map f).length = len := by simp
    refine ⟨(List.range len).map f, some a, cap, by rw [hpl], by rw [hpl]; exact hl, hm, fun i hlt => ?_⟩
    rw [hpl] at hlt
    have hg : ((List.range len).map f).getD i default = f i := by simp [List.getD_eq_getElem?_getD, hlt]
    rw [hg]
    obtain ⟨c0, c1⟩ := hf i hlt
    obtain ⟨z0, _⟩ := hf 0 (by omega)
    rw [Nat.zero_mul] at z0
    obtain ⟨b, off, rfl, hb, d0⟩ := plain_addr2 z0 c0
    rw [Go.WideShapes.add_plain, Go.WideShapes.add_plain] at c1
    exact ⟨b, off, rfl, hb, d0, c1⟩

set_option maxRecDepth 100000 in
/-- A list of lists that came in. -/
theorem open_lists {r : Reach} {b0 : Nat} {v : Value} {d : DataW H} {p : List MemPlace} (hval : Value.okWide Tryd.prog W r b0 22 v) (h : DataW.Trod enc Tryd.prog W 0 (fun _ => true) true 22 v d p) :
    ∃ ll, Lists W.heap.size ll v W ∧ Clean v := by
  obtain ⟨a0, len, cap, rfl⟩ := okWide_slice Tryd.underlying22 hval
  obtain ⟨fuel, hf⟩ := h
  rcases Go.Deep.open_slice1 Tryd.underlying22 cells25 hf with ⟨hcs, hx⟩ | ⟨a, len', cap', m, q, V, D, Pl, hcs, _, hl, hm, hmm, hx, hi⟩
  · have hcs' : [Value.slice a0 len cap] = [.slice none 0 0] := hcs
    simp only [List.cons.injEq, and_true] at hcs'
    rw [hcs']
    exact ⟨[], Lists.nil _ _, .inl rfl⟩
  · have hcs' : [Value.slice a0 len cap] = [.slice (some a) len' cap'] := hcs
    simp only [List.cons.injEq, and_true] at hcs'
    rw [hcs']
    have hlm : len' ≤ m := by rw [hmm]; simpa using hl
    have each : ∀ i, i < len' → ∃ its : List Item, Items W.heap.size its (V i) W := fun i hlt => by
      obtain ⟨_, ht⟩ := hi i (by omega)
      exact open_items1 ht
    obtain ⟨f, hf⟩ := Go.Deep.choose_lt each
    have hpl : ((List.range len').map f).length = len' := by simp
    refine ⟨(List.range len').map f, ⟨some a, cap', by rw [hpl], by rw [hpl]; exact hl, hm, fun i hlt => ?_⟩, .inr ⟨_, _, _, rfl⟩⟩
    rw [hpl] at hlt
    have hg : ((List.range len').map f).getD i [] = f i := by simp [List.getD_eq_getElem?_getD, hlt]
    rw [hg]
    obtain ⟨b, off, rfl, hb, hc⟩ := plain_addr (hi 0 (by omega)).1 (hi i (by omega)).1
    exact ⟨b, off, _, rfl, hb, hc, hf i hlt⟩

/-- The end of a law: true, the arguments as they were, nothing turned below the heap's old end. -/
theorem law_post {f : Func} {s : ChangeSpec} {W' : World} {args : Array Value} {ds : List (DataW H)} {p : List MemPlace} (hv : s.vars = []) (hr : f.resultTypes = #[4])
    (hW' : DataW.Whole enc Tryd.prog f.params.toList s.vars false W args.toList ds [] p) (hfn : s.fn H (ds ++ []) = { results := [.lit (.bool true)], args := ds })
    (hargs : DataW.TrodAll enc Tryd.prog W' 0 (fun b => decide (b < W.heap.size)) true f.params.toList args.toList ds p) (hb : Below W.heap.size W W') :
    s.post enc Tryd.prog f false true false false W args (.bool true) W' := by
  refine ⟨_, _, _, [] ++ [], p, [], hW', ?_, ?_, ?_, hb.frame _, fun h => by cases h⟩
  · rw [hfn, hr]; exact trodAll_mk1 (shut_bool Tryd.underlying4 true)
  · rw [hfn]; exact hargs
  · rw [hfn, hv]; rfl

end

/-- A WORLD FOR THE WITNESS: the settled one, the four tables laid. -/
noncomputable def laidWorld (os : Os) : World :=
  let N := (World.settled Tryd.prog os).heap.size
  let w0 := World.holding Tryd.prog os ⟨#[.cells (Lib.whiteT.map fun (z : Nat) => Value.int .u16 (z : Int)).toArray (Tryd.lays199_ren.t 198), .cells #[.slice (some ⟨N, 0, none⟩) 7 7, .slice none 0 0, .int .i64 2] (Tryd.lays199_ren.t 196)], #[], []⟩
  let put (h : Array Obj) (g : Nat) (cs : Array Value) : Array Obj := h.modify g fun
    | .cells _ t frozen => .cells cs t frozen
    | o => o
  { w0 with heap := put (put (put (put w0.heap 0 (Lib.asciiSpaceTab.map fun z => Value.int .u8 z).toArray) 2 (Lib.firstTab.map fun z => Value.int .u8 z).toArray)
      3 ((List.range 16).flatMap fun i => [Value.int .u8 (Lib.accLo i), Value.int .u8 (Lib.accHi i)]).toArray) 1 #[.pointer (some ⟨N + 1, 0, none⟩)] }

set_option maxRecDepth 100000 in
theorem laid_met (os : Os) (args : Array Value) : laidMet Tryd.prog Rows.fnEmptyJoinRow.laid ((laidWorld os).forCall (fun _ _ => 0) ⟨#[], args, []⟩).memory :=
  laidMet_of_run3 10 (by kernel_rfl) (by kernel_rfl) (by kernel_rfl)

end Go.Proofs.YteikiecbjjmkoaaDoor
