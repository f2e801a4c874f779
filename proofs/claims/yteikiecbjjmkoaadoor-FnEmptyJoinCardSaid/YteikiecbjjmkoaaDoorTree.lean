/- IsEmptyTree, at leaves and at lists; spec.White. -/
import Derived.Test.YteikiecbjjmkoaaDoorTrim
namespace Go.Proofs.YteikiecbjjmkoaaDoor
open Go.RowKit Go.Proofs

def textK : ByteArray := ⟨#[116, 101, 120, 116]⟩
def commentK : ByteArray := ⟨#[99, 111, 109, 109, 101, 110, 116]⟩

/-- Is the item's node empty? -/
def leafEmpty (x : Item) : Bool := if x.kind = textK then blank x.text else decide (x.kind = commentK)

/-- The node x stands for the item it; its blocks lie in [lo, hi). -/
def IsLeaf (lo hi : Nat) (x : Value) (it : Item) (w : World) : Prop :=
  (it.kind = textK ∧ ∃ a c cap cs fz ccs cfz, x = .iface 38 (.pointer (some ⟨a, 0, none⟩)) ∧ lo ≤ a ∧ a < hi ∧ lo ≤ c ∧ c < hi ∧ w.heap[a]? = some (.cells cs 41 fz) ∧ cs[3]? = some (.slice (some ⟨c, 0, none⟩) it.text.size cap) ∧ it.text.size ≤ cap ∧ cap ≤ maxLen ∧
      w.heap[c]? = some (.cells ccs 5 cfz) ∧ ∀ j, j < it.text.size → ccs[j]? = some (.int .u8 (it.text.get! j).toNat)) ∨
  (it.kind ≠ textK ∧ it.kind = commentK ∧ ∃ a, x = .iface 42 (.pointer (some a))) ∨
  (it.kind ≠ textK ∧ it.kind ≠ commentK ∧ ∃ a, x = .iface 45 (.pointer (some a)))

theorem IsLeaf.kept {lo hi : Nat} {x : Value} {it : Item} {w w' : World} (h : IsLeaf lo hi x it w) (hk : ∀ b, lo ≤ b → b < hi → (∀ cs fz, w.heap[b]? ≠ some (.cells cs 52 fz)) → (∀ cs fz, w.heap[b]? ≠ some (.cells cs 37 fz)) → w'.heap[b]? = w.heap[b]?) : IsLeaf lo hi x it w' := by
  rcases h with ⟨hkd, a, c, cap, cs, fz, ccs, cfz, hx, h1, h2, h3, h4, h5, h6, h7, h8, h9, h10⟩ | h | h
  · refine .inl ⟨hkd, a, c, cap, cs, fz, ccs, cfz, hx, h1, h2, h3, h4, ?_, h6, h7, h8, ?_, h10⟩
    · rw [hk a h1 h2 (fun cs fz e => by rw [h5] at e; injection e with e; injection e with _ e; exact absurd e (by decide)) (fun cs fz e => by rw [h5] at e; injection e with e; injection e with _ e; exact absurd e (by decide))]; exact h5
    · rw [hk c h3 h4 (fun cs fz e => by rw [h9] at e; injection e with e; injection e with _ e; exact absurd e (by decide)) (fun cs fz e => by rw [h9] at e; injection e with e; injection e with _ e; exact absurd e (by decide))]; exact h9
  · exact .inr (.inl h)
  · exact .inr (.inr h)

theorem IsLeaf.mono {lo hi hi' : Nat} {x : Value} {it : Item} {w : World} (h : IsLeaf lo hi x it w) (hh : hi ≤ hi') : IsLeaf lo hi' x it w := by
  rcases h with ⟨hkd, a, c, cap, cs, fz, ccs, cfz, hx, h1, h2, h3, h4, h5⟩ | h | h
  · exact .inl ⟨hkd, a, c, cap, cs, fz, ccs, cfz, hx, h1, by omega, h3, by omega, h5⟩
  · exact .inr (.inl h)
  · exact .inr (.inr h)

theorem not_nil (W : World) (u : TypeId) (v : Value) : (binOp .eql 52 (.iface u v) .nilIface).run Tryd.prog W = .ok (.bool false) W := by kernel_rfl
theorem as38_45 (W : World) (v : Value) : (Instr.typeAssert (.iface 38 v) 52 45 true).run Tryd.prog W = .ok (.tuple #[.pointer none, .bool false]) W := by kernel_rfl
theorem as38_42 (W : World) (v : Value) : (Instr.typeAssert (.iface 38 v) 52 42 true).run Tryd.prog W = .ok (.tuple #[.pointer none, .bool false]) W := by kernel_rfl
theorem as38_53 (W : World) (v : Value) : (Instr.typeAssert (.iface 38 v) 52 53 true).run Tryd.prog W = .ok (.tuple #[.pointer none, .bool false]) W := by kernel_rfl
theorem as38_31 (W : World) (v : Value) : (Instr.typeAssert (.iface 38 v) 52 31 true).run Tryd.prog W = .ok (.tuple #[.pointer none, .bool false]) W := by kernel_rfl
theorem as38_54 (W : World) (v : Value) : (Instr.typeAssert (.iface 38 v) 52 54 true).run Tryd.prog W = .ok (.tuple #[.pointer none, .bool false]) W := by kernel_rfl
theorem as38_55 (W : World) (v : Value) : (Instr.typeAssert (.iface 38 v) 52 55 true).run Tryd.prog W = .ok (.tuple #[.pointer none, .bool false]) W := by kernel_rfl
theorem as38_38 (W : World) (v : Value) : (Instr.typeAssert (.iface 38 v) 52 38 true).run Tryd.prog W = .ok (.tuple #[v, .bool true]) W := by kernel_rfl
theorem as42_45 (W : World) (v : Value) : (Instr.typeAssert (.iface 42 v) 52 45 true).run Tryd.prog W = .ok (.tuple #[.pointer none, .bool false]) W := by kernel_rfl
theorem as42_42 (W : World) (v : Value) : (Instr.typeAssert (.iface 42 v) 52 42 true).run Tryd.prog W = .ok (.tuple #[v, .bool true]) W := by kernel_rfl
theorem as45_45 (W : World) (v : Value) : (Instr.typeAssert (.iface 45 v) 52 45 true).run Tryd.prog W = .ok (.tuple #[v, .bool true]) W := by kernel_rfl
theorem as31_45 (W : World) (v : Value) : (Instr.typeAssert (.iface 31 v) 52 45 true).run Tryd.prog W = .ok (.tuple #[.pointer none, .bool false]) W := by kernel_rfl
theorem as31_42 (W : World) (v : Value) : (Instr.typeAssert (.iface 31 v) 52 42 true).run Tryd.prog W = .ok (.tuple #[.pointer none, .bool false]) W := by kernel_rfl
theorem as31_53 (W : World) (v : Value) : (Instr.typeAssert (.iface 31 v) 52 53 true).run Tryd.prog W = .ok (.tuple #[.pointer none, .bool false]) W := by kernel_rfl
theorem as31_31 (W : World) (v : Value) : (Instr.typeAssert (.iface 31 v) 52 31 true).run Tryd.prog W = .ok (.tuple #[v, .bool true]) W := by kernel_rfl

/-- What IsEmptyTree says of x, in every world behind w. -/
def Says (x : Value) (r : Bool) (w : World) : Prop := ∀ W, Below w.heap.size w W → Calls Tryd.prog 9 #[x] W fun e W' => e = .returned (.bool r) ∧ Below W.heap.size W W'

set_option maxHeartbeats 1000000 in
set_option maxRecDepth 100000 in
/-- IsEmptyTree of a leaf. -/
theorem leaf_says {lo hi : Nat} {x : Value} {it : Item} {w : World} (h : IsLeaf lo hi x it w) (hh : hi ≤ w.heap.size) (hT : Tabs w) : Says x (leafEmpty it) w := by
  intro W hW
  rcases h with ⟨hkd, a, c, cap, cs, fz, ccs, cfz, rfl, h1, h2, h3, h4, h5, h6, h7, h8, h9, h10⟩ | ⟨hk1, hk2, a, rfl⟩ | ⟨hk1, hk2, a, rfl⟩
  · have e1 : leafEmpty it = (trimLen it.text == 0) := by unfold leafEmpty; rw [if_pos hkd]; rfl
    have hcell : W.cell? ⟨a, 3, none⟩ = some (.slice (some ⟨c, 0, none⟩) it.text.size cap) := by
      rw [hW.cell (p := ⟨a, 3, none⟩) (by show a < _; omega), Lib.cell_of_heap h5]; exact h6
    have hB : BytesAt it.text c 0 W := fun j hj => by
      rw [hW.cell (p := ⟨c, _, none⟩) (by show c < _; omega), Nat.zero_add, Lib.cell_of_heap h9]; exact h10 j hj
    unfold maxLen at h8
    have c1 := trim_space it.text c 0 cap W h7 (by omega) hB (hT.below hW)
    rw [e1]
    generalize trimLen it.text = TL at *
    generalize it.text.size = n at *
    clear hB h10 h6 h9 h5 e1
    have hTL : ((TL : Int) == 0) = (TL == 0) := by
      rcases Nat.eq_zero_or_pos TL with e | e
      · subst e; rfl
      · rw [beq_eq_false_iff_ne.2 (by omega), beq_eq_false_iff_ne.2 (by omega)]
    have HTL := Lib.hid hTL
    clear hTL
    have n0 := not_nil W 38
    have n1 := as38_45 W
    have n2 := as38_42 W
    have n3 := as38_53 W
    have n4 := as38_31 W
    have n5 := as38_54 W
    have n6 := as38_55 W
    have n7 := as38_38 W
    go_enter Tryd.func9, Tryd.ntmps9
    go_wp2_with fail
    refine c1.mono ?_
    rintro e w' ⟨ao, cap', rfl, hb⟩
    have Hb := Lib.hid hb
    clear hb c1
    go_wp2
    go_ret
    exact ⟨by simpa using HTL.out, Hb.out⟩
  · have e1 : leafEmpty it = true := by unfold leafEmpty; rw [if_neg hk1]; exact decide_eq_true hk2
    rw [e1]
    have n0 := not_nil W 42
    have n1 := as42_45 W
    have n2 := as42_42 W
    go_enter Tryd.func9, Tryd.ntmps9
    go_wp2
    go_ret
    exact ⟨rfl, Below.refl _ _⟩
  · have e1 : leafEmpty it = false := by unfold leafEmpty; rw [if_neg hk1]; exact decide_eq_false hk2
    rw [e1]
    have n0 := not_nil W 45
    have n1 := as45_45 W
    go_enter Tryd.func9, Tryd.ntmps9
    go_wp2
    go_ret
    exact ⟨rfl, Below.refl _ _⟩

set_option maxHeartbeats 1000000 in
set_option maxRecDepth 100000 in
/-- IsEmptyTree of a list of nodes of which it says fs. -/
theorem list_says {N : Nat} {w : World} {ao : Option Addr} {n cap : Nat} (vs : Nat → Value) (fs : List Bool) (hl : fs.length = n) (hcell : w.cell? ⟨N, 3, none⟩ = some (.slice ao n cap)) (hnc : n ≤ cap) (hcap : cap ≤ maxLen)
    (hrow : ∀ i, i < n → ∃ b, ao = some ⟨b, 0, none⟩ ∧ b < w.heap.size ∧ w.cell? ⟨b, i, none⟩ = some (vs i)) (hform : ∀ i, i < n → ∃ T p, vs i = .iface T p)
    (hs : ∀ i, i < n → Says (vs i) (fs.getD i false) w) : Says (.iface 31 (.pointer (some ⟨N, 0, none⟩))) (fs.all id) w := by
  intro W hW
  have hN : N < w.heap.size := World.block_lt_of_cell? w _ hcell
  have hcellW : W.cell? ⟨N, 3, none⟩ = some (.slice ao n cap) := (hW.cell (p := ⟨N, 3, none⟩) hN).trans hcell
  have Hrow := Lib.hid hrow
  have Hs := Lib.hid hs
  have Hf := Lib.hid hform
  have HW := Lib.hid hW
  have Hl := Lib.hid hl
  unfold maxLen at hcap
  obtain ⟨R, hR⟩ : ∃ R, R = fs.all id := ⟨_, rfl⟩
  rw [← hR]
  have HR := Lib.hid hR
  clear hrow hs hW hcell hl hR hform
  have n0 := not_nil W 31
  have n1 := as31_45 W
  have n2 := as31_42 W
  have n3 := as31_53 W
  have n4 := as31_31 W
  go_enter Tryd.func9, Tryd.ntmps9
  go_wp2
  go_loopw [38] (fun i wr => ∃ k : Nat, k ≤ n ∧ i = .int .i64 k ∧ Hid (Below W.heap.size W wr ∧ (fs.take k).all id = true)) (fun i _ => n - (intOf i).toNat)
  case atStart => exact ⟨0, Nat.zero_le _, rfl, Below.refl _ _, rfl⟩
  case round =>
    obtain ⟨k, hk, rfl, hX⟩ := hrel
    by_cases hlt : k < n
    · obtain ⟨b, rfl, hb, hc⟩ := Hrow.out k hlt
      obtain ⟨T, p, hv⟩ := Hf.out k hlt
      have hwr : Below w.heap.size w wr := HW.out.trans (hX.out.1.mono HW.out.size)
      have hc' : wr.cell? ⟨b, k, none⟩ = some (.iface T p) := by rw [hwr.cell (p := ⟨b, k, none⟩) hb, hc, hv]
      have c1 := Hs.out k hlt wr hwr
      rw [hv] at c1
      have htk : (fs.take (k + 1)).all id = ((fs.take k).all id && fs.getD k false) := by
        have hk2 : k < fs.length := by rw [Hl.out]; exact hlt
        rw [List.take_succ_eq_append_getElem hk2, List.all_append]
        simp [List.getD_eq_getElem?_getD, hk2]
      have Htk := Lib.hid htk
      have hall : fs.getD k false = false → Hid (R = false) := fun h => by
        have hk2 : k < fs.length := by rw [Hl.out]; exact hlt
        have hm : fs.getD k false ∈ fs := by rw [List.getD_eq_getElem?_getD, List.getElem?_eq_getElem hk2]; exact List.getElem_mem hk2
        rw [Hid, HR.out, List.all_eq_false]
        exact ⟨_, hm, by rw [h]; decide⟩
      clear htk hc hv hwr
      cases hf : fs.getD k false with
      | true =>
        rw [hf] at c1
        have HT : Hid ((fs.take (k + 1)).all id = true) := by rw [Hid, Htk.out, hX.out.2, hf]; rfl
        clear hall
        go_wp2_with fail
        refine c1.mono ?_
        rintro e w2 ⟨rfl, q1⟩
        have HX2 := Lib.hid (hX.out.1.trans (q1.mono hX.out.1.size))
        clear q1 c1 hX
        go_wp2
        go_roundw
        case rel => exact ⟨k + 1, by omega, by go_num, HX2.out, HT.out⟩
        case measure => simp [intOf]; omega
      | false =>
        rw [hf] at c1
        have HE := hall hf
        clear hall
        go_wp2_with fail
        refine c1.mono ?_
        rintro e w2 ⟨rfl, q1⟩
        have HX2 := Lib.hid (hX.out.1.trans (q1.mono hX.out.1.size))
        clear q1 c1 hX
        go_wp2
        go_ret
        exact ⟨by rw [HE.out]; rfl, HX2.out⟩
    · have hE : Hid (R = true) := by
        have := hX.out.2
        rw [show k = fs.length by rw [Hl.out]; omega, List.take_length] at this
        rw [Hid, HR.out, this]
      go_wp2
      go_ret
      exact ⟨by rw [hE.out]; rfl, hX.out.1⟩

end Go.Proofs.YteikiecbjjmkoaaDoor
