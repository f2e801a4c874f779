/- The node of a pipeline while it is made: its two rows, the variables' and the commands' nodes. -/
import Derived.Test.YteikiecbjjmkoaaCmd
namespace Go.Proofs.Yteikiecbjjmkoaa
open Go.RowKit Go.Proofs

theorem lt_of_heap {w : World} {b : Nat} {o : Obj} (h : w.heap[b]? = some o) : b < w.heap.size := (Array.getElem?_eq_some_iff.1 h).1

/-- x points to a variable's node that holds the one name s. -/
def IsVar (B : Nat) (x : Value) (s : ByteArray) (w : World) : Prop :=
  ∃ a c fz, x = .pointer (some ⟨a, 0, none⟩) ∧ Box B a 68 3 (.slice (some ⟨c, 0, none⟩) 1 1) w ∧ c < B ∧ w.heap[c]? = some (.cells #[.string s] 9 fz)

theorem IsVar.below {B : Nat} {x : Value} {s : ByteArray} {w w' : World} (h : IsVar B x s w) (hb : Below B w w') : IsVar B x s w' := by
  obtain ⟨a, c, fz, hx, h1, h2, h3⟩ := h
  exact ⟨a, c, fz, hx, h1.below hb, h2, (hb.block c h2).trans h3⟩

theorem IsVar.mono {B B' : Nat} {x : Value} {s : ByteArray} {w : World} (h : IsVar B x s w) (hB : B ≤ B') : IsVar B' x s w := by
  obtain ⟨a, c, fz, hx, h1, h2, h3⟩ := h
  exact ⟨a, c, fz, hx, h1.mono hB, by omega, h3⟩

theorem IsVar.kept {B P e : Nat} {x : Value} {s : ByteArray} {w w' : World} (h : IsVar B x s w) (hk : Lib.OthersKept e (some P) w w') (hP : ∃ cs fz, w.heap[P]? = some (.cells cs 65 fz)) (he1 : e ≠ 68) (he2 : e ≠ 9) : IsVar B x s w' := by
  obtain ⟨a, c, fz, hx, h1, h2, h3⟩ := h
  obtain ⟨cP, fP, hP⟩ := hP
  refine ⟨a, c, fz, hx, h1.kept hk (Ne.symm he1) (fun e1 => ?_), h2, hk c _ h3 (fun e1 => ?_) (fun c' f' e1 => he2 (by injection e1 with _ e2; exact e2.symm))⟩
  · obtain ⟨_, cs, f2, h4, _⟩ := h1
    rw [e1, hP] at h4
    have := Option.some.inj h4
    injection this with _ e2
    exact absurd e2 (by decide)
  · rw [Option.some.inj e1, hP] at h3
    have := Option.some.inj h3
    injection this with _ e2
    exact absurd e2 (by decide)

theorem IsVar.strs {B : Nat} {x : Value} {s : ByteArray} {w : World} (h : IsVar B x s w) : ∃ a sv, x = .pointer (some ⟨a, 0, none⟩) ∧ w.cell? ⟨a, 3, none⟩ = some sv ∧ Strs B [s] sv w := by
  obtain ⟨a, c, fz, hx, h1, h2, h3⟩ := h
  refine ⟨a, _, hx, h1.cell, some ⟨c, 0, none⟩, 1, rfl, Nat.le_refl _, by unfold maxLen; omega, fun i hi => ⟨c, 0, rfl, h2, ?_⟩⟩
  simp only [List.length_singleton] at hi
  obtain rfl : i = 0 := by omega
  rw [Lib.cell_of_heap h3]; rfl

/-- x points to a command's node whose operands print ts. -/
def IsCmd (B0 B : Nat) (x : Value) (ts : List (List UInt8)) (w : World) : Prop :=
  ∃ N v vs, x = .pointer (some ⟨N, 0, none⟩) ∧ N < B ∧ w.heap[N]? = some (.cells #[.int .i64 0, .int .i64 0, .pointer none, v] 96 (0, 0)) ∧ w.ownsRow 0 55 1 v ts.length vs ∧ (∀ g, v.ownBlock = some g → g < B) ∧ ∀ i, i < ts.length → IsNode B0 B (vs.getD i .nilIface) (ts.getD i []) w

theorem own_base {w : World} {base base' e size n : Nat} {v : Value} {xs : List Value} (h : w.ownsRow base e size v n xs) (hb : base' ≤ base) : w.ownsRow base' e size v n xs := by
  obtain ⟨h1, h2⟩ := h
  refine ⟨h1, ?_⟩
  rcases h2 with h2 | ⟨g, cap, cur, hv, hg, r⟩
  · exact .inl h2
  · exact .inr ⟨g, cap, cur, hv, by omega, r⟩

theorem own_kept {w w' : World} {base e e' size n P TP : Nat} {v : Value} {xs : List Value} (h : w.ownsRow base e' size v n xs) (hk : Lib.OthersKept e (some P) w w') (hP : ∃ cs fz, w.heap[P]? = some (.cells cs TP fz)) (he : e' ≠ e) (hT : TP ≠ e') : w'.ownsRow base e' size v n xs := by
  obtain ⟨h1, h2⟩ := h
  refine ⟨h1, ?_⟩
  rcases h2 with h2 | ⟨g, cap, cur, hv, hg, hh, r⟩
  · exact .inl h2
  · refine .inr ⟨g, cap, cur, hv, hg, hk g _ hh (fun e1 => ?_) (fun c f e1 => he (by injection e1)), r⟩
    obtain ⟨cs, fz, hP⟩ := hP
    rw [Option.some.inj e1, hP] at hh
    have := Option.some.inj hh
    injection this with _ e2
    exact hT e2

theorem own_below' {w w' : World} {B base e size n : Nat} {v : Value} {xs : List Value} (h : w.ownsRow base e size v n xs) (hb : Below B w w') (hlt : ∀ g, v.ownBlock = some g → g < B) : w'.ownsRow base e size v n xs := by
  obtain ⟨h1, h2⟩ := h
  refine ⟨h1, ?_⟩
  rcases h2 with h2 | ⟨g, cap, cur, rfl, hg, hh, r⟩
  · exact .inl h2
  · exact .inr ⟨g, cap, cur, rfl, hg, (hb.block g (hlt g rfl)).trans hh, r⟩

theorem IsCmd.below {B0 B : Nat} {x : Value} {ts : List (List UInt8)} {w w' : World} (h : IsCmd B0 B x ts w) (hb : Below B w w') : IsCmd B0 B x ts w' := by
  obtain ⟨N, v, vs, hx, hN, h1, h2, h3, h4⟩ := h
  exact ⟨N, v, vs, hx, hN, (hb.block N hN).trans h1, own_below' h2 hb h3, h3, fun i hi => (h4 i hi).below hb⟩

theorem IsCmd.mono {B0 B B' : Nat} {x : Value} {ts : List (List UInt8)} {w : World} (h : IsCmd B0 B x ts w) (hB : B ≤ B') : IsCmd B0 B' x ts w := by
  obtain ⟨N, v, vs, hx, hN, h1, h2, h3, h4⟩ := h
  exact ⟨N, v, vs, hx, by omega, h1, h2, fun g hg => Nat.lt_of_lt_of_le (h3 g hg) hB, fun i hi => (h4 i hi).mono hB⟩

theorem IsCmd.kept {B0 B P e : Nat} {x : Value} {ts : List (List UInt8)} {w w' : World} (h : IsCmd B0 B x ts w) (hb : Below B0 w w') (hk : Lib.OthersKept e (some P) w w') (hP : ∃ cs fz, w.heap[P]? = some (.cells cs 65 fz)) (he : e ∉ [74, 68, 77, 80, 86, 89, 51, 5, 96, 55]) : IsCmd B0 B x ts w' := by
  obtain ⟨N, v, vs, hx, hN, h1, h2, h3, h4⟩ := h
  have he' : e ∉ [74, 68, 77, 80, 86, 89, 51, 5] := fun h => he (by simp at h ⊢; omega)
  have e96 : (96 : Nat) ≠ e := fun h => he (by simp [← h])
  have e55 : (55 : Nat) ≠ e := fun h => he (by simp [← h])
  refine ⟨N, v, vs, hx, hN, hk N _ h1 (fun e1 => ?_) (fun c f e1 => e96 (by injection e1)), own_kept h2 hk hP e55 (by decide), h3, fun i hi => (h4 i hi).kept hb hk hP he' (by decide)⟩
  obtain ⟨cs, fz, hP⟩ := hP
  rw [Option.some.inj e1, hP] at h1
  have := Option.some.inj h1
  injection this with _ e2
  exact absurd e2 (by decide)

theorem row_nodes {B0 B base : Nat} {w : World} {ts : List (List UInt8)} {v : Value} {vs : List Value} (ho : w.ownsRow base 55 1 v ts.length vs) (hlt : ∀ g, v.ownBlock = some g → g < B) (hn : ∀ i, i < ts.length → IsNode B0 B (vs.getD i .nilIface) (ts.getD i []) w) : Nodes B0 B ts v w := by
  rcases ho.2 with ⟨rfl, h0⟩ | ⟨g, cap, cur, rfl, _, hgg, hle, hcap, hcs, htake⟩
  · exact ⟨none, 0, by rw [h0], by omega, by unfold maxLen; omega, fun i hi => absurd hi (by omega)⟩
  · refine ⟨some ⟨g, 0, none⟩, cap, rfl, hle, hcap, fun i hi => ⟨g, 0, vs.getD i .nilIface, rfl, hlt g rfl, ?_, hn i hi⟩⟩
    rw [Nat.zero_add, Lib.cell_of_heap hgg]
    have hvl : vs.length = ts.length := by have := ho.1; simpa using this
    have e1 : vs.getD i .nilIface = (cur.toList.take (ts.length * 1)).getD i .nilIface := by rw [htake]
    have hi2 : i < cur.size := by omega
    rw [e1, List.getD_eq_getElem?_getD, List.getElem?_take_of_lt (by omega)]
    simp [hi2]

theorem IsCmd.nodes {B0 B : Nat} {x : Value} {ts : List (List UInt8)} {w : World} (h : IsCmd B0 B x ts w) : ∃ N sv, x = .pointer (some ⟨N, 0, none⟩) ∧ w.cell? ⟨N, 3, none⟩ = some sv ∧ Nodes B0 B ts sv w := by
  obtain ⟨N, v, vs, hx, hN, h1, h2, h3, h4⟩ := h
  exact ⟨N, v, hx, by rw [Lib.cell_of_heap h1]; rfl, row_nodes h2 h3 h4⟩

theorem RowAt.cmd {B0 N k : Nat} {w0 wr : World} {ts : List (List UInt8)} {v : Value} {vs : List Value} (h : RowAt B0 96 N w0 ts k v vs wr) (hk : k = ts.length) : IsCmd B0 wr.heap.size (.pointer (some ⟨N, 0, none⟩)) ts wr := by
  obtain ⟨h1, h2, h3, _⟩ := h
  subst hk
  exact ⟨N, v, vs, rfl, lt_of_heap h1, h1, own_base h2 (Nat.zero_le _), fun g hg => (h2.lt g hg).2, h3⟩

/-- The pipeline's node behind some rounds. -/
def PipeAt (B0 P : Nat) (asg : Bool) (w0 : World) (ds : List ByteArray) (tss : List (List (List UInt8))) (k m : Nat) (dv cv : Value) (dvs cvs : List Value) (wr : World) : Prop :=
  wr.heap[P]? = some (.cells #[.int .i64 0, .int .i64 0, .pointer none, .int .i64 0, .bool asg, dv, cv] 65 (0, 0)) ∧ wr.ownsRow P 66 1 dv k dvs ∧ (∀ i, i < k → IsVar wr.heap.size (dvs.getD i .nilIface) (ds.getD i .empty) wr) ∧
    wr.ownsRow P 59 1 cv m cvs ∧ (∀ i, i < m → IsCmd B0 wr.heap.size (cvs.getD i .nilIface) (tss.getD i []) wr) ∧ Below P w0 wr

/-- What an append onto a row of the pipeline's, and the store of the new row, leave. -/
theorem push_core {P e k j : Nat} {wr w3 w1 : World} {cs : Array Value} {v v' : Value} {vs ws : List Value} {q : Nat} (hP : wr.heap[P]? = some (.cells cs 65 (0, 0))) (ho : wr.ownsRow P e 1 v k vs) (hb3 : Below wr.heap.size wr w3) (hg : w3.grownBy w1 v.ownBlock) (hown : w1.ownsRow P e 1 v' q ws) (he : (65 : Nat) ≠ e) :
    w1.heap[P]? = some (.cells cs 65 (0, 0)) ∧ w3.heap[P]? = some (.cells cs 65 (0, 0)) ∧ (w1.setCell ⟨P, j, none⟩ v').heap[P]? = some (.cells (cs.setIfInBounds j v') 65 (0, 0)) ∧ Lib.OthersKept e (some P) w3 (w1.setCell ⟨P, j, none⟩ v') ∧ Below P w3 (w1.setCell ⟨P, j, none⟩ v') ∧ (w1.setCell ⟨P, j, none⟩ v').ownsRow P e 1 v' q ws := by
  have hlt := lt_of_heap hP
  have hne : v.ownBlock ≠ some P := Lib.ownBlock_ne ho hP he
  have hP3 := (hb3.block P hlt).trans hP
  have hP1 : w1.heap[P]? = some (.cells cs 65 (0, 0)) := (hg.block P (Nat.lt_of_lt_of_le hlt hb3.size) (fun e => hne e.symm)).trans hP3
  have hrow : ∀ g, v.ownBlock = some g → ∃ c fz, w3.heap[g]? = some (.cells c e fz) := fun g hg' => by
    have hl := (ho.lt g hg').2
    rcases ho.2 with ⟨rfl, _⟩ | ⟨g', cap, cur, rfl, _, hgg, _⟩
    · simp [Value.ownBlock] at hg'
    · simp [Value.ownBlock] at hg'
      subst hg'
      exact ⟨cur, (0, 0), (hb3.block g' hl).trans hgg⟩
  refine ⟨hP1, hP3, ?_, ((Lib.OthersKept.refl _ _ w3).grown hg hrow).setCell ⟨P, j, none⟩ rfl v', ((Below.refl P w3).grown hg (Nat.le_trans (Nat.le_of_lt hlt) hb3.size) (fun g hg' => (ho.lt g hg').1)).setCell (p := ⟨P, j, none⟩) (Nat.le_refl _) v', ?_⟩
  · simp [World.setCell, Array.getElem?_modify, hP1]
  · exact hown.kept (row := some P) ⟨rfl, rfl, rfl, by simp [World.setCell], fun i _ hi => Below.heap_setCell _ _ _ _ (fun e => hi (by simp [e]))⟩ (Or.inr (Lib.ownBlock_ne hown hP1 he))

theorem getD_snoc_lt {α : Type} {l : List α} {x d : α} {i : Nat} (h : i < l.length) : (l ++ [x]).getD i d = l.getD i d := by
  simp only [List.getD_eq_getElem?_getD]; rw [List.getElem?_append_left h]
theorem getD_snoc_eq {α : Type} {l : List α} {x d : α} {i : Nat} (h : i = l.length) : (l ++ [x]).getD i d = x := by
  simp only [List.getD_eq_getElem?_getD]; rw [List.getElem?_append_right (by omega)]; simp [h]

/-- One variable more. -/
theorem PipeAt.var {B0 P k m : Nat} {asg : Bool} {w0 wr w3 w1 : World} {ds : List ByteArray} {tss : List (List (List UInt8))} {dv cv v' x : Value} {dvs cvs : List Value} (h : PipeAt B0 P asg w0 ds tss k m dv cv dvs cvs wr) (hB0 : B0 ≤ P) (hb3 : Below wr.heap.size wr w3) (hx : IsVar w3.heap.size x (ds.getD k .empty) w3)
    (hown : w1.ownsRow P 66 1 v' (k + 1) (dvs ++ [x])) (hg : w3.grownBy w1 dv.ownBlock) :
    w1.heap[P]? = some (.cells #[.int .i64 0, .int .i64 0, .pointer none, .int .i64 0, .bool asg, dv, cv] 65 (0, 0)) ∧ PipeAt B0 P asg w0 ds tss (k + 1) m v' cv (dvs ++ [x]) cvs (w1.setCell ⟨P, 5, none⟩ v') := by
  obtain ⟨hP, ho, hv, hoc, hc, hb⟩ := h
  obtain ⟨hP1, hP3, hP', hk, hbl, hown'⟩ := push_core (j := 5) hP ho hb3 hg hown (by decide)
  have hlt := lt_of_heap hP
  have hl : dvs.length = k := by have := ho.1; simpa using this
  refine ⟨hP1, hP', hown', fun i hi => ?_, own_kept (own_below hoc hb3) hk ⟨_, _, hP3⟩ (by decide) (by decide), fun i hi => (((hc i hi).below hb3).kept (hbl.mono hB0) hk ⟨_, _, hP3⟩ (by decide)).mono (Nat.le_trans hb3.size hbl.size), (hb.trans (hb3.mono (Nat.le_of_lt hlt))).trans hbl⟩
  by_cases hik : i < k
  · rw [getD_snoc_lt (by omega)]
    exact (((hv i hik).below hb3).kept hk ⟨_, _, hP3⟩ (by decide) (by decide)).mono (Nat.le_trans hb3.size hbl.size)
  · obtain rfl : i = k := by omega
    rw [getD_snoc_eq (by omega)]
    exact (hx.kept hk ⟨_, _, hP3⟩ (by decide) (by decide)).mono hbl.size

/-- One command more. -/
theorem PipeAt.cmd {B0 P k m : Nat} {asg : Bool} {w0 wr w3 w1 : World} {ds : List ByteArray} {tss : List (List (List UInt8))} {dv cv v' x : Value} {dvs cvs : List Value} (h : PipeAt B0 P asg w0 ds tss k m dv cv dvs cvs wr) (hB0 : B0 ≤ P) (hb3 : Below wr.heap.size wr w3) (hx : IsCmd B0 w3.heap.size x (tss.getD m []) w3)
    (hown : w1.ownsRow P 59 1 v' (m + 1) (cvs ++ [x])) (hg : w3.grownBy w1 cv.ownBlock) :
    w1.heap[P]? = some (.cells #[.int .i64 0, .int .i64 0, .pointer none, .int .i64 0, .bool asg, dv, cv] 65 (0, 0)) ∧ PipeAt B0 P asg w0 ds tss k (m + 1) dv v' dvs (cvs ++ [x]) (w1.setCell ⟨P, 6, none⟩ v') := by
  obtain ⟨hP, ho, hv, hoc, hc, hb⟩ := h
  obtain ⟨hP1, hP3, hP', hk, hbl, hown'⟩ := push_core (j := 6) hP hoc hb3 hg hown (by decide)
  have hlt := lt_of_heap hP
  have hl : cvs.length = m := by have := hoc.1; simpa using this
  refine ⟨hP1, hP', own_kept (own_below ho hb3) hk ⟨_, _, hP3⟩ (by decide) (by decide), fun i hi => (((hv i hi).below hb3).kept hk ⟨_, _, hP3⟩ (by decide) (by decide)).mono (Nat.le_trans hb3.size hbl.size), hown', fun i hi => ?_, (hb.trans (hb3.mono (Nat.le_of_lt hlt))).trans hbl⟩
  by_cases hik : i < m
  · rw [getD_snoc_lt (by omega)]
    exact (((hc i hik).below hb3).kept (hbl.mono hB0) hk ⟨_, _, hP3⟩ (by decide)).mono (Nat.le_trans hb3.size hbl.size)
  · obtain rfl : i = m := by omega
    rw [getD_snoc_eq (by omega)]
    exact (hx.kept (hbl.mono hB0) hk ⟨_, _, hP3⟩ (by decide)).mono hbl.size

/-- A list of variables' nodes, and of commands' nodes, as PipeNode.writeTo reads them. -/
def Vars (B : Nat) (ds : List ByteArray) (v : Value) (w : World) : Prop :=
  ∃ ao cap, v = .slice ao ds.length cap ∧ ds.length ≤ cap ∧ cap ≤ maxLen ∧ ∀ i, i < ds.length → ∃ b off x, ao = some ⟨b, off, none⟩ ∧ b < B ∧ w.cell? ⟨b, off + i, none⟩ = some x ∧ IsVar B x (ds.getD i .empty) w
def CmdNodes (B0 B : Nat) (tss : List (List (List UInt8))) (v : Value) (w : World) : Prop :=
  ∃ ao cap, v = .slice ao tss.length cap ∧ tss.length ≤ cap ∧ cap ≤ maxLen ∧ ∀ i, i < tss.length → ∃ b off x, ao = some ⟨b, off, none⟩ ∧ b < B ∧ w.cell? ⟨b, off + i, none⟩ = some x ∧ IsCmd B0 B x (tss.getD i []) w

theorem Vars.below {B : Nat} {ds : List ByteArray} {v : Value} {w w' : World} (h : Vars B ds v w) (hb : Below B w w') : Vars B ds v w' := by
  obtain ⟨ao, cap, hv, h1, h2, h3⟩ := h
  refine ⟨ao, cap, hv, h1, h2, fun i hi => ?_⟩
  obtain ⟨b, off, x, hao, hbB, hc, hx⟩ := h3 i hi
  exact ⟨b, off, x, hao, hbB, (hb.cell (p := ⟨b, _, none⟩) hbB).trans hc, hx.below hb⟩
theorem CmdNodes.below {B0 B : Nat} {tss : List (List (List UInt8))} {v : Value} {w w' : World} (h : CmdNodes B0 B tss v w) (hb : Below B w w') : CmdNodes B0 B tss v w' := by
  obtain ⟨ao, cap, hv, h1, h2, h3⟩ := h
  refine ⟨ao, cap, hv, h1, h2, fun i hi => ?_⟩
  obtain ⟨b, off, x, hao, hbB, hc, hx⟩ := h3 i hi
  exact ⟨b, off, x, hao, hbB, (hb.cell (p := ⟨b, _, none⟩) hbB).trans hc, hx.below hb⟩

theorem own_at {w : World} {base e n : Nat} {v : Value} {vs : List Value} (ho : w.ownsRow base e 1 v n vs) : ∃ ao cap, v = .slice ao n cap ∧ n ≤ cap ∧ cap ≤ maxLen ∧ ∀ i, i < n → ∃ b, ao = some ⟨b, 0, none⟩ ∧ b < w.heap.size ∧ w.cell? ⟨b, 0 + i, none⟩ = some (vs.getD i .nilIface) := by
  rcases ho.2 with ⟨rfl, h0⟩ | ⟨g, cap, cur, rfl, _, hgg, hle, hcap, hcs, htake⟩
  · exact ⟨none, 0, by rw [h0], by omega, by unfold maxLen; omega, fun i hi => absurd hi (by omega)⟩
  · refine ⟨some ⟨g, 0, none⟩, cap, rfl, hle, hcap, fun i hi => ⟨g, rfl, lt_of_heap hgg, ?_⟩⟩
    rw [Nat.zero_add, Lib.cell_of_heap hgg]
    have e1 : vs.getD i .nilIface = (cur.toList.take (n * 1)).getD i .nilIface := by rw [htake]
    have hi2 : i < cur.size := by omega
    rw [e1, List.getD_eq_getElem?_getD, List.getElem?_take_of_lt (by omega)]
    simp [hi2]

theorem PipeAt.lists {B0 P : Nat} {asg : Bool} {w0 wr : World} {ds : List ByteArray} {tss : List (List (List UInt8))} {dv cv : Value} {dvs cvs : List Value} (h : PipeAt B0 P asg w0 ds tss ds.length tss.length dv cv dvs cvs wr) : Vars wr.heap.size ds dv wr ∧ CmdNodes B0 wr.heap.size tss cv wr := by
  obtain ⟨_, ho, hv, hoc, hc, _⟩ := h
  obtain ⟨ao, cap, e1, h1, h2, h3⟩ := own_at ho
  obtain ⟨ao', cap', e1', h1', h2', h3'⟩ := own_at hoc
  refine ⟨⟨ao, cap, e1, h1, h2, fun i hi => ?_⟩, ⟨ao', cap', e1', h1', h2', fun i hi => ?_⟩⟩
  · obtain ⟨b, hao, hb, hcell⟩ := h3 i hi
    exact ⟨b, 0, _, hao, hb, hcell, hv i hi⟩
  · obtain ⟨b, hao, hb, hcell⟩ := h3' i hi
    exact ⟨b, 0, _, hao, hb, hcell, hc i hi⟩

end Go.Proofs.Yteikiecbjjmkoaa
