/- The tree while it is made: a list of leaves, a list of such lists; what IsEmptyTree says of them. -/
import Derived.Test.YteikiecbjjmkoaaDoorTree
import Derived.Laws.AppendOwn
import Derived.Laws.IdiomStrings
namespace Go.Proofs.YteikiecbjjmkoaaDoor
open Go.RowKit Go.Proofs

theorem lt_of_heap {w : World} {b : Nat} {o : Obj} (h : w.heap[b]? = some o) : b < w.heap.size := (Array.getElem?_eq_some_iff.1 h).1

theorem own_below {w w' : World} {base e size n : Nat} {v : Value} {xs : List Value} (h : w.ownsRow base e size v n xs) (hb : Below w.heap.size w w') : w'.ownsRow base e size v n xs := by
  have hlt := h.lt
  obtain ⟨h1, h2⟩ := h
  refine ⟨h1, ?_⟩
  rcases h2 with h2 | ⟨g, cap, cur, rfl, hg, hh, r⟩
  · exact .inl h2
  · exact .inr ⟨g, cap, cur, rfl, hg, (hb.block g (hlt g rfl).2).trans hh, r⟩

theorem own_heap {w w' : World} {base base' e size n : Nat} {v : Value} {xs : List Value} (h : w.ownsRow base e size v n xs) (hb : base' ≤ base) (hk : ∀ g, v.ownBlock = some g → w'.heap[g]? = w.heap[g]?) : w'.ownsRow base' e size v n xs := by
  obtain ⟨h1, h2⟩ := h
  refine ⟨h1, ?_⟩
  rcases h2 with h2 | ⟨g, cap, cur, rfl, hg, hh, r⟩
  · exact .inl h2
  · exact .inr ⟨g, cap, cur, rfl, by omega, (hk g rfl).trans hh, r⟩

theorem own_at {w : World} {base e n : Nat} {v : Value} {vs : List Value} (ho : w.ownsRow base e 1 v n vs) : ∃ ao cap, v = .slice ao n cap ∧ n ≤ cap ∧ cap ≤ maxLen ∧ ∀ i, i < n → ∃ b, ao = some ⟨b, 0, none⟩ ∧ b < w.heap.size ∧ w.cell? ⟨b, i, none⟩ = some (vs.getD i .nilIface) := by
  rcases ho.2 with ⟨rfl, h0⟩ | ⟨g, cap, cur, rfl, _, hgg, hle, hcap, hcs, htake⟩
  · exact ⟨none, 0, by rw [h0], by omega, by unfold maxLen; omega, fun i hi => absurd hi (by omega)⟩
  · refine ⟨some ⟨g, 0, none⟩, cap, rfl, hle, hcap, fun i hi => ⟨g, rfl, lt_of_heap hgg, ?_⟩⟩
    rw [Lib.cell_of_heap hgg]
    have e1 : vs.getD i .nilIface = (cur.toList.take (n * 1)).getD i .nilIface := by rw [htake]
    have hi2 : i < cur.size := by omega
    rw [e1, List.getD_eq_getElem?_getD, List.getElem?_take_of_lt (by omega)]
    simp [hi2]

theorem getD_snoc_lt {α : Type} {l : List α} {x d : α} {i : Nat} (h : i < l.length) : (l ++ [x]).getD i d = l.getD i d := by
  simp only [List.getD_eq_getElem?_getD]; rw [List.getElem?_append_left h]
theorem getD_snoc_eq {α : Type} {l : List α} {x d : α} {i : Nat} (h : i = l.length) : (l ++ [x]).getD i d = x := by
  simp only [List.getD_eq_getElem?_getD]; rw [List.getElem?_append_right (by omega)]; simp [h]

theorem IsLeaf.low {lo lo' hi : Nat} {x : Value} {it : Item} {w : World} (h : IsLeaf lo hi x it w) (hh : lo' ≤ lo) : IsLeaf lo' hi x it w := by
  rcases h with ⟨hkd, a, c, cap, cs, fz, ccs, cfz, hx, h1, h2, h3, h4, h5⟩ | h | h
  · exact .inl ⟨hkd, a, c, cap, cs, fz, ccs, cfz, hx, by omega, h2, by omega, h4, h5⟩
  · exact .inr (.inl h)
  · exact .inr (.inr h)

theorem IsLeaf.form {lo hi : Nat} {x : Value} {it : Item} {w : World} (h : IsLeaf lo hi x it w) : ∃ T p, x = .iface T p := by
  rcases h with ⟨_, a, c, cap, cs, fz, ccs, cfz, hx, _⟩ | ⟨_, _, a, hx⟩ | ⟨_, _, a, hx⟩ <;> exact ⟨_, _, hx⟩

/-- The list's node behind k items. -/
def RowAt (N : Nat) (w0 : World) (its : List Item) (k : Nat) (v : Value) (vs : List Value) (wr : World) : Prop :=
  wr.heap[N]? = some (.cells #[.int .i64 0, .int .i64 0, .pointer none, v] 37 (0, 0)) ∧ wr.ownsRow N 52 1 v k vs ∧ (∀ i, i < k → IsLeaf N wr.heap.size (vs.getD i .nilIface) (its.getD i default) wr) ∧ Below N w0 wr

/-- What an append to a list's row, and the store of the new row, leave. -/
theorem push_core {N k : Nat} {wr w3 w1 : World} {cs : Array Value} {v v' : Value} {vs ws : List Value} {q : Nat} (hN : wr.heap[N]? = some (.cells cs 37 (0, 0))) (ho : wr.ownsRow N 52 1 v k vs) (hb3 : Below wr.heap.size wr w3) (hg : w3.grownBy w1 v.ownBlock) (hown : w1.ownsRow N 52 1 v' q ws) :
    w1.heap[N]? = some (.cells cs 37 (0, 0)) ∧ w3.heap[N]? = some (.cells cs 37 (0, 0)) ∧ (w1.setCell ⟨N, 3, none⟩ v').heap[N]? = some (.cells (cs.setIfInBounds 3 v') 37 (0, 0)) ∧ Below N w3 (w1.setCell ⟨N, 3, none⟩ v') ∧ (w1.setCell ⟨N, 3, none⟩ v').ownsRow N 52 1 v' q ws ∧
      (∀ b, b < w3.heap.size → some b ≠ v.ownBlock → b ≠ N → (w1.setCell ⟨N, 3, none⟩ v').heap[b]? = w3.heap[b]?) ∧ (∀ g, v.ownBlock = some g → g < wr.heap.size ∧ ∃ c fz, w3.heap[g]? = some (.cells c 52 fz)) := by
  have hlt := lt_of_heap hN
  have hne : v.ownBlock ≠ some N := Lib.ownBlock_ne ho hN (by decide)
  have hN3 := (hb3.block N hlt).trans hN
  have hN1 : w1.heap[N]? = some (.cells cs 37 (0, 0)) := (hg.block N (Nat.lt_of_lt_of_le hlt hb3.size) (fun e => hne e.symm)).trans hN3
  refine ⟨hN1, hN3, ?_, ((Below.refl N w3).grown hg (Nat.le_trans (Nat.le_of_lt hlt) hb3.size) (fun g hg' => (ho.lt g hg').1)).setCell (p := ⟨N, 3, none⟩) (Nat.le_refl _) v', ?_, fun b hb hb1 hb2 => ?_, fun g hg' => ?_⟩
  · simp [World.setCell, Array.getElem?_modify, hN1]
  · exact hown.kept (row := some N) ⟨rfl, rfl, rfl, by simp [World.setCell], fun i _ hi => Below.heap_setCell _ _ _ _ (fun e => hi (by simp [e]))⟩ (Or.inr (Lib.ownBlock_ne hown hN1 (by decide)))
  · rw [Below.heap_setCell _ _ _ _ (by simpa using hb2)]
    exact hg.block b hb hb1
  · have hl := (ho.lt g hg').2
    refine ⟨hl, ?_⟩
    rcases ho.2 with ⟨rfl, _⟩ | ⟨g', cap, cur, rfl, _, hgg, _⟩
    · simp [Value.ownBlock] at hg'
    · simp [Value.ownBlock] at hg'
      subst hg'
      exact ⟨cur, (0, 0), (hb3.block g' hl).trans hgg⟩

theorem RowAt.step {N k : Nat} {w0 wr w3 w1 : World} {its : List Item} {v v' x : Value} {vs : List Value} (h : RowAt N w0 its k v vs wr) (hb3 : Below wr.heap.size wr w3) (hx : IsLeaf wr.heap.size w3.heap.size x (its.getD k default) w3)
    (hown : w1.ownsRow N 52 1 v' (k + 1) (vs ++ [x])) (hg : w3.grownBy w1 v.ownBlock) :
    w1.heap[N]? = some (.cells #[.int .i64 0, .int .i64 0, .pointer none, v] 37 (0, 0)) ∧ RowAt N w0 its (k + 1) v' (vs ++ [x]) (w1.setCell ⟨N, 3, none⟩ v') := by
  obtain ⟨hN, ho, hn, hb⟩ := h
  obtain ⟨hN1, hN3, hN', hbl, hown', hkeep, hrow⟩ := push_core hN ho hb3 hg hown
  have hlt := lt_of_heap hN
  have hl : vs.length = k := by have := ho.1; simpa using this
  have hk : ∀ b, b < w3.heap.size → (∀ cs fz, w3.heap[b]? ≠ some (.cells cs 52 fz)) → (∀ cs fz, w3.heap[b]? ≠ some (.cells cs 37 fz)) → (w1.setCell ⟨N, 3, none⟩ v').heap[b]? = w3.heap[b]? := fun b hb h52 h37 =>
    hkeep b hb (fun e => by obtain ⟨_, c, fz, e2⟩ := hrow b e.symm; exact h52 c fz e2) (fun e => by subst e; exact h37 _ _ hN3)
  refine ⟨hN1, hN', hown', fun i hi => ?_, (hb.trans (hb3.mono (Nat.le_of_lt hlt))).trans hbl⟩
  by_cases hik : i < k
  · rw [getD_snoc_lt (by omega)]
    have h3 : IsLeaf N w3.heap.size (vs.getD i .nilIface) (its.getD i default) w3 := ((hn i hik).kept (fun b _ h2 _ _ => hb3.block b h2)).mono hb3.size
    exact (h3.kept (fun b _ h2 h52 h37 => hk b h2 h52 h37)).mono hbl.size
  · obtain rfl : i = k := by omega
    rw [getD_snoc_eq (by omega)]
    exact ((hx.kept (fun b _ h2 h52 h37 => hk b h2 h52 h37)).mono hbl.size).low (Nat.le_of_lt hlt)

/-- x is the node of the list its; its blocks lie in [lo, hi). -/
def IsList (lo hi : Nat) (x : Value) (its : List Item) (w : World) : Prop :=
  ∃ N v vs, x = .iface 31 (.pointer (some ⟨N, 0, none⟩)) ∧ lo ≤ N ∧ N < hi ∧ w.heap[N]? = some (.cells #[.int .i64 0, .int .i64 0, .pointer none, v] 37 (0, 0)) ∧ w.ownsRow lo 52 1 v its.length vs ∧ (∀ g, v.ownBlock = some g → g < hi) ∧
    ∀ i, i < its.length → IsLeaf lo hi (vs.getD i .nilIface) (its.getD i default) w

theorem IsList.kept {lo hi : Nat} {x : Value} {its : List Item} {w w' : World} (h : IsList lo hi x its w) (hk : ∀ b, lo ≤ b → b < hi → w'.heap[b]? = w.heap[b]?) : IsList lo hi x its w' := by
  obtain ⟨N, v, vs, hx, h1, h2, h3, h4, h5, h6⟩ := h
  exact ⟨N, v, vs, hx, h1, h2, (hk N h1 h2).trans h3, own_heap h4 (Nat.le_refl _) (fun g hg => hk g (h4.lt g hg).1 (h5 g hg)), h5, fun i hi => (h6 i hi).kept (fun b a b' _ _ => hk b a b')⟩

theorem RowAt.list {N k : Nat} {w0 wr : World} {its : List Item} {v : Value} {vs : List Value} (h : RowAt N w0 its k v vs wr) (hk : k = its.length) : IsList N wr.heap.size (.iface 31 (.pointer (some ⟨N, 0, none⟩))) its wr := by
  obtain ⟨hN, ho, hn, hb⟩ := h
  subst hk
  exact ⟨N, v, vs, rfl, Nat.le_refl _, lt_of_heap hN, hN, ho, fun g hg => (ho.lt g hg).2, hn⟩

theorem row_says {N : Nat} {w : World} {base n : Nat} {v : Value} {vs : List Value} (fs : List Bool) (hl : fs.length = n) (hN : w.heap[N]? = some (.cells #[.int .i64 0, .int .i64 0, .pointer none, v] 37 (0, 0))) (ho : w.ownsRow base 52 1 v n vs)
    (hform : ∀ i, i < n → ∃ T p, vs.getD i .nilIface = .iface T p) (hs : ∀ i, i < n → Says (vs.getD i .nilIface) (fs.getD i false) w) : Says (.iface 31 (.pointer (some ⟨N, 0, none⟩))) (fs.all id) w := by
  obtain ⟨ao, cap, rfl, h1, h2, h3⟩ := own_at ho
  exact list_says (fun i => vs.getD i .nilIface) fs hl ((Lib.cell_of_heap hN 3).trans rfl) h1 h2 h3 hform hs

theorem IsList.says {lo hi : Nat} {x : Value} {its : List Item} {w : World} (h : IsList lo hi x its w) (hh : hi ≤ w.heap.size) (hT : Tabs w) : Says x (its.all leafEmpty) w := by
  obtain ⟨N, v, vs, rfl, h1, h2, h3, h4, h5, h6⟩ := h
  have e : its.all leafEmpty = (its.map leafEmpty).all id := by rw [List.all_map]; rfl
  rw [e]
  refine row_says (its.map leafEmpty) (by simp) h3 h4 (fun i hi => (h6 i hi).form) (fun i hi => ?_)
  have e2 : (its.map leafEmpty).getD i false = leafEmpty (its.getD i default) := by simp [List.getD_eq_getElem?_getD, hi]
  rw [e2]
  exact leaf_says (h6 i hi) hh hT

/-- The root behind k lists. -/
def OutAt (A : Nat) (w0 : World) (ll : List (List Item)) (k : Nat) (v : Value) (vs : List Value) (wr : World) : Prop :=
  wr.heap[A]? = some (.cells #[.int .i64 0, .int .i64 0, .pointer none, v] 37 (0, 0)) ∧ wr.ownsRow A 52 1 v k vs ∧
    (∀ i, i < k → ∃ lo hi, A < lo ∧ hi ≤ wr.heap.size ∧ IsList lo hi (vs.getD i .nilIface) (ll.getD i []) wr ∧ ∀ g, v.ownBlock = some g → g < lo ∨ hi ≤ g) ∧ Below A w0 wr

theorem OutAt.step {A k : Nat} {w0 wr w2 w3 w1 : World} {ll : List (List Item)} {v v' x : Value} {vs : List Value} (h : OutAt A w0 ll k v vs wr) (hb2 : Below wr.heap.size wr w2) (hx : IsList wr.heap.size w2.heap.size x (ll.getD k []) w2) (hb3 : Below w2.heap.size w2 w3)
    (hown : w1.ownsRow A 52 1 v' (k + 1) (vs ++ [x])) (hg : w3.grownBy w1 v.ownBlock) (hat : v'.ownBlock = v.ownBlock ∨ v'.ownBlock = some w3.heap.size) :
    w1.heap[A]? = some (.cells #[.int .i64 0, .int .i64 0, .pointer none, v] 37 (0, 0)) ∧ OutAt A w0 ll (k + 1) v' (vs ++ [x]) (w1.setCell ⟨A, 3, none⟩ v') := by
  obtain ⟨hA, ho, hn, hb⟩ := h
  have hb23 : Below wr.heap.size wr w3 := hb2.trans (hb3.mono hb2.size)
  obtain ⟨hA1, hA3, hA', hbl, hown', hkeep, hrow⟩ := push_core hA ho hb23 hg hown
  have hlt := lt_of_heap hA
  have hl : vs.length = k := by have := ho.1; simpa using this
  refine ⟨hA1, hA', hown', fun i hi => ?_, (hb.trans (hb23.mono (Nat.le_of_lt hlt))).trans hbl⟩
  by_cases hik : i < k
  · rw [getD_snoc_lt (by omega)]
    obtain ⟨lo, hi', q1, q2, q3, q4⟩ := hn i hik
    have hs3 := hb23.size
    refine ⟨lo, hi', q1, Nat.le_trans q2 (Nat.le_trans hs3 hbl.size), q3.kept (fun b h1 h2 => ?_), fun g hg' => ?_⟩
    · rw [hkeep b (by omega) (fun e => by rcases q4 b e.symm with h | h <;> omega) (by omega)]
      exact hb23.block b (by omega)
    · rcases hat with e | e
      · exact q4 g (by rw [← e]; exact hg')
      · rw [e] at hg'; have := Option.some.inj hg'; omega
  · obtain rfl : i = k := by omega
    rw [getD_snoc_eq (by omega)]
    have hs3 := hb3.size
    refine ⟨wr.heap.size, w2.heap.size, hlt, Nat.le_trans hs3 hbl.size, hx.kept (fun b h1 h2 => ?_), fun g hg' => ?_⟩
    · rw [hkeep b (by omega) (fun e => by have := (hrow b e.symm).1; omega) (by omega)]
      exact hb3.block b h2
    · rcases hat with e | e
      · exact .inl (hrow g (by rw [← e]; exact hg')).1
      · rw [e] at hg'; have := Option.some.inj hg'; omega

/-- What EmptyLists answers. -/
def emptyLists (ll : List (List Item)) : Bool := ll.all fun l => l.all leafEmpty

theorem OutAt.says {A k : Nat} {w0 wr : World} {ll : List (List Item)} {v : Value} {vs : List Value} (h : OutAt A w0 ll k v vs wr) (hk : k = ll.length) (hT : Tabs wr) : Says (.iface 31 (.pointer (some ⟨A, 0, none⟩))) (emptyLists ll) wr := by
  obtain ⟨hA, ho, hn, hb⟩ := h
  subst hk
  have e : emptyLists ll = (ll.map fun l => l.all leafEmpty).all id := by unfold emptyLists; rw [List.all_map]; rfl
  rw [e]
  refine row_says _ (by simp) hA ho (fun i hi => ?_) (fun i hi => ?_)
  · obtain ⟨lo, hi', q1, q2, ⟨N, v', vs', hx, _⟩, q4⟩ := hn i hi
    exact ⟨_, _, hx⟩
  · have e2 : (ll.map fun l => l.all leafEmpty).getD i false = (ll.getD i []).all leafEmpty := by simp [List.getD_eq_getElem?_getD, hi]
    rw [e2]
    obtain ⟨lo, hi', q1, q2, q3, q4⟩ := hn i hi
    exact q3.says q2 hT

end Go.Proofs.YteikiecbjjmkoaaDoor
