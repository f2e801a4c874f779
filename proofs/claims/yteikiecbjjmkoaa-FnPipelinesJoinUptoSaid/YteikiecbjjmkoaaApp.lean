/- append of a list that came in, nil or not, onto a row of the call's own. -/
import Derived.Test.YteikiecbjjmkoaaMem
import Derived.Laws.AppendOwnNone
import Derived.BigFrame
namespace Go.Proofs.Yteikiecbjjmkoaa
open Go.RowKit Go.Proofs

/-- The slice value xv reads as m elements, the cells news. -/
def Src (xv : Value) (m : Nat) (news : List Value) (size : Nat) (w : World) : Prop :=
  (xv = .slice none 0 0 ∧ m = 0 ∧ news = []) ∨ ∃ ad c, xv = .slice (some ad) m c ∧ news.length = m * size ∧ ∀ j u, news[j]? = some u → w.cell? (ad.add j) = some u

/-- A slice value that is nil as a whole, or has an address. -/
def Clean (v : Value) : Prop := v = .slice none 0 0 ∨ ∃ a n c, v = .slice (some a) n c

theorem Strs.src {B : Nat} {ss : List ByteArray} {v : Value} {w : World} (h : Strs B ss v w) (hc : Clean v) : Src v ss.length (ss.map Value.string) 1 w := by
  obtain ⟨ao, cap, rfl, h1, h2, h3⟩ := h
  rcases hc with e | ⟨a, n, c, e⟩
  · injection e with e1 e2 e3
    subst e1 e3
    have hs : ss = [] := List.eq_nil_of_length_eq_zero e2
    subst hs
    exact .inl ⟨rfl, rfl, rfl⟩
  · injection e with e1 e2 e3
    subst e1
    refine .inr ⟨a, cap, rfl, by simp, fun j u hj => ?_⟩
    have hjl : j < ss.length := by have := (List.getElem?_eq_some_iff.1 hj).1; simpa using this
    obtain ⟨b, off, hao, _, hcell⟩ := h3 j hjl
    injection hao with hao
    subst hao
    rw [Addr.add_lit, hcell]
    simp only [List.getElem?_map, List.getElem?_eq_getElem hjl, Option.map_some, Option.some.injEq] at hj
    rw [← hj, List.getD_eq_getElem?_getD, List.getElem?_eq_getElem hjl]; rfl

/-- What a row of strings of the call's own reads as. -/
theorem strs_of_own {w : World} {base : Nat} {v : Value} {ss : List ByteArray} (h : w.ownsRow base 9 1 v ss.length (ss.map Value.string)) : Strs w.heap.size ss v w ∧ Clean v := by
  rcases h.2 with ⟨rfl, h0⟩ | ⟨g, cap, cur, rfl, _, hgg, hle, hcap, hcs, htake⟩
  · have hs : ss = [] := List.eq_nil_of_length_eq_zero h0
    subst hs
    exact ⟨⟨none, 0, rfl, Nat.le_refl _, by unfold maxLen; omega, fun i hi => absurd hi (Nat.not_lt_zero _)⟩, .inl rfl⟩
  · refine ⟨⟨some ⟨g, 0, none⟩, cap, rfl, hle, hcap, fun i hi => ⟨g, 0, rfl, ?_, ?_⟩⟩, .inr ⟨_, _, _, rfl⟩⟩
    · rcases Nat.lt_or_ge g w.heap.size with h' | h'
      · exact h'
      · simp [Array.getElem?_eq_none h'] at hgg
    · rw [Nat.zero_add, Lib.cell_of_heap hgg]
      have e1 : (cur.toList.take (ss.length * 1))[i]? = some (.string (ss.getD i .empty)) := by
        rw [htake, List.getElem?_map, List.getElem?_eq_getElem hi, List.getD_eq_getElem?_getD, List.getElem?_eq_getElem hi]; rfl
      rw [List.getElem?_take_of_lt (by omega)] at e1
      simpa using e1

theorem wpList_append_src {P : Program} {w : World} {ops : Array Oper} {rest : List Oper} {o : Oper} {a : Act} {Q : Exit → Act → World → Prop} (hw : Region.wanted o (yielded ops a.tmps) = true) (s x : Operand) (t : TypeId)
    (ho : o.op = .call { callee := .builtin .append, args := #[s, x], argTypes := #[t, t] })
    (base : Nat) (e : TypeId) (i : TypeInfo) (z : Value) (size bytes : Nat) (ht : P.underlying t = some (.slice e)) (hi : P.info? e = some i) (hz : i.zero = some z)
    (hsize : i.size = size) (hby : i.bytes = bytes) (hzs : z.cells.size = size) (hsz : 0 < size)
    (v : Value) (n : Nat) (xs : List Value) (hs : a.eval s = v) (hown : w.ownsRow base e size v n xs)
    (xv : Value) (m : Nat) (news : List Value) (hx : a.eval x = xv) (hsrc : Src xv m news size w) (h1 : ∀ u ∈ news, u.oneCell' = true)
    (h63 : n + m ≤ maxLen) (hbytes : (n + m) * bytes ≤ 140737488355328) (hbase : base ≤ w.heap.size)
    (h : ∀ v' w', w'.ownsRow base e size v' (n + m) (xs ++ news) → w.grownBy w' v.ownBlock → wpList P ops Q rest (a.put o.dst v') w') : wpList P ops Q (o :: rest) a w := by
  refine BigFrame.wpList_want hw fun K hK => ?_
  rcases hsrc with ⟨rfl, rfl, rfl⟩ | ⟨ad, c, rfl, hl, hnews⟩
  · have hrun := run_append_owned_none (P := P) (w := w) base t o.type e i size ht hi v n xs hown
    have h' := hK _ _ (h v w (by simpa using hown) ⟨rfl, rfl, rfl, Nat.le_refl _, fun _ _ _ => rfl⟩)
    unfold Oper.wp
    simp [execOp, ho, resolve, invoke, builtin, hs, hx, hrun, Result.andThen]
    exact h'
  · exact wp_append_own w s x t ho base e i z size bytes ht hi hz hsize hby hzs hsz v n xs hs hown ad m c news hx hl hnews h1 h63 hbytes hbase fun v' w' h2 h3 _ => hK _ _ (h v' w' h2 h3)

end Go.Proofs.Yteikiecbjjmkoaa
