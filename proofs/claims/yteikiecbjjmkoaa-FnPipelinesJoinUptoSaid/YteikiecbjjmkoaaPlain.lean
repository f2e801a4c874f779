/- Plain lists: what operands, chains, commands and pipelines print, with no program in sight. -/
import Derived.Lib.Strings
namespace Go.Proofs.Yteikiecbjjmkoaa
open Go

/-- Names with a dot ahead of each. -/
def dotted : List ByteArray → List UInt8
  | [] => []
  | s :: r => 46 :: (s.data.toList ++ dotted r)

/-- The first name, then the others with a dot ahead of each. -/
def varText : List ByteArray → List UInt8
  | [] => []
  | s :: r => s.data.toList ++ dotted r

/-- Texts one behind the other. -/
def joined : List ByteArray → List UInt8
  | [] => []
  | s :: r => s.data.toList ++ joined r

theorem mk_append (l : List UInt8) (s : ByteArray) : (⟨l.toArray⟩ ++ s : ByteArray) = ⟨(l ++ s.data.toList).toArray⟩ := by
  apply ByteArray.ext
  rw [ByteArray.data_append]
  simp

theorem append_mk (s : ByteArray) (l : List UInt8) : (s ++ ⟨l.toArray⟩ : ByteArray) = ⟨(s.data.toList ++ l).toArray⟩ := by
  apply ByteArray.ext
  rw [ByteArray.data_append]
  simp

/-- Texts with a separator between. -/
def sepBy (sep : List UInt8) : List (List UInt8) → List UInt8
  | [] => []
  | t :: r => t ++ (r.map fun x => sep ++ x).flatten

theorem dotted_append (a b : List ByteArray) : dotted (a ++ b) = dotted a ++ dotted b := by
  induction a with
  | nil => rfl
  | cons s r ih => simp [dotted, ih]

theorem length_le_dotted (r : List ByteArray) : r.length ≤ (dotted r).length := by
  induction r with
  | nil => simp
  | cons x r ih => simp [dotted]; omega

theorem dotted_length (r : List ByteArray) : (dotted r).length = (joined r).length + r.length := by
  induction r with
  | nil => rfl
  | cons x r ih => simp [dotted, joined, ih]; omega

theorem joined_append (a b : List ByteArray) : joined (a ++ b) = joined a ++ joined b := by
  induction a with
  | nil => rfl
  | cons s r ih => simp [joined, ih]

theorem take_succ_getD {α : Type} (l : List α) (d : α) (k : Nat) (h : k < l.length) : l.take (k + 1) = l.take k ++ [l.getD k d] := by
  rw [List.take_succ_eq_append_getElem h, List.getD_eq_getElem?_getD, List.getElem?_eq_getElem h]; rfl

theorem split_getD {α : Type} (l : List α) (d : α) (k : Nat) (h : k < l.length) : l = l.take k ++ (l.getD k d :: l.drop (k + 1)) := by
  rw [List.getD_eq_getElem?_getD, List.getElem?_eq_getElem h]
  exact (List.take_append_drop k l).symm.trans (by rw [List.drop_eq_getElem_cons h]; rfl)

theorem dotted_take (ss : List ByteArray) (k : Nat) (h : k < ss.length) : dotted (ss.take (k + 1)) = dotted (ss.take k) ++ 46 :: (ss.getD k .empty).data.toList := by
  rw [take_succ_getD ss .empty k h, dotted_append]; simp [dotted]

theorem joined_take (ss : List ByteArray) (k : Nat) (h : k < ss.length) : joined (ss.take (k + 1)) = joined (ss.take k) ++ (ss.getD k .empty).data.toList := by
  rw [take_succ_getD ss .empty k h, joined_append]; simp [joined]

theorem dotted_len (ss : List ByteArray) (k : Nat) (h : k < ss.length) : (dotted (ss.take k)).length + (ss.getD k .empty).data.toList.length + 1 ≤ (dotted ss).length := by
  conv => rhs; rw [split_getD ss .empty k h, dotted_append]
  simp [dotted]; omega

theorem joined_len (ss : List ByteArray) (k : Nat) (h : k < ss.length) : (joined (ss.take k)).length + (ss.getD k .empty).data.toList.length ≤ (joined ss).length := by
  conv => rhs; rw [split_getD ss .empty k h, joined_append]
  simp [joined]

theorem varText_take_one (ss : List ByteArray) (h : 0 < ss.length) : varText (ss.take 1) = (ss.getD 0 .empty).data.toList := by
  cases ss with
  | nil => simp at h
  | cons s r => simp [varText, dotted]

theorem varText_take (ss : List ByteArray) (k : Nat) (h0 : 0 < k) (h : k < ss.length) : varText (ss.take (k + 1)) = varText (ss.take k) ++ 46 :: (ss.getD k .empty).data.toList := by
  cases ss with
  | nil => simp at h
  | cons s r =>
    obtain ⟨j, rfl⟩ : ∃ j, k = j + 1 := ⟨k - 1, by omega⟩
    have h' : j < r.length := by simpa using h
    have e := dotted_take r j h'
    simp only [List.take_succ_cons, varText, e, List.append_assoc]
    simp

theorem varText_len (ss : List ByteArray) (k : Nat) (h : k < ss.length) : (varText (ss.take k)).length + (if k = 0 then 0 else 1) + (ss.getD k .empty).data.toList.length ≤ (varText ss).length := by
  cases ss with
  | nil => simp at h
  | cons s r =>
    cases k with
    | zero => simp [varText]
    | succ j =>
      have h' : j < r.length := by simpa using h
      have e := dotted_len r j h'
      simp [varText] at e ⊢
      omega

theorem sepBy_snoc (sep : List UInt8) (a : List (List UInt8)) (t : List UInt8) (h : a ≠ []) : sepBy sep (a ++ [t]) = sepBy sep a ++ (sep ++ t) := by
  cases a with
  | nil => exact absurd rfl h
  | cons x r => simp [sepBy]

theorem sepBy_append (sep : List UInt8) (a b : List (List UInt8)) (ha : a ≠ []) (hb : b ≠ []) : sepBy sep (a ++ b) = sepBy sep a ++ (sep ++ sepBy sep b) := by
  cases a with
  | nil => exact absurd rfl ha
  | cons x r => cases b with
    | nil => exact absurd rfl hb
    | cons y s => simp [sepBy]

theorem sepBy_take_one (sep : List UInt8) (ts : List (List UInt8)) (h : 0 < ts.length) : sepBy sep (ts.take 1) = ts.getD 0 [] := by
  cases ts with
  | nil => simp at h
  | cons s r => simp [sepBy]

theorem sepBy_take (sep : List UInt8) (ts : List (List UInt8)) (k : Nat) (h0 : 0 < k) (h : k < ts.length) : sepBy sep (ts.take (k + 1)) = sepBy sep (ts.take k) ++ (sep ++ ts.getD k []) := by
  rw [take_succ_getD ts [] k h, sepBy_snoc]
  intro e
  have := congrArg List.length e
  rw [List.length_take] at this
  simp at this
  rcases this with h1 | h1
  · omega
  · subst h1; simp at h

theorem sepBy_len (sep : List UInt8) (ts : List (List UInt8)) (k : Nat) (h : k < ts.length) : (sepBy sep (ts.take k)).length + (if k = 0 then 0 else sep.length) + (ts.getD k []).length ≤ (sepBy sep ts).length := by
  by_cases h0 : k = 0
  · subst h0
    cases ts with
    | nil => simp at h
    | cons s r => simp [sepBy]
  · have e1 := sepBy_take sep ts k (by omega) h
    have e2 : sepBy sep ts = sepBy sep (ts.take (k + 1)) ++ ((ts.drop (k + 1)).map fun x => sep ++ x).flatten := by
      conv => lhs; rw [← List.take_append_drop (k + 1) ts]
      cases ts with
      | nil => simp at h
      | cons s r =>
        simp only [List.take_succ_cons, List.drop_succ_cons, List.cons_append, sepBy, List.map_append, List.flatten_append, List.append_assoc]
    rw [e2, e1]
    simp [h0]
    omega

/-- An operand as data. -/
structure Part where
  kind : ByteArray
  names : List ByteArray
  text : ByteArray
  tr : Bool

def boolText (x : Bool) : List UInt8 := if x then [116, 114, 117, 101] else [102, 97, 108, 115, 101]

/-- What an operand prints. -/
def partText (p : Part) : List UInt8 :=
  if p.kind = ⟨#[102, 105, 101, 108, 100]⟩ then dotted p.names
  else if p.kind = ⟨#[118, 97, 114, 105, 97, 98, 108, 101]⟩ then varText p.names
  else if p.kind = ⟨#[98, 111, 111, 108]⟩ then boolText p.tr
  else if p.kind = ⟨#[115, 116, 114, 105, 110, 103]⟩ then p.text.data.toList
  else if p.kind = ⟨#[110, 117, 109, 98, 101, 114]⟩ then p.text.data.toList
  else if p.kind = ⟨#[105, 100, 101, 110, 116]⟩ then p.text.data.toList
  else if p.kind = ⟨#[110, 105, 108]⟩ then [110, 105, 108]
  else [46]

theorem eq_of_toList {k : ByteArray} {l : List UInt8} (h : (k.toList == l) = true) : k = ⟨l.toArray⟩ := by
  have h1 : k.data.toList = l := by rw [← Lib.toList_data]; simpa using h
  subst h1
  cases k
  simp

theorem toList_ne {k : ByteArray} {l : List UInt8} (h : (k.toList == l) = false) : ¬ k = ⟨l.toArray⟩ := by
  intro e
  subst e
  rw [Lib.toList_data] at h
  simp at h

/-- The nine ways of an operand's kind. -/
theorem kind_cases (k : ByteArray) :
    k = ⟨#[102, 105, 101, 108, 100]⟩ ∨ k = ⟨#[118, 97, 114, 105, 97, 98, 108, 101]⟩ ∨ k = ⟨#[98, 111, 111, 108]⟩ ∨ k = ⟨#[115, 116, 114, 105, 110, 103]⟩ ∨ k = ⟨#[110, 117, 109, 98, 101, 114]⟩ ∨ k = ⟨#[105, 100, 101, 110, 116]⟩ ∨ k = ⟨#[110, 105, 108]⟩ ∨
      ((k.toList == [102, 105, 101, 108, 100]) = false ∧ (k.toList == [118, 97, 114, 105, 97, 98, 108, 101]) = false ∧ (k.toList == [98, 111, 111, 108]) = false ∧ (k.toList == [115, 116, 114, 105, 110, 103]) = false ∧ (k.toList == [110, 117, 109, 98, 101, 114]) = false ∧ (k.toList == [105, 100, 101, 110, 116]) = false ∧ (k.toList == [110, 105, 108]) = false) := by
  rcases Bool.eq_false_or_eq_true (k.toList == [102, 105, 101, 108, 100]) with h1 | h1
  · exact .inl (eq_of_toList h1)
  rcases Bool.eq_false_or_eq_true (k.toList == [118, 97, 114, 105, 97, 98, 108, 101]) with h2 | h2
  · exact .inr (.inl (eq_of_toList h2))
  rcases Bool.eq_false_or_eq_true (k.toList == [98, 111, 111, 108]) with h3 | h3
  · exact .inr (.inr (.inl (eq_of_toList h3)))
  rcases Bool.eq_false_or_eq_true (k.toList == [115, 116, 114, 105, 110, 103]) with h4 | h4
  · exact .inr (.inr (.inr (.inl (eq_of_toList h4))))
  rcases Bool.eq_false_or_eq_true (k.toList == [110, 117, 109, 98, 101, 114]) with h5 | h5
  · exact .inr (.inr (.inr (.inr (.inl (eq_of_toList h5)))))
  rcases Bool.eq_false_or_eq_true (k.toList == [105, 100, 101, 110, 116]) with h6 | h6
  · exact .inr (.inr (.inr (.inr (.inr (.inl (eq_of_toList h6))))))
  rcases Bool.eq_false_or_eq_true (k.toList == [110, 105, 108]) with h7 | h7
  · exact .inr (.inr (.inr (.inr (.inr (.inr (.inl (eq_of_toList h7)))))))
  exact .inr (.inr (.inr (.inr (.inr (.inr (.inr ⟨h1, h2, h3, h4, h5, h6, h7⟩))))))

theorem partText_other (p : Part) (h : (p.kind.toList == [102, 105, 101, 108, 100]) = false ∧ (p.kind.toList == [118, 97, 114, 105, 97, 98, 108, 101]) = false ∧ (p.kind.toList == [98, 111, 111, 108]) = false ∧ (p.kind.toList == [115, 116, 114, 105, 110, 103]) = false ∧ (p.kind.toList == [110, 117, 109, 98, 101, 114]) = false ∧ (p.kind.toList == [105, 100, 101, 110, 116]) = false ∧ (p.kind.toList == [110, 105, 108]) = false) : partText p = [46] := by
  obtain ⟨h1, h2, h3, h4, h5, h6, h7⟩ := h
  unfold partText
  rw [if_neg (toList_ne h1), if_neg (toList_ne h2), if_neg (toList_ne h3), if_neg (toList_ne h4), if_neg (toList_ne h5), if_neg (toList_ne h6), if_neg (toList_ne h7)]

/-- A command prints as its operands, a space between. -/
def commandText (ps : List Part) : List UInt8 := sepBy [32] (ps.map partText)

/-- The variables of a pipeline, and what stands behind them. -/
def declText (decl : List ByteArray) (assign : Bool) : List UInt8 :=
  if decl = [] then [] else sepBy [44, 32] (decl.map fun s => s.data.toList) ++ (if assign then [32, 61, 32] else [32, 58, 61, 32])

def pipelineText (decl : List ByteArray) (assign : Bool) (cmds : List (List Part)) : List UInt8 :=
  declText decl assign ++ sepBy [32, 124, 32] (cmds.map commandText)

end Go.Proofs.Yteikiecbjjmkoaa
