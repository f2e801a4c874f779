/- Items, lists of items, lists of lists: how they lie in memory; the size checks. -/
import Derived.Test.YteikiecbjjmkoaaDoorProg
import Derived.WalkKit
import Derived.Lib.OthersKept
import Derived.Lib.Hide
namespace Go.Proofs.YteikiecbjjmkoaaDoor
open Go.RowKit Go.Proofs

/-- An item: its kind and its text. -/
structure Item where
  kind : ByteArray
  text : ByteArray
instance : Inhabited Item := ⟨⟨.empty, .empty⟩⟩

def small (x : Item) : Prop := x.kind.size ≤ 2147483647 ∧ x.text.size ≤ 2147483647
instance (x : Item) : Decidable (small x) := by unfold small; exact inferInstance
def smalls (l : List Item) : Prop := l.length ≤ 2147483647 ∧ ∀ i, i < l.length → small (l.getD i default)
def smallss (l : List (List Item)) : Prop := l.length ≤ 2147483647 ∧ ∀ i, i < l.length → smalls (l.getD i [])

/-- The value v reads as the items l; all cells lie below block B. -/
def Items (B : Nat) (l : List Item) (v : Value) (w : World) : Prop :=
  ∃ ao cap, v = .slice ao l.length cap ∧ l.length ≤ cap ∧ cap ≤ maxLen ∧ ∀ i, i < l.length → ∃ b off, ao = some ⟨b, off, none⟩ ∧ b < B ∧ w.cell? ⟨b, off + i * 2, none⟩ = some (.string (l.getD i default).kind) ∧ w.cell? ⟨b, off + i * 2 + 1, none⟩ = some (.string (l.getD i default).text)

theorem Items.below {B : Nat} {l : List Item} {v : Value} {w w' : World} (h : Items B l v w) (hb : Below B w w') : Items B l v w' := by
  obtain ⟨ao, cap, hv, h1, h2, h3⟩ := h
  refine ⟨ao, cap, hv, h1, h2, fun i hi => ?_⟩
  obtain ⟨b, off, hao, hbB, c0, c1⟩ := h3 i hi
  exact ⟨b, off, hao, hbB, (hb.cell (p := ⟨b, _, none⟩) hbB).trans c0, (hb.cell (p := ⟨b, _, none⟩) hbB).trans c1⟩

theorem Items.mono {B B' : Nat} {l : List Item} {v : Value} {w : World} (h : Items B l v w) (hB : B ≤ B') : Items B' l v w := by
  obtain ⟨ao, cap, hv, h1, h2, h3⟩ := h
  refine ⟨ao, cap, hv, h1, h2, fun i hi => ?_⟩
  obtain ⟨b, off, hao, hbB, c⟩ := h3 i hi
  exact ⟨b, off, hao, by omega, c⟩

/-- The value v reads as the lists ll. -/
def Lists (B : Nat) (ll : List (List Item)) (v : Value) (w : World) : Prop :=
  ∃ ao cap, v = .slice ao ll.length cap ∧ ll.length ≤ cap ∧ cap ≤ maxLen ∧ ∀ i, i < ll.length → ∃ b off x, ao = some ⟨b, off, none⟩ ∧ b < B ∧ w.cell? ⟨b, off + i, none⟩ = some x ∧ Items B (ll.getD i []) x w

theorem Lists.below {B : Nat} {ll : List (List Item)} {v : Value} {w w' : World} (h : Lists B ll v w) (hb : Below B w w') : Lists B ll v w' := by
  obtain ⟨ao, cap, hv, h1, h2, h3⟩ := h
  refine ⟨ao, cap, hv, h1, h2, fun i hi => ?_⟩
  obtain ⟨b, off, x, hao, hbB, c, hs⟩ := h3 i hi
  exact ⟨b, off, x, hao, hbB, (hb.cell (p := ⟨b, _, none⟩) hbB).trans c, hs.below hb⟩

theorem Lists.mono {B B' : Nat} {ll : List (List Item)} {v : Value} {w : World} (h : Lists B ll v w) (hB : B ≤ B') : Lists B' ll v w := by
  obtain ⟨ao, cap, hv, h1, h2, h3⟩ := h
  refine ⟨ao, cap, hv, h1, h2, fun i hi => ?_⟩
  obtain ⟨b, off, x, hao, hbB, c, hs⟩ := h3 i hi
  exact ⟨b, off, x, hao, by omega, c, hs.mono hB⟩

theorem Lists.nil (B : Nat) (w : World) : Lists B [] (.slice none 0 0) w := ⟨none, 0, rfl, Nat.le_refl _, by unfold maxLen; omega, fun i hi => absurd hi (Nat.not_lt_zero _)⟩

/-- zzFits11. -/
theorem fits11 (k t : ByteArray) (w : World) : Calls Tryd.prog 10 #[.agg #[.string k, .string t]] w fun e w' => e = .returned (.bool (decide (small ⟨k, t⟩))) ∧ Below w.heap.size w w' := by
  have Hb : Hid (Below w.heap.size w (w.alloc (.cells #[.string k, .string t] 27))) := (Below.refl _ _).alloc (Nat.le_refl _) _
  by_cases h1 : (2147483647 : Int) < (k.size : Int)
  · have E : Hid (decide (small ⟨k, t⟩) = false) := decide_eq_false (fun h => by unfold small at h; simp only at h; omega)
    rw [E.out]
    go_enter Tryd.func10, Tryd.ntmps10
    go_wp2
    go_ret
    exact ⟨rfl, Hb.out⟩
  · by_cases h2 : (2147483647 : Int) < (t.size : Int)
    · have E : Hid (decide (small ⟨k, t⟩) = false) := decide_eq_false (fun h => by unfold small at h; simp only at h; omega)
      rw [E.out]
      go_enter Tryd.func10, Tryd.ntmps10
      go_wp2
      go_ret
      exact ⟨rfl, Hb.out⟩
    · have E : Hid (decide (small ⟨k, t⟩) = true) := decide_eq_true (by unfold small; simp only; omega)
      rw [E.out]
      go_enter Tryd.func10, Tryd.ntmps10
      go_wp2
      go_ret
      exact ⟨rfl, Hb.out⟩

set_option maxRecDepth 100000 in
set_option maxHeartbeats 1000000 in
/-- zzFits10. -/
theorem fits10 (B : Nat) (l : List Item) (v : Value) (w : World) (h : Items B l v w) (hB : B ≤ w.heap.size) :
    Calls Tryd.prog 8 #[v] w fun e w' => ∃ r, e = .returned (.bool r) ∧ (r = true → smalls l) ∧ Below w.heap.size w w' := by
  have Hp := Lib.hid h
  obtain ⟨ao, cap, rfl, h1, h2, h3⟩ := h
  clear h3
  unfold maxLen at h2
  obtain ⟨n, hn'⟩ : ∃ n, n = l.length := ⟨_, rfl⟩
  rw [← hn'] at h1
  rw [← hn']
  have Hn := Lib.hid hn'
  clear hn'
  by_cases hbig : (2147483647 : Int) < (n : Int)
  · go_enter Tryd.func8, Tryd.ntmps8
    go_wp2
    go_ret
    exact ⟨_, rfl, (fun h => by cases h), Below.refl _ _⟩
  have hn : n ≤ 2147483647 := by omega
  go_enter Tryd.func8, Tryd.ntmps8
  go_wp2
  go_loopw [10] (fun i wr => ∃ k : Nat, k ≤ n ∧ i = .int .i64 k ∧ Hid (Below w.heap.size w wr ∧ ∀ j, j < k → small (l.getD j default))) (fun i _ => n - (intOf i).toNat)
  case atStart => exact ⟨0, Nat.zero_le _, rfl, Below.refl _ _, fun j hj => absurd hj (Nat.not_lt_zero _)⟩
  case round =>
    obtain ⟨k, hk, rfl, hW⟩ := hrel
    by_cases hlt : k < n
    · have hlt' : k < l.length := by rw [← Hn.out]; exact hlt
      obtain ⟨_, _, hv, _, _, h3⟩ := Hp.out.below (hW.out.1.mono hB)
      obtain ⟨b, off, hao, hbB, c0, c1⟩ := h3 k hlt'
      obtain rfl : ao = some ⟨b, off, none⟩ := by injection hv with e1 _ _; rw [e1, hao]
      have hs : small ⟨(l.getD k default).kind, (l.getD k default).text⟩ = small (l.getD k default) := rfl
      have Hs := Lib.hid hs
      clear hv h3 hao hs
      generalize (l.getD k default).kind = kd at *
      generalize (l.getD k default).text = tx at *
      have hb0 : Below wr.heap.size wr (wr.alloc (.cells #[.string kd, .string tx] 27)) := (Below.refl _ _).alloc (Nat.le_refl _) _
      have f1 := fits11 kd tx (wr.alloc (.cells #[.string kd, .string tx] 27))
      have HW2 := Lib.hid (hW.out.1.trans (hb0.mono hW.out.1.size))
      cases hd : decide (small ⟨kd, tx⟩)
      · rw [hd] at f1
        clear hb0
        go_wp2_with fail
        refine f1.mono ?_
        rintro e w2 ⟨rfl, q1⟩
        have HW3 := Lib.hid (HW2.out.trans (q1.mono HW2.out.size))
        clear q1 f1 HW2 hW
        go_wp2
        go_ret
        exact ⟨_, rfl, (fun h => by cases h), HW3.out⟩
      · rw [hd] at f1
        have HS : Hid (∀ j, j < k + 1 → small (l.getD j default)) := fun j hj => by
          by_cases e : j = k
          · subst e; rw [← Hs.out]; exact of_decide_eq_true hd
          · exact hW.out.2 j (by omega)
        clear hb0
        go_wp2_with fail
        refine f1.mono ?_
        rintro e w2 ⟨rfl, q1⟩
        have HW3 := Lib.hid (HW2.out.trans (q1.mono HW2.out.size))
        clear q1 f1 HW2 hW
        go_wp2
        go_roundw
        case rel => exact ⟨k + 1, by omega, by go_num, HW3.out, HS.out⟩
        case measure => simp [intOf]; omega
    · have hE : Hid (smalls l) := ⟨by rw [← Hn.out]; exact hn, fun i hi => hW.out.2 i (by rw [← Hn.out] at hi; omega)⟩
      go_wp2
      go_ret
      exact ⟨_, rfl, fun _ => hE.out, hW.out.1⟩

set_option maxRecDepth 100000 in
set_option maxHeartbeats 1000000 in
/-- zzFits9. -/
theorem fits9 (B : Nat) (ll : List (List Item)) (v : Value) (w : World) (h : Lists B ll v w) (hB : B ≤ w.heap.size) :
    Calls Tryd.prog 5 #[v] w fun e w' => ∃ r, e = .returned (.bool r) ∧ (r = true → smallss ll) ∧ Below w.heap.size w w' := by
  have Hp := Lib.hid h
  obtain ⟨ao, cap, rfl, h1, h2, h3⟩ := h
  clear h3
  unfold maxLen at h2
  obtain ⟨n, hn'⟩ : ∃ n, n = ll.length := ⟨_, rfl⟩
  rw [← hn'] at h1
  rw [← hn']
  have Hn := Lib.hid hn'
  clear hn'
  by_cases hbig : (2147483647 : Int) < (n : Int)
  · go_enter Tryd.func5, Tryd.ntmps5
    go_wp2
    go_ret
    exact ⟨_, rfl, (fun h => by cases h), Below.refl _ _⟩
  have hn : n ≤ 2147483647 := by omega
  go_enter Tryd.func5, Tryd.ntmps5
  go_wp2
  go_loopw [10] (fun i wr => ∃ k : Nat, k ≤ n ∧ i = .int .i64 k ∧ Hid (Below w.heap.size w wr ∧ ∀ j, j < k → smalls (ll.getD j []))) (fun i _ => n - (intOf i).toNat)
  case atStart => exact ⟨0, Nat.zero_le _, rfl, Below.refl _ _, fun j hj => absurd hj (Nat.not_lt_zero _)⟩
  case round =>
    obtain ⟨k, hk, rfl, hW⟩ := hrel
    by_cases hlt : k < n
    · have hlt' : k < ll.length := by rw [← Hn.out]; exact hlt
      obtain ⟨_, _, hv, _, _, h3⟩ := Hp.out.below (hW.out.1.mono hB)
      obtain ⟨b, off, x, hao, hbB, hc, hx⟩ := h3 k hlt'
      obtain rfl : ao = some ⟨b, off, none⟩ := by injection hv with e1 _ _; rw [e1, hao]
      have hBr : B ≤ wr.heap.size := Nat.le_trans hB hW.out.1.size
      have f1 := fits10 B (ll.getD k []) x wr hx hBr
      obtain ⟨ao2, cap2, rfl, -⟩ := hx
      clear hv h3 hao
      generalize hl : (ll.getD k []).length = nl at *
      clear hl
      go_wp2_with fail
      refine f1.mono ?_
      rintro e w2 ⟨r, rfl, hr, q1⟩
      have HW3 := Lib.hid (hW.out.1.trans (q1.mono hW.out.1.size))
      have HR := Lib.hid hr
      clear q1 f1 hr
      cases r
      · go_wp2
        go_ret
        exact ⟨_, rfl, (fun h => by cases h), HW3.out⟩
      · have HS : Hid (∀ j, j < k + 1 → smalls (ll.getD j [])) := fun j hj => by
          by_cases e : j = k
          · subst e; exact HR.out rfl
          · exact hW.out.2 j (by omega)
        clear hW
        go_wp2
        go_roundw
        case rel => exact ⟨k + 1, by omega, by go_num, HW3.out, HS.out⟩
        case measure => simp [intOf]; omega
    · have hE : Hid (smallss ll) := ⟨by rw [← Hn.out]; exact hn, fun i hi => hW.out.2 i (by rw [← Hn.out] at hi; omega)⟩
      go_wp2
      go_ret
      exact ⟨_, rfl, fun _ => hE.out, hW.out.1⟩

end Go.Proofs.YteikiecbjjmkoaaDoor
