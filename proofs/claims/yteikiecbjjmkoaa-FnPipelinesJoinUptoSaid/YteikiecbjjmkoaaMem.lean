/- What arguments and nodes read as in a world: lists of strings; the size check of a list of strings. -/
import Derived.Test.YteikiecbjjmkoaaProg
import Derived.WalkKit
import Derived.Lib.OthersKept
import Derived.Lib.Hide
namespace Go.Proofs.Yteikiecbjjmkoaa
open Go.RowKit Go.Proofs

/-- The value v reads as the strings ss in w; the cells lie below block B. -/
def Strs (B : Nat) (ss : List ByteArray) (v : Value) (w : World) : Prop :=
  ∃ ao cap, v = .slice ao ss.length cap ∧ ss.length ≤ cap ∧ cap ≤ maxLen ∧ ∀ i, i < ss.length → ∃ b off, ao = some ⟨b, off, none⟩ ∧ b < B ∧ w.cell? ⟨b, off + i, none⟩ = some (.string (ss.getD i .empty))

theorem Strs.below {B : Nat} {ss : List ByteArray} {v : Value} {w w' : World} (h : Strs B ss v w) (hb : Below B w w') : Strs B ss v w' := by
  obtain ⟨ao, cap, hv, h1, h2, h3⟩ := h
  refine ⟨ao, cap, hv, h1, h2, fun i hi => ?_⟩
  obtain ⟨b, off, hao, hbB, hc⟩ := h3 i hi
  exact ⟨b, off, hao, hbB, (hb.cell (p := ⟨b, off + i, none⟩) hbB).trans hc⟩

theorem Strs.mono {B B' : Nat} {ss : List ByteArray} {v : Value} {w : World} (h : Strs B ss v w) (hB : B ≤ B') : Strs B' ss v w := by
  obtain ⟨ao, cap, hv, h1, h2, h3⟩ := h
  refine ⟨ao, cap, hv, h1, h2, fun i hi => ?_⟩
  obtain ⟨b, off, hao, hbB, hc⟩ := h3 i hi
  exact ⟨b, off, hao, by omega, hc⟩

/-- zzFits4: strings, and their number, within the bound. -/
theorem fits4 (B : Nat) (ss : List ByteArray) (v : Value) (w : World) (h : Strs B ss v w) (hn : ss.length ≤ 2147483647) (hs : ∀ s ∈ ss, s.size ≤ 2147483647) :
    Calls Try.prog 11 #[v] w fun e w' => e = .returned (.bool true) ∧ w = w' := by
  obtain ⟨ao, cap, rfl, h1, h2, h3⟩ := h
  unfold maxLen at h2
  obtain ⟨n, hn'⟩ : ∃ n, n = ss.length := ⟨_, rfl⟩
  rw [← hn'] at h1 hn h3
  rw [← hn']
  have Hn := Lib.hid hn'
  have H3 := Lib.hid h3
  have Hs := Lib.hid hs
  clear hn' h3 hs
  go_enter Try.func11, Try.ntmps11
  go_wp2
  go_loop [10] (fun i => ∃ k : Nat, k ≤ n ∧ i = .int .i64 k) (fun i => n - (intOf i).toNat)
  case atStart => exact ⟨0, Nat.zero_le _, rfl⟩
  case round =>
    obtain ⟨k, hk, rfl⟩ := hrel
    by_cases hlt : k < n
    · obtain ⟨b, off, rfl, hbB, hc⟩ := H3.out k hlt
      have hsz : (ss.getD k .empty).size ≤ 2147483647 := by
        rw [Hn.out] at hlt
        rw [List.getD_eq_getElem?_getD, List.getElem?_eq_getElem hlt]
        exact Hs.out _ (List.getElem_mem hlt)
      have hsz' : ¬ (2147483647 : Int) < ((ss.getD k .empty).size : Int) := by omega
      generalize ss.getD k .empty = s at hc hsz hsz'
      go_wp2
      go_round
      case rel => exact ⟨k + 1, by omega, by go_num⟩
      case measure => simp [intOf]; omega
    · go_wp2
      go_ret
      exact ⟨rfl, rfl⟩

end Go.Proofs.Yteikiecbjjmkoaa
