/- spec.White: is a text of ASCII letters alone, and is it all white space? -/
import Derived.Test.YteikiecbjjmkoaaDoorTrim
namespace Go.Proofs.YteikiecbjjmkoaaDoor
open Go.RowKit Go.Proofs

/-- Is a byte white space, as the reference counts it? -/
def whiteB (b : UInt8) : Bool := decide (b.toNat = 32 ∨ (9 ≤ b.toNat ∧ b.toNat ≤ 13))

theorem whiteB_isSp (b : UInt8) : whiteB b = Lib.isSp b := by
  unfold whiteB Lib.isSp
  rw [Bool.eq_iff_iff, decide_eq_true_eq]
  have hb : b.toNat < 256 := b.toNat_lt
  constructor
  · intro h
    have : b.toNat = 9 ∨ b.toNat = 10 ∨ b.toNat = 11 ∨ b.toNat = 12 ∨ b.toNat = 13 ∨ b.toNat = 32 := by omega
    rcases this with h | h | h | h | h | h <;> (have e := congrArg UInt8.ofNat h; rw [UInt8.ofNat_toNat] at e; subst e; decide)
  · intro h
    simp only [Bool.or_eq_true, beq_iff_eq] at h
    rcases h with ((((h | h) | h) | h) | h) | h <;> subst h <;> decide

/-- What White answers. -/
def WhiteOf (s : ByteArray) (e : Ending) : Prop :=
  ∃ bl ok, e = .returned (.tuple #[.bool bl, .bool ok]) ∧ (ok = false → ¬ ascii s) ∧ (ok = true → ascii s ∧ (bl = true ↔ ∀ i, i < s.size → Lib.isSp (s.get! i) = true))

set_option maxHeartbeats 1000000 in
set_option maxRecDepth 100000 in
theorem white (s : ByteArray) (w : World) (hs : s.size ≤ 2147483647) :
    Calls Tryd.prog 7 #[.string s] w fun e w' => WhiteOf s e ∧ w' = w := by
  obtain ⟨n, hn⟩ : ∃ n, n = s.size := ⟨_, rfl⟩
  rw [← hn] at hs
  have Hn := Lib.hid hn
  go_enter Tryd.func7, Tryd.ntmps7
  go_wp2
  go_loop [2, 4] (fun b i => ∃ (k : Nat) (r : Bool), k ≤ n ∧ i = .int .i64 k ∧ b = .bool r ∧ Hid ((∀ j, j < k → (s.get! j).toNat < 128) ∧ (r = true ↔ ∀ j, j < k → Lib.isSp (s.get! j) = true))) (fun _ i => n - (intOf i).toNat)
  case atStart => exact ⟨0, true, Nat.zero_le _, rfl, rfl, fun j hj => absurd hj (Nat.not_lt_zero _), ⟨fun _ j hj => absurd hj (Nat.not_lt_zero _), fun _ => rfl⟩⟩
  case round =>
    obtain ⟨k, r, hk, rfl, rfl, hX⟩ := hrel
    by_cases hkn : k < n
    · have hks : k < s.size := by rw [← hn]; exact hkn
      have hk' : k < s.data.size := hks
      have ek : s.get! k = s[k]'hks := by show s.data[k]! = s.data[k]; rw [getElem!_pos s.data k hk']
      have hw := whiteB_isSp (s.get! k)
      have hb256 : (s.get! k).toNat < 256 := (s.get! k).toNat_lt
      have hlast : Hid ((s.get! k).toNat < 128 → ∀ r', (r' = (r && whiteB (s.get! k))) → ((∀ j, j < k + 1 → (s.get! j).toNat < 128) ∧ (r' = true ↔ ∀ j, j < k + 1 → Lib.isSp (s.get! j) = true))) := fun hb r' hr' => by
        subst hr'
        refine ⟨fun j hj => ?_, ?_⟩
        · by_cases e : j = k
          · subst e; exact hb
          · exact hX.out.1 j (by omega)
        · rw [Bool.and_eq_true, hX.out.2, hw]
          constructor
          · rintro ⟨h1, h2⟩ j hj
            by_cases e : j = k
            · subst e; exact h2
            · exact h1 j (by omega)
          · intro h
            exact ⟨fun j hj => h j (by omega), h k (by omega)⟩
      have hno : Hid (128 ≤ (s.get! k).toNat → ¬ ascii s) := fun h1 h2 => by have := h2 k hks; omega
      clear hw
      unfold whiteB at hlast
      obtain ⟨X, hX'⟩ : ∃ X, X = (s.get! k).toNat := ⟨_, rfl⟩
      rw [← hX'] at hlast hno hb256
      rw [ek] at hX'
      by_cases h128 : 128 ≤ X
      · have h128' : (128 : Int) ≤ ((s[k]'hks).toNat : Int) := by omega
        have hN := Lib.hid (hno.out h128)
        clear hlast hno
        go_wp2
        go_ret2
        exact ⟨⟨_, _, rfl, fun _ => hN.out, (fun h => by cases h)⟩, rfl⟩
      · have h128' : ¬ (128 : Int) ≤ ((s[k]'hks).toNat : Int) := by omega
        have hL := hlast.out (by omega)
        have HL := Lib.hid hL
        clear hlast hno hL
        by_cases h32 : X = 32
        · have g1 : ((s[k]'hks).toNat : Int) = 32 := by omega
          have e1 : Hid (r = (r && decide (X = 32 ∨ 9 ≤ X ∧ X ≤ 13))) := by rw [Hid, decide_eq_true (by omega), Bool.and_true]
          go_wp2
          go_round
          case rel => exact ⟨k + 1, r, by omega, by go_num, rfl, HL.out r e1.out⟩
          case measure => simp [intOf]; omega
        · have g1 : ¬ ((s[k]'hks).toNat : Int) = 32 := by omega
          have g1' : (((s[k]'hks).toNat : Int) == 32) = false := by simpa using g1
          by_cases h9 : X < 9
          · have g2 : ((s[k]'hks).toNat : Int) < 9 := by omega
            have e1 : Hid (false = (r && decide (X = 32 ∨ 9 ≤ X ∧ X ≤ 13))) := by rw [Hid, decide_eq_false (by omega), Bool.and_false]
            go_wp2
            go_round
            case rel => exact ⟨k + 1, false, by omega, by go_num, rfl, HL.out false e1.out⟩
            case measure => simp [intOf]; omega
          · have g2 : ¬ ((s[k]'hks).toNat : Int) < 9 := by omega
            by_cases h13 : 13 < X
            · have g3 : (13 : Int) < ((s[k]'hks).toNat : Int) := by omega
              have e1 : Hid (false = (r && decide (X = 32 ∨ 9 ≤ X ∧ X ≤ 13))) := by rw [Hid, decide_eq_false (by omega), Bool.and_false]
              go_wp2
              go_round
              case rel => exact ⟨k + 1, false, by omega, by go_num, rfl, HL.out false e1.out⟩
              case measure => simp [intOf]; omega
            · have g3 : ¬ (13 : Int) < ((s[k]'hks).toNat : Int) := by omega
              have e1 : Hid (r = (r && decide (X = 32 ∨ 9 ≤ X ∧ X ≤ 13))) := by rw [Hid, decide_eq_true (by omega), Bool.and_true]
              go_wp2
              go_round
              case rel => exact ⟨k + 1, r, by omega, by go_num, rfl, HL.out r e1.out⟩
              case measure => simp [intOf]; omega
    · have hkn' : k = n := by omega
      have hE : Hid (ascii s ∧ (r = true ↔ ∀ j, j < s.size → Lib.isSp (s.get! j) = true)) := by
        have := hX.out
        rw [hkn', Hn.out] at this
        exact this
      go_wp2
      go_ret2
      exact ⟨⟨_, _, rfl, (fun h => by cases h), fun _ => hE.out⟩, rfl⟩

end Go.Proofs.YteikiecbjjmkoaaDoor
