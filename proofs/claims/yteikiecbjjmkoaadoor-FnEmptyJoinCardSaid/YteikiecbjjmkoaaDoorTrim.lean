/- bytes.TrimSpace at any bytes: the length of what it returns is a function of the bytes; and what that says of ASCII bytes. -/
import Derived.Test.YteikiecbjjmkoaaDoorShelf
import Derived.Test.YteikiecbjjmkoaaDoorMem
import Derived.Lib.Space
namespace Go.Proofs.YteikiecbjjmkoaaDoor
open Go.RowKit Go.Proofs

/-- The library's tables, as start-up lays them. -/
def Tabs (w : World) : Prop := (∀ q : Nat, q < 256 → w.cell? ⟨0, q, none⟩ = some (.int .u8 (if Lib.isSp (UInt8.ofNat q) then 1 else 0))) ∧ Lib.WhiteTab 1 w ∧ Lib.Utf8Tabs 2 3 w

theorem Tabs.below {w w' : World} (h : Tabs w) (hb : Below w.heap.size w w') : Tabs w' := by
  have lt : ∀ {a : Addr} {v : Value}, w.cell? a = some v → a.block < w.heap.size := fun {a v} hc => World.block_lt_of_cell? w _ hc
  obtain ⟨h1, h2, h3, h4⟩ := h
  refine ⟨fun q hq => (hb.cell (lt (h1 q hq))).trans (h1 q hq), WhiteTab_below h2 hb, fun c hc => (hb.cell (lt (h3 c hc))).trans (h3 c hc), fun i hi => ?_⟩
  obtain ⟨a, b⟩ := h4 i hi
  exact ⟨(hb.cell (lt a)).trans a, (hb.cell (lt b)).trans b⟩

/-- The length of what bytes.TrimFunc leaves of s. -/
def cutLen (s : ByteArray) : Nat := if Lib.idxFunc Lib.isSpaceR false s = -1 then 0 else Lib.rightEndF Lib.isSpaceR (s.extract (Lib.idxFunc Lib.isSpaceR false s).toNat s.size)

theorem trimCut_len (s : ByteArray) (b off cap : Nat) : ∃ ao cap', trimCut Lib.isSpaceR s b off cap = .slice ao (cutLen s) cap' := by
  unfold trimCut cutLen rightCut
  split
  · exact ⟨_, _, rfl⟩
  · exact ⟨_, _, rfl⟩

theorem trim_func (s : ByteArray) (b off cap : Nat) (w : World) (hcap : s.size ≤ cap) (hs : s.size ≤ 9223372036854775807) (hB : BytesAt s b off w) (hT : Tabs w) :
    Calls Tryd.prog 12 #[.slice (some ⟨b, off, none⟩) s.size cap, .func (.func 13) #[] #[]] w fun e w' => ∃ ao cap', e = .returned (.slice ao (cutLen s) cap') ∧ Below w.heap.size w w' := by
  refine (Tryd.bytes_TrimFunc 13 #[] (enters_of Tryd.func13 (by kernel_rfl) rfl) Lib.isSpaceR s b off cap w hcap hs hB hT.2.2 (fun W x hx hW => ?_)).mono fun e w' ⟨he, hb⟩ => ?_
  · have := Tryd.unicode_IsSpace_any (x : Int) W (by omega) (by omega) (WhiteTab_below hT.2.1 hW)
    rw [Lib.isSpaceZ_nat] at this
    exact this
  · obtain ⟨ao, cap', e1⟩ := trimCut_len s b off cap
    exact ⟨ao, cap', by rw [he, e1], hb⟩

/-- Does byte k end the run of ASCII space? -/
def stops (s : ByteArray) (k : Nat) : Bool := decide (128 ≤ (s.get! k).toNat) || !Lib.isSp (s.get! k)

/-- The first byte from k on that ends it. -/
def firstFrom (s : ByteArray) : Nat → Nat → Nat
  | 0, k => k
  | f + 1, k => if stops s k then k else firstFrom s f (k + 1)

/-- How many bytes are left behind the last that ends it, of the first j. -/
def lastFrom (s : ByteArray) : Nat → Nat
  | 0 => 0
  | j + 1 => if stops s j then j + 1 else lastFrom s j

def innerLen (s : ByteArray) : Nat := if 128 ≤ (s.get! (lastFrom s s.size - 1)).toNat then cutLen (s.extract 0 (lastFrom s s.size)) else lastFrom s s.size

def trimLen (s : ByteArray) : Nat :=
  if firstFrom s s.size 0 = s.size then 0
  else if 128 ≤ (s.get! (firstFrom s s.size 0)).toNat then cutLen (s.extract (firstFrom s s.size 0) s.size) else innerLen (s.extract (firstFrom s s.size 0) s.size)

def blank (s : ByteArray) : Bool := trimLen s == 0

theorem firstFrom_all (s : ByteArray) : ∀ f k, (∀ i, k ≤ i → i < k + f → stops s i = false) → firstFrom s f k = k + f
  | 0, k, _ => rfl
  | f + 1, k, h => by
    rw [firstFrom, h k (by omega) (by omega)]
    simp only [Bool.false_eq_true, if_false]
    rw [firstFrom_all s f (k + 1) (fun i h1 h2 => h i (by omega) (by omega))]
    omega

theorem firstFrom_le (s : ByteArray) : ∀ f k, firstFrom s f k ≤ k + f ∧ (firstFrom s f k < k + f → stops s (firstFrom s f k) = true)
  | 0, k => ⟨Nat.le_refl _, fun h => absurd h (by simp [firstFrom])⟩
  | f + 1, k => by
    rw [firstFrom]
    by_cases h : stops s k = true
    · rw [if_pos h]; exact ⟨by omega, fun _ => h⟩
    · rw [if_neg h]
      have := firstFrom_le s f (k + 1)
      exact ⟨by omega, fun h' => this.2 (by omega)⟩

theorem firstFrom_before (s : ByteArray) : ∀ f k i, k ≤ i → i < firstFrom s f k → stops s i = false
  | 0, k, i, h1, h2 => by simp [firstFrom] at h2; omega
  | f + 1, k, i, h1, h2 => by
    rw [firstFrom] at h2
    by_cases h : stops s k = true
    · rw [if_pos h] at h2; omega
    · rw [if_neg h] at h2
      by_cases e : i = k
      · subst e; simpa using h
      · exact firstFrom_before s f (k + 1) i (by omega) h2

theorem lastFrom_pos (s : ByteArray) (h : stops s 0 = true) : ∀ j, 0 < j → 0 < lastFrom s j
  | 0, h0 => by omega
  | j + 1, _ => by
    rw [lastFrom]
    by_cases hj : stops s j = true
    · rw [if_pos hj]; omega
    · rw [if_neg hj]
      refine lastFrom_pos s h j ?_
      rcases Nat.eq_zero_or_pos j with e | e
      · subst e; exact absurd h hj
      · exact e

/-- All bytes are ASCII. -/
def ascii (s : ByteArray) : Prop := ∀ i, i < s.size → (s.get! i).toNat < 128

theorem lastFrom_le (s : ByteArray) : ∀ j, lastFrom s j ≤ j
  | 0 => Nat.le_refl _
  | j + 1 => by
    rw [lastFrom]; split
    · omega
    · have := lastFrom_le s j; omega

/-- Of ASCII bytes nothing is left just if all are space. -/
theorem blank_ascii (s : ByteArray) (ha : ascii s) : blank s = true ↔ ∀ i, i < s.size → Lib.isSp (s.get! i) = true := by
  have hst : ∀ i, i < s.size → (stops s i = false ↔ Lib.isSp (s.get! i) = true) := fun i hi => by
    have := ha i hi
    unfold stops
    rw [decide_eq_false (by omega)]
    simp
  unfold blank
  rw [beq_iff_eq]
  constructor
  · intro h i hi
    rw [← hst i hi]
    by_cases e : firstFrom s s.size 0 = s.size
    · exact firstFrom_before s s.size 0 i (Nat.zero_le _) (by omega)
    · exfalso
      have hle := firstFrom_le s s.size 0
      have hlt : firstFrom s s.size 0 < s.size := by omega
      have hs := hle.2 (by omega)
      unfold trimLen at h
      rw [if_neg e, if_neg (by have := ha _ hlt; omega)] at h
      generalize firstFrom s s.size 0 = k at *
      have hsz : (s.extract k s.size).size = s.size - k := Lib.tail_size s k
      have h0 : stops (s.extract k s.size) 0 = true := by
        unfold stops; rw [Lib.tail_get!, Nat.add_zero]; exact hs
      have hp := lastFrom_pos (s.extract k s.size) h0 (s.extract k s.size).size (by omega)
      have hl := lastFrom_le (s.extract k s.size) (s.extract k s.size).size
      unfold innerLen at h
      rw [if_neg (by rw [Lib.tail_get!]; have := ha (k + (lastFrom (s.extract k s.size) (s.extract k s.size).size - 1)) (by omega); omega)] at h
      omega
  · intro h
    unfold trimLen
    rw [if_pos]
    rw [firstFrom_all s s.size 0 (fun i _ hi => (hst i (by omega)).2 (h i (by omega)))]
    omega

set_option maxHeartbeats 4000000 in
set_option maxRecDepth 100000 in
/-- bytes.TrimSpace at any bytes. -/
theorem trim_space (s : ByteArray) (b o c : Nat) (w : World) (hnc : s.size ≤ c) (hbig : c ≤ 9223372036854775807) (hB : BytesAt s b o w) (hT : Tabs w) :
    Calls Tryd.prog 11 #[.slice (some ⟨b, o, none⟩) s.size c] w fun e w' => ∃ ao c', e = .returned (.slice ao (trimLen s) c') ∧ Below w.heap.size w w' := by
  have cF : Hid (∀ (t : ByteArray) (off cap : Nat), t.size ≤ cap → t.size ≤ 9223372036854775807 → BytesAt t b off w → Calls Tryd.prog 12 #[.slice (some ⟨b, off, none⟩) t.size cap, .func (.func 13) #[] #[]] w fun e w' => ∃ ao cap', e = .returned (.slice ao (cutLen t) cap') ∧ Below w.heap.size w w') :=
    fun t off cap h1 h2 h3 => trim_func t b off cap w h1 h2 h3 hT
  obtain ⟨TL, hTL⟩ : ∃ TL, TL = trimLen s := ⟨_, rfl⟩
  rw [← hTL]
  have HTL := Lib.hid hTL
  clear hTL
  obtain ⟨n, hn⟩ : ∃ n, n = s.size := ⟨_, rfl⟩
  rw [← hn] at hnc
  rw [← hn]
  have HB := Lib.hid hB
  have HT := Lib.hid hT.1
  have Hn := Lib.hid hn
  clear hB hT hn
  go_enter Tryd.func11, Tryd.ntmps11
  go_wp2
  go_loop [9, 0] (fun i s0 => s0 = .slice (some ⟨b, o, none⟩) n c ∧ ∃ k : Nat, k ≤ n ∧ i = .int .i64 k ∧ Hid (firstFrom s n 0 = firstFrom s (n - k) k)) (fun i _ => n - (intOf i).toNat)
  case atStart => exact ⟨rfl, 0, Nat.zero_le _, rfl, by rw [Hid, Nat.sub_zero]⟩
  case round =>
    obtain ⟨rfl, k, hk, rfl, hsp⟩ := hrel
    by_cases hkn : k < n
    · have hc1 : w.cell? ⟨b, o + k, none⟩ = some (.int .u8 ((s.get! k).toNat : Int)) := HB.out k (by rw [← Hn.out]; exact hkn)
      have hX256 : (s.get! k).toNat < 256 := UInt8.toNat_lt _
      have hstp : stops s k = (decide (128 ≤ (s.get! k).toNat) || !Lib.isSp (s.get! k)) := rfl
      have hfirst : stops s k = true → Hid (firstFrom s n 0 = k) := fun h => by
        have h1 := hsp.out
        rw [show n - k = (n - k - 1) + 1 by omega, firstFrom, if_pos h] at h1
        exact h1
      have hTx := HT.out (s.get! k).toNat hX256
      rw [UInt8.ofNat_toNat] at hTx
      have hT0 : (k : Int) < (n : Int) := by omega
      have hck : ¬ c = k := by omega
      have hkn2 : (k : Int) ≤ (n : Int) := by omega
      have hck2 : (n : Int) ≤ (c : Int) := by omega
      obtain ⟨X, hX⟩ : ∃ X, X = (s.get! k).toNat := ⟨_, rfl⟩
      rw [← hX] at hc1 hTx hX256 hstp
      have HX := Lib.hid hX
      clear hX
      by_cases h128 : 128 ≤ X
      · have hF := hfirst (by rw [hstp, decide_eq_true h128]; rfl)
        have hz : (s.extract k s.size).size = n - k := by rw [Lib.tail_size, ← Hn.out]
        have c1 := cF.out (s.extract k s.size) (o + k) (c - k) (by omega) (by omega) (HB.out.tail k)
        rw [hz] at c1
        have hR : Hid (TL = cutLen (s.extract k s.size)) := by
          have hf := hF.out
          rw [Hn.out] at hf
          rw [Hid, HTL.out, trimLen, hf, if_neg (by rw [← Hn.out]; omega), if_pos (by rw [← HX.out]; exact h128)]
        rw [← hR.out] at c1
        have h128' : (128 : Int) ≤ (X : Int) := by omega
        clear hfirst hstp hz hTx
        go_wp2_with fail
        refine c1.mono ?_
        rintro e w' ⟨ao, cap', rfl, hb⟩
        have Hb := Lib.hid hb
        clear hb c1
        go_wp2
        go_ret
        exact ⟨_, _, rfl, Hb.out⟩
      · have h128' : ¬ (128 : Int) ≤ (X : Int) := by omega
        rw [decide_eq_false h128, Bool.false_or] at hstp
        cases hsx : Lib.isSp (s.get! k) with
        | true =>
          rw [hsx] at hTx hstp
          simp only [if_true] at hTx
          have hN : Hid (firstFrom s n 0 = firstFrom s (n - (k + 1)) (k + 1)) := by
            have h1 := hsp.out
            rw [show n - k = (n - (k + 1)) + 1 by omega, firstFrom, if_neg (by rw [hstp]; decide)] at h1
            exact h1
          clear hfirst hstp
          go_wp2
          go_round
          case rel => exact ⟨rfl, k + 1, by omega, by go_num, hN.out⟩
          case measure => simp [intOf]; omega
        | false =>
          rw [hsx] at hTx hstp
          simp only [Bool.false_eq_true, if_false] at hTx
          have hF := hfirst (by rw [hstp]; rfl)
          have hz : Hid ((s.extract k s.size).size = n - k) := by rw [Hid, Lib.tail_size, ← Hn.out]
          have hR : Hid (TL = innerLen (s.extract k s.size)) := by
            have hf := hF.out
            rw [Hn.out] at hf
            rw [Hid, HTL.out, trimLen, hf, if_neg (by rw [← Hn.out]; omega), if_neg (by rw [← HX.out]; exact h128)]
          have HBt := Lib.hid (HB.out.tail k)
          have hst0 : Hid (stops (s.extract k s.size) 0 = true) := by
            rw [Hid]; unfold stops; rw [Lib.tail_get!, Nat.add_zero, hsx]; simp
          clear hfirst hstp
          generalize s.extract k s.size = t at *
          go_wp2
          go_loop [5] (fun h => ∃ m : Nat, m < n - k ∧ h = .int .i64 m ∧ Hid (lastFrom t (n - k) = lastFrom t (m + 1))) (fun h => (intOf h).toNat)
          case atStart => exact ⟨n - k - 1, by omega, by first | go_num | (congr 1; omega), by rw [Hid, show n - k - 1 + 1 = n - k by omega]⟩
          case round =>
            obtain ⟨m, hm, rfl, hsp2⟩ := hrel
            have hc2 : w.cell? ⟨b, o + k + m, none⟩ = some (.int .u8 ((t.get! m).toNat : Int)) := HBt.out m (by rw [hz.out]; exact hm)
            have hY256 : (t.get! m).toNat < 256 := UInt8.toNat_lt _
            have hTy := HT.out (t.get! m).toNat hY256
            rw [UInt8.ofNat_toNat] at hTy
            have hstp : stops t m = (decide (128 ≤ (t.get! m).toNat) || !Lib.isSp (t.get! m)) := rfl
            have hlast : stops t m = true → Hid (lastFrom t (n - k) = m + 1) := fun h => by
              have h1 := hsp2.out
              rw [lastFrom, if_pos h] at h1
              exact h1
            obtain ⟨Y, hY⟩ : ∃ Y, Y = (t.get! m).toNat := ⟨_, rfl⟩
            rw [← hY] at hc2 hTy hY256 hstp
            have HY := Lib.hid hY
            clear hY
            have hmb : (m : Int) < ((n - k : Nat) : Int) := by omega
            have hmc : (m : Int) + 1 ≤ ((c - k : Nat) : Int) := by omega
            by_cases hy128 : 128 ≤ Y
            · have hL := hlast (by rw [hstp, decide_eq_true hy128]; rfl)
              have hzz : (t.extract 0 (m + 1)).size = m + 1 := head_size t (m + 1) (by rw [hz.out]; omega)
              have c1 := cF.out (t.extract 0 (m + 1)) (o + k) (c - k) (by omega) (by omega) (HBt.out.head (m + 1) (by rw [hz.out]; omega))
              rw [hzz] at c1
              have hR2 : Hid (TL = cutLen (t.extract 0 (m + 1))) := by
                rw [Hid, hR.out, innerLen, hz.out, hL.out, if_pos (by rw [Nat.add_sub_cancel, ← HY.out]; exact hy128)]
              rw [← hR2.out] at c1
              have hy128' : (128 : Int) ≤ (Y : Int) := by omega
              clear hlast hstp hzz hTy
              go_wp2_with fail
              refine c1.mono ?_
              rintro e w' ⟨ao, cap', rfl, hb⟩
              have Hb := Lib.hid hb
              clear hb c1
              go_wp2
              go_ret
              exact ⟨_, _, rfl, Hb.out⟩
            · have hy128' : ¬ (128 : Int) ≤ (Y : Int) := by omega
              rw [decide_eq_false hy128, Bool.false_or] at hstp
              cases hsy : Lib.isSp (t.get! m) with
              | true =>
                rw [hsy] at hTy hstp
                simp only [if_true] at hTy
                have hm0 : 0 < m := by
                  rcases Nat.eq_zero_or_pos m with e | e
                  · subst e; rw [hst0.out] at hstp; cases hstp
                  · exact e
                have hN : Hid (lastFrom t (n - k) = lastFrom t (m - 1 + 1)) := by
                  have h1 := hsp2.out
                  rw [lastFrom, if_neg (by rw [hstp]; decide)] at h1
                  rw [Hid, h1, show m - 1 + 1 = m by omega]
                clear hlast hstp
                go_wp2
                go_round
                case rel => exact ⟨m - 1, by omega, by first | go_num | (congr 1; omega), hN.out⟩
                case measure => simp [intOf]; omega
              | false =>
                rw [hsy] at hTy hstp
                simp only [Bool.false_eq_true, if_false] at hTy
                have hL := hlast (by rw [hstp]; rfl)
                have hR2 : Hid (TL = m + 1) := by
                  rw [Hid, hR.out, innerLen, hz.out, hL.out, if_neg (by rw [Nat.add_sub_cancel, ← HY.out]; exact hy128)]
                clear hlast hstp
                go_wp2
                go_ret
                rw [hR2.out]
                exact ⟨⟨_, _, rfl⟩, Below.refl _ _⟩
    · have hke : k = n := by omega
      subst hke
      have hT0 : ¬ ((k : Int) < (k : Int)) := by omega
      have hR : Hid (TL = 0) := by
        have h1 := hsp.out
        rw [Nat.sub_self, firstFrom, Hn.out] at h1
        rw [Hid, HTL.out, trimLen, if_pos h1]
      go_wp2
      go_ret
      rw [hR.out]
      exact ⟨⟨_, _, rfl⟩, Below.refl _ _⟩

end Go.Proofs.YteikiecbjjmkoaaDoor
