/- An operand: the size check, the reference's text, and the node that is made of it. -/
import Derived.Test.YteikiecbjjmkoaaNode
import Derived.Deep.QuietTactic
import Derived.BigQuiet
namespace Go.Proofs.Yteikiecbjjmkoaa
open Go.RowKit Go.Proofs

/-- The value v is the operand p; its names lie below block B. -/
def IsPart (B : Nat) (p : Part) (v : Value) (w : World) : Prop := ∃ nv, v = .agg #[.string p.kind, nv, .string p.text, .bool p.tr] ∧ Strs B p.names nv w

theorem IsPart.below {B : Nat} {p : Part} {v : Value} {w w' : World} (h : IsPart B p v w) (hb : Below B w w') : IsPart B p v w' := by
  obtain ⟨nv, hv, hs⟩ := h
  exact ⟨nv, hv, hs.below hb⟩

/-- An operand's sizes within a bound. -/
def SmallPart (m : Nat) (p : Part) : Prop := p.kind.size ≤ m ∧ p.names.length ≤ m ∧ (∀ s ∈ p.names, s.size ≤ m) ∧ p.text.size ≤ m

theorem fits6 (B : Nat) (p : Part) (v : Value) (w : World) (h : IsPart B p v w) (hB : B ≤ w.heap.size) (hs : SmallPart 2147483647 p) :
    Calls Try.prog 13 #[v] w fun e w' => e = .returned (.bool true) ∧ Below w.heap.size w w' := by
  obtain ⟨nv, rfl, hn⟩ := h
  obtain ⟨s1, s2, s3, s4⟩ := hs
  have hb0 : Below w.heap.size w (w.alloc (.cells #[.string p.kind, nv, .string p.text, .bool p.tr] 27)) := (Below.refl _ _).alloc (Nat.le_refl _) _
  have f1 := fits4 B p.names nv _ (hn.below (hb0.mono hB)) s2 s3
  obtain ⟨ao, cap, rfl, -⟩ := hn
  have h1 : ¬ (2147483647 : Int) < (p.kind.size : Int) := by omega
  have h2 : ¬ (2147483647 : Int) < (p.text.size : Int) := by omega
  generalize p.kind = k at *
  generalize p.text = tx at *
  generalize p.tr = tr at *
  generalize p.names.length = n at *
  have Hb0 := Lib.hid hb0
  clear hb0 s1 s2 s3 s4
  go_enter Try.func13, Try.ntmps13
  go_wp2_with fail
  refine f1.mono ?_
  rintro e w' ⟨rfl, rfl⟩
  go_wp2
  go_ret
  exact ⟨rfl, Hb0.out⟩

/-- spec.dotted: names with a dot ahead of each. -/
theorem dotted_go (B : Nat) (ss : List ByteArray) (v : Value) (w : World) (h : Strs B ss v w) (hlen : (dotted ss).length ≤ 1000000000) :
    Calls Try.prog 24 #[v] w fun e w' => e = .returned (.string ⟨(dotted ss).toArray⟩) ∧ w' = w := by
  obtain ⟨ao, cap, rfl, h1, h2, h3⟩ := h
  unfold maxLen at h2
  obtain ⟨n, hn'⟩ : ∃ n, n = ss.length := ⟨_, rfl⟩
  rw [← hn'] at h1 h3
  rw [← hn']
  have Hn := Lib.hid hn'
  have H3 := Lib.hid h3
  have Hl := Lib.hid hlen
  clear hn' h3 hlen
  go_enter Try.func24, Try.ntmps24
  go_wp2
  go_loop [3, 8] (fun s i => ∃ k : Nat, k ≤ n ∧ i = .int .i64 k ∧ s = .string ⟨(dotted (ss.take k)).toArray⟩) (fun _ i => n - (intOf i).toNat)
  case atStart => exact ⟨0, Nat.zero_le _, rfl, rfl⟩
  case round =>
    obtain ⟨k, hk, rfl, rfl⟩ := hrel
    by_cases hlt : k < n
    · have hlt' : k < ss.length := by rw [← Hn.out]; exact hlt
      obtain ⟨b, off, rfl, hbB, hc⟩ := H3.out k hlt
      have hl := dotted_len ss k hlt'
      have hl2 := Hl.out
      have e1 : Hid (dotted (ss.take (k + 1)) = dotted (ss.take k) ++ 46 :: (ss.getD k .empty).data.toList) := dotted_take ss k hlt'
      have hl3 : (dotted (ss.take k)).length ≤ 1000000000 := by omega
      have hl4 : (ss.getD k .empty).size ≤ 1000000000 := by rw [Lib.size_eq]; omega
      clear hl hl2
      generalize ss.getD k .empty = s at hc e1 hl4
      generalize dotted (ss.take k) = l at e1 hl3
      go_wp2
      go_round
      case rel =>
        refine ⟨k + 1, by omega, by go_num, ?_⟩
        rw [e1.out, mk_append]
        congr 3
      case measure => simp [intOf]; omega
    · have hkn : k = ss.length := by rw [← Hn.out]; omega
      have hE : Hid (dotted (ss.take k) = dotted ss) := by rw [Hid, hkn, List.take_length]
      clear hkn
      rw [hE.out]
      go_wp2
      go_ret
      exact ⟨rfl, rfl⟩

/-- What is left of the names behind the first one. -/
theorem Strs.tail {B : Nat} {s : ByteArray} {ss : List ByteArray} {b off cap : Nat} {w : World} (h : Strs B (s :: ss) (.slice (some ⟨b, off, none⟩) (ss.length + 1) cap) w) :
    Strs B ss (.slice (if cap = 1 then some ⟨b, off, none⟩ else some ⟨b, off + 1, none⟩) ss.length (cap - 1)) w := by
  obtain ⟨ao, cap', hv, h1, h2, h3⟩ := h
  injection hv with e1 e2 e3
  subst e1 e3
  simp only [List.length_cons] at h1
  refine ⟨_, _, rfl, by omega, by omega, fun i hi => ?_⟩
  obtain ⟨b', off', hao, hbB, hc⟩ := h3 (i + 1) (by simp; omega)
  injection hao with hao
  injection hao with e1 e2
  subst e1 e2
  refine ⟨b, off + 1, if_neg (by omega), hbB, ?_⟩
  rw [Nat.add_assoc, Nat.add_comm 1 i, hc]
  simp

/-- What a call that makes memory and hands back a string leaves. -/
def Gives (t : List UInt8) (w : World) (e : Ending) (w' : World) : Prop := e = .returned (.string ⟨t.toArray⟩) ∧ Below w.heap.size w w'

theorem below_two (w : World) (a b : Obj) : Below w.heap.size w ((w.alloc a).alloc b) := ((Below.refl _ w).alloc (Nat.le_refl _) _).alloc (by simp) _

theorem below_drewN' {B : Nat} {a w : World} (h : Below B a w) (n : Nat) : Below B a (w.drewN n) := ⟨h.os, h.tape, h.output, h.size, h.block⟩

theorem strs_drewN {B : Nat} {ss : List ByteArray} {v : Value} {w : World} (h : Strs B ss v w) (q : Nat) : Strs B ss v (w.drewN q) := h

set_option maxRecDepth 100000 in
set_option maxHeartbeats 1000000 in
/-- spec.PartText at a variable. -/
theorem part_variable (B : Nat) (names : List ByteArray) (tx : ByteArray) (tr : Bool) (nv : Value) (w : World) (hn : Strs B names nv w) (hB : B ≤ w.heap.size) (hlen : (varText names).length ≤ 1000000000) (hd : (dotted names).length ≤ 1000000000) :
    Calls Try.prog 14 #[.agg #[.string ⟨#[118, 97, 114, 105, 97, 98, 108, 101]⟩, nv, .string tx, .bool tr]] w (Gives (varText names) w) := by
  have hb0 : Below w.heap.size w (w.alloc (.cells #[.string ⟨#[118, 97, 114, 105, 97, 98, 108, 101]⟩, nv, .string tx, .bool tr] 27)) := (Below.refl _ _).alloc (Nat.le_refl _) _
  have Hb := Lib.hid hb0
  cases names with
  | nil =>
    obtain ⟨ao, cap, rfl, -⟩ := hn
    clear hb0
    go_enter Try.func14, Try.ntmps14
    go_wp2
    go_ret
    exact ⟨rfl, Hb.out⟩
  | cons s r =>
    have hn2 := hn
    obtain ⟨ao, cap, rfl, h1, h2, h3⟩ := hn
    obtain ⟨b, off, rfl, hbB, hc⟩ := h3 0 (by simp)
    simp only [List.length_cons] at *
    have hc' : (w.alloc (.cells #[.string ⟨#[118, 97, 114, 105, 97, 98, 108, 101]⟩, .slice (some ⟨b, off, none⟩) (r.length + 1) cap, .string tx, .bool tr] 27)).cell? ⟨b, off, none⟩ = some (.string s) := by
      rw [hb0.cell (p := ⟨b, off, none⟩) (by show b < _; omega)]
      simpa using hc
    have hd' : (dotted r).length ≤ 1000000000 := by simp [dotted] at hd; omega
    have ht := (hn2.below (hb0.mono hB)).tail
    have hl1 : s.size + (dotted r).length ≤ 1000000000 := by simp [varText] at hlen; rw [Lib.size_eq]; simpa using hlen
    have hrl : r.length ≤ (dotted r).length := length_le_dotted r
    have hs9 : s.size ≤ 1000000000 := by omega
    have hv : Hid (varText (s :: r) = s.data.toList ++ dotted r) := rfl
    unfold maxLen at h2
    by_cases hcap : cap = 1
    · subst hcap
      simp only [if_true] at ht
      have d2 := fun q => dotted_go B r _ _ (strs_drewN ht q) hd'
      generalize dotted r = dr at *
      have hrl0 : r.length = 0 := by omega
      clear h3 hn2 hb0 ht hc hlen hd hl1
      generalize r.length = n at *
      subst hrl0
      go_enter Try.func14, Try.ntmps14
      go_wp2
      go_quiet ((go_at_call 24; exact Calls.quiet_of_same (d2 _)))
      go_wp2
      go_ret
      exact ⟨by rw [hv.out, ← append_mk]; rfl, below_drewN' Hb.out _⟩
    · rw [if_neg hcap] at ht
      have d2 := fun q => dotted_go B r _ _ (strs_drewN ht q) hd'
      generalize dotted r = dr at *
      clear h3 hn2 hb0 ht hc hlen hd
      generalize r.length = n at *
      go_enter Try.func14, Try.ntmps14
      go_wp2
      go_quiet ((go_at_call 24; exact Calls.quiet_of_same (d2 _)))
      go_wp2
      go_ret
      exact ⟨by rw [hv.out, ← append_mk]; rfl, below_drewN' Hb.out _⟩

set_option maxRecDepth 100000 in
/-- spec.PartText. -/
theorem part_text (B : Nat) (p : Part) (v : Value) (w : World) (h : IsPart B p v w) (hB : B ≤ w.heap.size) (hlen : (partText p).length ≤ 1000000000) (hd : (dotted p.names).length ≤ 1000000000) :
    Calls Try.prog 14 #[v] w (Gives (partText p) w) := by
  obtain ⟨nv, rfl, hn⟩ := h
  have hb0 : Below w.heap.size w (w.alloc (.cells #[.string p.kind, nv, .string p.text, .bool p.tr] 27)) := (Below.refl _ _).alloc (Nat.le_refl _) _
  have d1 := dotted_go B p.names nv _ (hn.below (hb0.mono hB)) hd
  obtain ⟨k, names, tx, tr⟩ := p
  simp only at *
  rcases kind_cases k with rfl | rfl | rfl | rfl | rfl | rfl | rfl | hk
  · obtain ⟨ao, cap, rfl, -⟩ := hn
    have e1 : partText ⟨⟨#[102, 105, 101, 108, 100]⟩, names, tx, tr⟩ = dotted names := rfl
    rw [e1]
    have Hb := Lib.hid hb0
    clear hb0
    go_enter Try.func14, Try.ntmps14
    go_wp2_with fail
    refine d1.mono ?_
    rintro e w' ⟨rfl, rfl⟩
    go_wp2
    go_ret
    exact ⟨rfl, Hb.out⟩
  · have e1 : partText ⟨⟨#[118, 97, 114, 105, 97, 98, 108, 101]⟩, names, tx, tr⟩ = varText names := rfl
    rw [e1] at hlen ⊢
    exact part_variable B names tx tr nv w hn hB hlen hd
  · have e1 : partText ⟨⟨#[98, 111, 111, 108]⟩, names, tx, tr⟩ = boolText tr := rfl
    rw [e1]
    obtain ⟨ao, cap, rfl, -⟩ := hn
    have Hb := Lib.hid hb0
    clear hb0 d1
    cases tr <;> (go_enter Try.func14, Try.ntmps14; go_wp2; go_ret; exact ⟨rfl, Hb.out⟩)
  · have e1 : partText ⟨⟨#[115, 116, 114, 105, 110, 103]⟩, names, tx, tr⟩ = tx.data.toList := rfl
    rw [e1]
    obtain ⟨ao, cap, rfl, -⟩ := hn
    have Hb := Lib.hid hb0
    clear hb0 d1
    go_enter Try.func14, Try.ntmps14
    go_wp2
    go_ret
    exact ⟨rfl, Hb.out⟩
  · have e1 : partText ⟨⟨#[110, 117, 109, 98, 101, 114]⟩, names, tx, tr⟩ = tx.data.toList := rfl
    rw [e1]
    obtain ⟨ao, cap, rfl, -⟩ := hn
    have Hb := Lib.hid hb0
    clear hb0 d1
    go_enter Try.func14, Try.ntmps14
    go_wp2
    go_ret
    exact ⟨rfl, Hb.out⟩
  · have e1 : partText ⟨⟨#[105, 100, 101, 110, 116]⟩, names, tx, tr⟩ = tx.data.toList := rfl
    rw [e1]
    obtain ⟨ao, cap, rfl, -⟩ := hn
    have Hb := Lib.hid hb0
    clear hb0 d1
    go_enter Try.func14, Try.ntmps14
    go_wp2
    go_ret
    exact ⟨rfl, Hb.out⟩
  · have e1 : partText ⟨⟨#[110, 105, 108]⟩, names, tx, tr⟩ = [110, 105, 108] := rfl
    rw [e1]
    obtain ⟨ao, cap, rfl, -⟩ := hn
    have Hb := Lib.hid hb0
    clear hb0 d1
    go_enter Try.func14, Try.ntmps14
    go_wp2
    go_ret
    exact ⟨rfl, Hb.out⟩
  · have e1 : partText ⟨k, names, tx, tr⟩ = [46] := partText_other _ hk
    rw [e1]
    obtain ⟨h1, h2, h3, h4, h5, h6, h7⟩ := hk
    obtain ⟨ao, cap, rfl, -⟩ := hn
    have Hb := Lib.hid hb0
    clear hb0 d1
    go_enter Try.func14, Try.ntmps14
    go_wp2
    go_ret
    exact ⟨rfl, Hb.out⟩

end Go.Proofs.Yteikiecbjjmkoaa
