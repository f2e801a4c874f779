/- writeTo of a command and of a chain: what they lay into the builder. -/
import Derived.Test.YteikiecbjjmkoaaNode
namespace Go.Proofs.Yteikiecbjjmkoaa
open Go.RowKit Go.Proofs

set_option maxRecDepth 100000 in
set_option maxHeartbeats 1000000 in
/-- CommandNode.writeTo: the operands, a space between. -/
theorem put_command (B0 B N b : Nat) (ts : List (List UInt8)) (sv : Value) (l : List UInt8) (w : World) (h : w.cell? ⟨N, 3, none⟩ = some sv) (hts : Nodes B0 B ts sv w) (hBb : B ≤ b) (hb : Holds b l w) (hlen : l.length + (sepBy [32] ts).length ≤ 140737488355328) :
    Calls Try.prog 33 #[.pointer (some ⟨N, 0, none⟩), .pointer (some ⟨b, 0, none⟩)] w (Wrote b l (sepBy [32] ts) w) := by
  have Hss := Lib.hid hts
  obtain ⟨ao, cap, rfl, h1, h2, h3⟩ := hts
  clear h3
  obtain ⟨n, hn'⟩ : ∃ n, n = ts.length := ⟨_, rfl⟩
  rw [← hn'] at h1 h
  unfold maxLen at h2
  have Hn := Lib.hid hn'
  have Hb := Lib.hid hb
  have Hlen := Lib.hid hlen
  clear hn' hb hlen
  go_enter Try.func33, Try.ntmps33
  go_wp2
  go_loopw [13] (fun i wr => ∃ k : Nat, k ≤ n ∧ i = .int .i64 k ∧ Hid (Holds b (l ++ sepBy [32] (ts.take k)) wr ∧ Below b w wr)) (fun i _ => n - (intOf i).toNat)
  case atStart => exact ⟨0, Nat.zero_le _, rfl, by simpa [sepBy] using Hb.out, Below.refl _ _⟩
  case round =>
    obtain ⟨k, hk, rfl, hW⟩ := hrel
    by_cases hlt : k < n
    · have hlt' : k < ts.length := by rw [← Hn.out]; exact hlt
      obtain ⟨_, _, hv, _, _, h3⟩ := Hss.out.below (hW.out.2.mono hBb)
      obtain ⟨c, off, x, hao, hcB, hc, hx⟩ := h3 k hlt'
      obtain rfl : ao = some ⟨c, off, none⟩ := by injection hv with e1 _ _; rw [e1, hao]
      obtain ⟨T, a, f, rfl, hm, he, hT, hta, hcall⟩ := node_writes B0 B x _ wr hx
      have Hm := Lib.hid hm
      have He := Lib.hid he
      have hl := sepBy_len [32] ts k hlt'
      have hl2 := Hlen.out
      by_cases hk0 : k = 0
      · subst hk0
        have e1 : Hid (l ++ sepBy [32] (ts.take (0 + 1)) = l ++ sepBy [32] (ts.take 0) ++ ts.getD 0 []) := by
          rw [Hid, Nat.zero_add, sepBy_take_one [32] ts hlt']; simp [sepBy]
        have c1 := hcall b (l ++ sepBy [32] (ts.take 0)) wr (Below.refl _ _) hBb hW.out.1 (by simp at hl ⊢; omega)
        rw [Nat.add_zero] at hc
        clear hv h3 hao hl hl2 hx hcall hm he
        generalize ts.getD 0 [] = t at c1 e1
        go_wp2_with fail
        rw [Hm.out]
        · simp only [Result.andThen]
          rw [He.out, Oper.upon_enter]
          refine c1.mono ?_
          rintro e w' ⟨rfl, q1, q2⟩
          have HW2 := Lib.hid (hW.out.2.trans q2)
          have Q1 := Lib.hid q1
          clear q1 q2 hW c1
          go_wp2
          go_roundw
          case rel => exact ⟨0 + 1, by omega, by go_num, by rw [e1.out]; exact Q1.out, HW2.out⟩
          case measure => simp [intOf]; omega
        · unfold IsWt; kernel_rfl
      · have hk1 : 0 < k := by omega
        have e1 : Hid (l ++ sepBy [32] (ts.take (k + 1)) = l ++ sepBy [32] (ts.take k) ++ [32] ++ ts.getD k []) := by
          rw [Hid, sepBy_take [32] ts k hk1 hlt']; simp
        have c0 := put_space b (l ++ sepBy [32] (ts.take k)) _ hW.out.1 (by simp [hk0] at hl ⊢; omega)
        have hl3 : Hid ((l ++ sepBy [32] (ts.take k) ++ [32]).length + (ts.getD k []).length ≤ 140737488355328) := by rw [Hid]; simp [hk0] at hl hl2 ⊢; omega
        clear hv h3 hao hl hl2 hx hm he hk0
        generalize ts.getD k [] = t at hcall e1 hl3
        go_wp2_with fail
        refine c0.mono ?_
        rintro e w' ⟨rfl, q1, q2⟩
        have c1 := hcall b _ w' (q2.mono hBb) hBb q1 hl3.out
        have hc' : w'.cell? ⟨c, off + k, none⟩ = some (.iface T (.pointer (some ⟨a, 0, none⟩))) := (q2.cell (p := ⟨c, off + k, none⟩) (by show c < b; omega)).trans hc
        have HW1 := Lib.hid (hW.out.2.trans q2)
        clear q1 q2 hcall hW c0
        go_wp2_with fail
        rw [Hm.out]
        · simp only [Result.andThen]
          rw [He.out, Oper.upon_enter]
          refine c1.mono ?_
          rintro e w'' ⟨rfl, q1, q2⟩
          have HW2 := Lib.hid (HW1.out.trans q2)
          have Q1 := Lib.hid q1
          clear q1 q2 HW1 c1
          go_wp2
          go_roundw
          case rel => exact ⟨k + 1, by omega, by go_num, by rw [e1.out]; exact Q1.out, HW2.out⟩
          case measure => simp [intOf]; omega
        · unfold IsWt; kernel_rfl
    · have hkn : k = ts.length := by rw [← Hn.out]; omega
      have hE : Hid (Holds b (l ++ sepBy [32] ts) wr ∧ Below b w wr) := by
        have := hW.out
        rw [hkn, List.take_length] at this
        exact this
      clear hkn hW
      go_wp2
      go_end0
      exact ⟨rfl, hE.out.1, hE.out.2⟩

set_option maxRecDepth 100000 in
set_option maxHeartbeats 1000000 in
/-- ChainNode.writeTo: the operand, then each field with a dot ahead. -/
theorem put_chain (B0 B N b : Nat) (t : List UInt8) (ss : List ByteArray) (x sv : Value) (l : List UInt8) (w : World) (h3x : w.cell? ⟨N, 3, none⟩ = some x) (h : w.cell? ⟨N, 4, none⟩ = some sv) (hx : IsNode B0 B x t w) (hss : Strs B ss sv w) (hN : N < B) (hBb : B ≤ b) (hb : Holds b l w)
    (hlen : l.length + (t ++ dotted ss).length ≤ 140737488355328) :
    Calls Try.prog 32 #[.pointer (some ⟨N, 0, none⟩), .pointer (some ⟨b, 0, none⟩)] w (Wrote b l (t ++ dotted ss) w) := by
  have Hss := Lib.hid hss
  obtain ⟨ao, cap, rfl, h1, h2, h3⟩ := hss
  clear h3
  obtain ⟨n, hn'⟩ : ∃ n, n = ss.length := ⟨_, rfl⟩
  rw [← hn'] at h1 h
  unfold maxLen at h2
  have Hn := Lib.hid hn'
  have Hlen := Lib.hid hlen
  obtain ⟨T, a, f, rfl, hm, he, hT, hta, hcall⟩ := node_writes B0 B x _ w hx
  have Hm := Lib.hid hm
  have He := Lib.hid he
  have c1 := hcall b l w (Below.refl _ _) hBb hb (by simp only [List.length_append] at hlen; omega)
  clear hn' hb hlen hx hm he hcall
  go_enter Try.func32, Try.ntmps32
  go_wp2_with fail
  rw [Hm.out]
  · simp only [Result.andThen]
    rw [He.out, Oper.upon_enter]
    refine c1.mono ?_
    rintro e w1 ⟨rfl, q1, q2⟩
    have h4 : w1.cell? ⟨N, 4, none⟩ = some (.slice ao n cap) := (q2.cell (p := ⟨N, 4, none⟩) (by show N < b; omega)).trans h
    have Q1 := Lib.hid (And.intro q1 q2)
    clear q1 q2 c1 hT hta
    go_wp2
    go_loopw [38] (fun i wr => ∃ k : Nat, k ≤ n ∧ i = .int .i64 k ∧ Hid (Holds b (l ++ t ++ dotted (ss.take k)) wr ∧ Below b w wr)) (fun i _ => n - (intOf i).toNat)
    case atStart => exact ⟨0, Nat.zero_le _, rfl, by simpa [dotted] using Q1.out.1, Q1.out.2⟩
    case round =>
      obtain ⟨k, hk, rfl, hW⟩ := hrel
      by_cases hlt : k < n
      · have hlt' : k < ss.length := by rw [← Hn.out]; exact hlt
        obtain ⟨_, _, hv, _, _, h3⟩ := Hss.out.below (hW.out.2.mono hBb)
        obtain ⟨c, off, hao, hcB, hc⟩ := h3 k hlt'
        obtain rfl : ao = some ⟨c, off, none⟩ := by injection hv with e1 _ _; rw [e1, hao]
        have hl := dotted_len ss k hlt'
        have hl2 := Hlen.out
        have c1 := put_dot b (l ++ t ++ dotted (ss.take k)) _ hW.out.1 (by simp at hl2 ⊢; omega)
        have e1 : Hid (l ++ t ++ dotted (ss.take (k + 1)) = l ++ t ++ dotted (ss.take k) ++ [46] ++ (ss.getD k .empty).data.toList) := by
          rw [Hid, dotted_take ss k hlt']; simp
        have hl3 : Hid ((l ++ t ++ dotted (ss.take k) ++ [46]).length + (ss.getD k .empty).data.toList.length ≤ 140737488355328) := by rw [Hid]; simp at hl hl2 ⊢; omega
        clear hv h3 hao hl hl2
        generalize ss.getD k .empty = s at hc e1 hl3
        go_wp2_with fail
        refine c1.mono ?_
        rintro e w' ⟨rfl, q1, q2⟩
        have c2 := put_string b _ s _ q1 hl3.out
        have hc' : w'.cell? ⟨c, off + k, none⟩ = some (.string s) := (q2.cell (p := ⟨c, off + k, none⟩) (by show c < b; omega)).trans hc
        have HW2 := Lib.hid (hW.out.2.trans q2)
        clear q1 q2 hW c1
        go_wp2_with fail
        refine c2.mono ?_
        rintro e w'' ⟨rfl, q3, q4⟩
        have HW3 := Lib.hid (HW2.out.trans q4)
        have Q3 := Lib.hid q3
        clear q3 q4 c2 HW2
        go_wp2
        go_roundw
        case rel => exact ⟨k + 1, by omega, by go_num, by rw [e1.out]; exact Q3.out, HW3.out⟩
        case measure => simp [intOf]; omega
      · have hkn : k = ss.length := by rw [← Hn.out]; omega
        have hE : Hid (Holds b (l ++ (t ++ dotted ss)) wr ∧ Below b w wr) := by
          have := hW.out
          rw [hkn, List.take_length, List.append_assoc] at this
          exact this
        clear hkn hW
        go_wp2
        go_end0
        exact ⟨rfl, hE.out.1, hE.out.2⟩
  · unfold IsWt; kernel_rfl

end Go.Proofs.Yteikiecbjjmkoaa
