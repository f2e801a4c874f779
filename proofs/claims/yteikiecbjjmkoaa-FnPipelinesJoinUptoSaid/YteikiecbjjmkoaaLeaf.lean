/- Nodes of a tree: what each kind holds in memory; String and writeTo of the operands and of texts. -/
import Derived.Test.YteikiecbjjmkoaaMem
import Derived.Test.YteikiecbjjmkoaaBld
import Derived.Test.YteikiecbjjmkoaaShelf
import Derived.Test.YteikiecbjjmkoaaPlain
namespace Go.Proofs.Yteikiecbjjmkoaa
open Go.RowKit Go.Proofs

/-- Block a, below B, is of type T and holds x in its cell j. -/
def Box (B a : Nat) (T : TypeId) (j : Nat) (x : Value) (w : World) : Prop := a < B ∧ ∃ cs fz, w.heap[a]? = some (.cells cs T fz) ∧ cs[j]? = some x

theorem Box.cell {B a : Nat} {T : TypeId} {j : Nat} {x : Value} {w : World} (h : Box B a T j x w) : w.cell? ⟨a, j, none⟩ = some x := by
  obtain ⟨_, cs, fz, h1, h2⟩ := h
  simp [World.cell?, h1, h2]

theorem Box.below {B a : Nat} {T : TypeId} {j : Nat} {x : Value} {w w' : World} (h : Box B a T j x w) (hb : Below B w w') : Box B a T j x w' := by
  obtain ⟨h0, cs, fz, h1, h2⟩ := h
  exact ⟨h0, cs, fz, (hb.block a h0).trans h1, h2⟩

theorem Box.mono {B B' a : Nat} {T : TypeId} {j : Nat} {x : Value} {w : World} (h : Box B a T j x w) (hB : B ≤ B') : Box B' a T j x w := ⟨Nat.lt_of_lt_of_le h.1 hB, h.2⟩

theorem Box.kept {B a N : Nat} {T e : TypeId} {j : Nat} {x : Value} {w w' : World} (h : Box B a T j x w) (hk : Lib.OthersKept e (some N) w w') (hT : T ≠ e) (hN : a ≠ N) : Box B a T j x w' := by
  obtain ⟨h0, cs, fz, h1, h2⟩ := h
  exact ⟨h0, cs, fz, hk a _ h1 (fun e => hN (Option.some.inj e)) (fun c fz' e => hT (by injection e)), h2⟩

/-! ### String and writeTo of the operands that are one value -/

theorem text_bool (a : Nat) (x : Bool) (w : World) (h : w.cell? ⟨a, 3, none⟩ = some (.bool x)) :
    Calls Try.prog 74 #[.pointer (some ⟨a, 0, none⟩)] w fun e w' => e = .returned (.string ⟨(boolText x).toArray⟩) ∧ w = w' := by
  cases x <;> (go_enter Try.func74, Try.ntmps74; go_wp2; go_ret; exact ⟨rfl, rfl⟩)

theorem text_string (a : Nat) (s : ByteArray) (w : World) (h : w.cell? ⟨a, 3, none⟩ = some (.string s)) :
    Calls Try.prog 78 #[.pointer (some ⟨a, 0, none⟩)] w fun e w' => e = .returned (.string s) ∧ w = w' := by
  go_enter Try.func78, Try.ntmps78; go_wp2; go_ret; exact ⟨rfl, rfl⟩

theorem text_number (a : Nat) (s : ByteArray) (w : World) (h : w.cell? ⟨a, 11, none⟩ = some (.string s)) :
    Calls Try.prog 82 #[.pointer (some ⟨a, 0, none⟩)] w fun e w' => e = .returned (.string s) ∧ w = w' := by
  go_enter Try.func82, Try.ntmps82; go_wp2; go_ret; exact ⟨rfl, rfl⟩

theorem text_ident (a : Nat) (s : ByteArray) (w : World) (h : w.cell? ⟨a, 3, none⟩ = some (.string s)) :
    Calls Try.prog 87 #[.pointer (some ⟨a, 0, none⟩)] w fun e w' => e = .returned (.string s) ∧ w = w' := by
  go_enter Try.func87, Try.ntmps87; go_wp2; go_ret; exact ⟨rfl, rfl⟩

theorem text_nil (a : Nat) (w : World) :
    Calls Try.prog 91 #[.pointer (some ⟨a, 0, none⟩)] w fun e w' => e = .returned (.string ⟨#[110, 105, 108]⟩) ∧ w = w' := by
  go_enter Try.func91, Try.ntmps91; go_wp2; go_ret; exact ⟨rfl, rfl⟩

theorem text_dot (a : Nat) (w : World) :
    Calls Try.prog 96 #[.pointer (some ⟨a, 0, none⟩)] w fun e w' => e = .returned (.string ⟨#[46]⟩) ∧ w = w' := by
  go_enter Try.func96, Try.ntmps96; go_wp2; go_ret; exact ⟨rfl, rfl⟩

/-- What a writeTo leaves: the builder holds t more. -/
def Wrote (b : Nat) (l t : List UInt8) (w : World) (e : Ending) (w' : World) : Prop := e = .returned (.tuple #[]) ∧ Holds b (l ++ t) w' ∧ Below b w w'

theorem put_bool (a b : Nat) (x : Bool) (l : List UInt8) (w : World) (h : w.cell? ⟨a, 3, none⟩ = some (.bool x)) (hb : Holds b l w) (hlen : l.length + (boolText x : List UInt8).length ≤ 140737488355328) :
    Calls Try.prog 76 #[.pointer (some ⟨a, 0, none⟩), .pointer (some ⟨b, 0, none⟩)] w (Wrote b l (boolText x) w) := by
  have c1 := text_bool a x w h
  have c2 := put_string b l ⟨(boolText x).toArray⟩ w hb (by simpa using hlen)
  generalize boolText x = t at c1 c2
  go_enter Try.func76, Try.ntmps76
  go_wp2_with fail
  refine c1.mono ?_
  rintro e w' ⟨rfl, rfl⟩
  go_wp2_with fail
  refine c2.mono ?_
  rintro e w' ⟨rfl, h1, h2⟩
  go_wp2
  go_end0
  exact ⟨rfl, by simpa using h1, h2⟩

theorem put_text_string (a b : Nat) (s : ByteArray) (l : List UInt8) (w : World) (h : w.cell? ⟨a, 3, none⟩ = some (.string s)) (hb : Holds b l w) (hlen : l.length + (s.data.toList : List UInt8).length ≤ 140737488355328) :
    Calls Try.prog 80 #[.pointer (some ⟨a, 0, none⟩), .pointer (some ⟨b, 0, none⟩)] w (Wrote b l (s.data.toList) w) := by
  have c1 := text_string a s w h
  have c2 := put_string b l s w hb (by simpa using hlen)
  go_enter Try.func80, Try.ntmps80
  go_wp2_with fail
  refine c1.mono ?_
  rintro e w' ⟨rfl, rfl⟩
  go_wp2_with fail
  refine c2.mono ?_
  rintro e w' ⟨rfl, h1, h2⟩
  go_wp2
  go_end0
  exact ⟨rfl, by simpa using h1, h2⟩

theorem put_number (a b : Nat) (s : ByteArray) (l : List UInt8) (w : World) (h : w.cell? ⟨a, 11, none⟩ = some (.string s)) (hb : Holds b l w) (hlen : l.length + (s.data.toList : List UInt8).length ≤ 140737488355328) :
    Calls Try.prog 85 #[.pointer (some ⟨a, 0, none⟩), .pointer (some ⟨b, 0, none⟩)] w (Wrote b l (s.data.toList) w) := by
  have c1 := text_number a s w h
  have c2 := put_string b l s w hb (by simpa using hlen)
  go_enter Try.func85, Try.ntmps85
  go_wp2_with fail
  refine c1.mono ?_
  rintro e w' ⟨rfl, rfl⟩
  go_wp2_with fail
  refine c2.mono ?_
  rintro e w' ⟨rfl, h1, h2⟩
  go_wp2
  go_end0
  exact ⟨rfl, by simpa using h1, h2⟩

theorem put_ident (a b : Nat) (s : ByteArray) (l : List UInt8) (w : World) (h : w.cell? ⟨a, 3, none⟩ = some (.string s)) (hb : Holds b l w) (hlen : l.length + (s.data.toList : List UInt8).length ≤ 140737488355328) :
    Calls Try.prog 89 #[.pointer (some ⟨a, 0, none⟩), .pointer (some ⟨b, 0, none⟩)] w (Wrote b l (s.data.toList) w) := by
  have c1 := text_ident a s w h
  have c2 := put_string b l s w hb (by simpa using hlen)
  go_enter Try.func89, Try.ntmps89
  go_wp2_with fail
  refine c1.mono ?_
  rintro e w' ⟨rfl, rfl⟩
  go_wp2_with fail
  refine c2.mono ?_
  rintro e w' ⟨rfl, h1, h2⟩
  go_wp2
  go_end0
  exact ⟨rfl, by simpa using h1, h2⟩

theorem put_nil (a b : Nat) (l : List UInt8) (w : World) (hb : Holds b l w) (hlen : l.length + ([110, 105, 108] : List UInt8).length ≤ 140737488355328) :
    Calls Try.prog 94 #[.pointer (some ⟨a, 0, none⟩), .pointer (some ⟨b, 0, none⟩)] w (Wrote b l ([110, 105, 108]) w) := by
  have c1 := text_nil a w
  have c2 := put_string b l ⟨#[110, 105, 108]⟩ w hb (by simpa using hlen)
  go_enter Try.func94, Try.ntmps94
  go_wp2_with fail
  refine c1.mono ?_
  rintro e w' ⟨rfl, rfl⟩
  go_wp2_with fail
  refine c2.mono ?_
  rintro e w' ⟨rfl, h1, h2⟩
  go_wp2
  go_end0
  exact ⟨rfl, by simpa using h1, h2⟩

theorem put_dot_node (a b : Nat) (l : List UInt8) (w : World) (hb : Holds b l w) (hlen : l.length + ([46] : List UInt8).length ≤ 140737488355328) :
    Calls Try.prog 99 #[.pointer (some ⟨a, 0, none⟩), .pointer (some ⟨b, 0, none⟩)] w (Wrote b l ([46]) w) := by
  have c1 := text_dot a w
  have c2 := put_string b l ⟨#[46]⟩ w hb (by simpa using hlen)
  go_enter Try.func99, Try.ntmps99
  go_wp2_with fail
  refine c1.mono ?_
  rintro e w' ⟨rfl, rfl⟩
  go_wp2_with fail
  refine c2.mono ?_
  rintro e w' ⟨rfl, h1, h2⟩
  go_wp2
  go_end0
  exact ⟨rfl, by simpa using h1, h2⟩

/-! ### Fields and variables -/

/-- FieldNode.writeTo: a dot and a name, each in turn. -/
theorem put_field (B a b : Nat) (ss : List ByteArray) (sv : Value) (l : List UInt8) (w : World) (h : w.cell? ⟨a, 3, none⟩ = some sv) (hss : Strs B ss sv w) (hBb : B ≤ b) (hb : Holds b l w) (hlen : l.length + (dotted ss).length ≤ 140737488355328) :
    Calls Try.prog 72 #[.pointer (some ⟨a, 0, none⟩), .pointer (some ⟨b, 0, none⟩)] w (Wrote b l (dotted ss) w) := by
  have Hss := Lib.hid hss
  obtain ⟨ao, cap, rfl, h1, h2, h3⟩ := hss
  clear h3
  obtain ⟨n, hn'⟩ : ∃ n, n = ss.length := ⟨_, rfl⟩
  rw [← hn'] at h1 h
  unfold maxLen at h2
  have Hn := Lib.hid hn'
  have Hb := Lib.hid hb
  have Hlen := Lib.hid hlen
  clear hn' hb hlen
  go_enter Try.func72, Try.ntmps72
  go_wp2
  go_loopw [11] (fun i wr => ∃ k : Nat, k ≤ n ∧ i = .int .i64 k ∧ Hid (Holds b (l ++ dotted (ss.take k)) wr ∧ Below b w wr)) (fun i _ => n - (intOf i).toNat)
  case atStart => exact ⟨0, Nat.zero_le _, rfl, by simpa [dotted] using Hb.out, Below.refl _ _⟩
  case round =>
    obtain ⟨k, hk, rfl, hW⟩ := hrel
    by_cases hlt : k < n
    · have hlt' : k < ss.length := by rw [← Hn.out]; exact hlt
      obtain ⟨_, _, hv, _, _, h3⟩ := Hss.out.below (hW.out.2.mono hBb)
      obtain ⟨c, off, hao, hcB, hc⟩ := h3 k hlt'
      obtain rfl : ao = some ⟨c, off, none⟩ := by injection hv with e1 _ _; rw [e1, hao]
      have hl := dotted_len ss k hlt'
      have hl2 := Hlen.out
      have c1 := put_dot b (l ++ dotted (ss.take k)) _ hW.out.1 (by simp; omega)
      have e1 : Hid (l ++ dotted (ss.take (k + 1)) = l ++ dotted (ss.take k) ++ [46] ++ (ss.getD k .empty).data.toList) := by
        rw [Hid, dotted_take ss k hlt']; simp
      have hl3 : Hid ((l ++ dotted (ss.take k) ++ [46]).length + (ss.getD k .empty).data.toList.length ≤ 140737488355328) := by rw [Hid]; simp at hl hl2 ⊢; omega
      clear hv h3 hao hl hl2
      generalize ss.getD k .empty = s at hc e1 hl3
      go_wp2_with fail
      refine c1.mono ?_
      rintro e w' ⟨rfl, q1, q2⟩
      have c2 := put_string b _ s _ q1 hl3.out
      have hc' : w'.cell? ⟨c, off + k, none⟩ = some (.string s) := (q2.cell (p := ⟨c, off + k, none⟩) (by show c < b; omega)).trans hc
      have HW2 := Lib.hid (hW.out.2.trans q2)
      clear q1 q2 hW c1
      go_wp2_with fail
      refine c2.mono ?_
      rintro e w'' ⟨rfl, q3, q4⟩
      have HW3 := Lib.hid (HW2.out.trans q4)
      have Q3 := Lib.hid q3
      clear q3 q4 c2 HW2
      go_wp2
      go_roundw
      case rel => exact ⟨k + 1, by omega, by go_num, by rw [e1.out]; exact Q3.out, HW3.out⟩
      case measure => simp [intOf]; omega
    · have hkn : k = ss.length := by rw [← Hn.out]; omega
      have hE : Hid (Holds b (l ++ dotted ss) wr ∧ Below b w wr) := by
        have := hW.out
        rw [hkn, List.take_length] at this
        exact this
      clear hkn hW
      go_wp2
      go_end0
      exact ⟨rfl, hE.out.1, hE.out.2⟩

set_option maxHeartbeats 400000 in
/-- VariableNode.writeTo: the names, a dot between. -/
theorem put_variable (B a b : Nat) (ss : List ByteArray) (sv : Value) (l : List UInt8) (w : World) (h : w.cell? ⟨a, 3, none⟩ = some sv) (hss : Strs B ss sv w) (hBb : B ≤ b) (hb : Holds b l w) (hlen : l.length + (varText ss).length ≤ 140737488355328) :
    Calls Try.prog 37 #[.pointer (some ⟨a, 0, none⟩), .pointer (some ⟨b, 0, none⟩)] w (Wrote b l (varText ss) w) := by
  have Hss := Lib.hid hss
  obtain ⟨ao, cap, rfl, h1, h2, h3⟩ := hss
  clear h3
  obtain ⟨n, hn'⟩ : ∃ n, n = ss.length := ⟨_, rfl⟩
  rw [← hn'] at h1 h
  unfold maxLen at h2
  have Hn := Lib.hid hn'
  have Hb := Lib.hid hb
  have Hlen := Lib.hid hlen
  clear hn' hb hlen
  go_enter Try.func37, Try.ntmps37
  go_wp2
  go_loopw [11] (fun i wr => ∃ k : Nat, k ≤ n ∧ i = .int .i64 k ∧ Hid (Holds b (l ++ varText (ss.take k)) wr ∧ Below b w wr)) (fun i _ => n - (intOf i).toNat)
  case atStart => exact ⟨0, Nat.zero_le _, rfl, by simpa [varText] using Hb.out, Below.refl _ _⟩
  case round =>
    obtain ⟨k, hk, rfl, hW⟩ := hrel
    by_cases hlt : k < n
    · have hlt' : k < ss.length := by rw [← Hn.out]; exact hlt
      obtain ⟨_, _, hv, _, _, h3⟩ := Hss.out.below (hW.out.2.mono hBb)
      obtain ⟨c, off, hao, hcB, hc⟩ := h3 k hlt'
      obtain rfl : ao = some ⟨c, off, none⟩ := by injection hv with e1 _ _; rw [e1, hao]
      have hl := varText_len ss k hlt'
      have hl2 := Hlen.out
      by_cases hk0 : k = 0
      · subst hk0
        have e1 : Hid (l ++ varText (ss.take (0 + 1)) = l ++ varText (ss.take 0) ++ (ss.getD 0 .empty).data.toList) := by
          rw [Hid, Nat.zero_add, varText_take_one ss hlt']; simp [varText]
        have hl3 : (l ++ varText (ss.take 0)).length + (ss.getD 0 .empty).data.toList.length ≤ 140737488355328 := by simp at hl hl2 ⊢; omega
        clear hv h3 hao hl hl2
        rw [Nat.add_zero] at hc
        generalize ss.getD 0 .empty = s at hc e1 hl3
        have c2 := put_string b _ s _ hW.out.1 hl3
        clear hl3
        go_wp2_with fail
        refine c2.mono ?_
        rintro e w'' ⟨rfl, q3, q4⟩
        have HW3 := Lib.hid (hW.out.2.trans q4)
        have Q3 := Lib.hid q3
        clear q3 q4 c2 hW
        go_wp2
        go_roundw
        case rel => exact ⟨0 + 1, by omega, by go_num, by rw [e1.out]; exact Q3.out, HW3.out⟩
        case measure => simp [intOf]; omega
      · have hk1 : 0 < k := by omega
        have c1 := put_dot b (l ++ varText (ss.take k)) _ hW.out.1 (by simp [hk0] at hl ⊢; omega)
        have e1 : Hid (l ++ varText (ss.take (k + 1)) = l ++ varText (ss.take k) ++ [46] ++ (ss.getD k .empty).data.toList) := by
          rw [Hid, varText_take ss k hk1 hlt']; simp
        have hl3 : Hid ((l ++ varText (ss.take k) ++ [46]).length + (ss.getD k .empty).data.toList.length ≤ 140737488355328) := by rw [Hid]; simp [hk0] at hl hl2 ⊢; omega
        clear hv h3 hao hl hl2 hk0
        generalize ss.getD k .empty = s at hc e1 hl3
        go_wp2_with fail
        refine c1.mono ?_
        rintro e w' ⟨rfl, q1, q2⟩
        have c2 := put_string b _ s _ q1 hl3.out
        have hc' : w'.cell? ⟨c, off + k, none⟩ = some (.string s) := (q2.cell (p := ⟨c, off + k, none⟩) (by show c < b; omega)).trans hc
        have HW2 := Lib.hid (hW.out.2.trans q2)
        clear q1 q2 hW c1
        go_wp2_with fail
        refine c2.mono ?_
        rintro e w'' ⟨rfl, q3, q4⟩
        have HW3 := Lib.hid (HW2.out.trans q4)
        have Q3 := Lib.hid q3
        clear q3 q4 c2 HW2
        go_wp2
        go_roundw
        case rel => exact ⟨k + 1, by omega, by go_num, by rw [e1.out]; exact Q3.out, HW3.out⟩
        case measure => simp [intOf]; omega
    · have hkn : k = ss.length := by rw [← Hn.out]; omega
      have hE : Hid (Holds b (l ++ varText ss) wr ∧ Below b w wr) := by
        have := hW.out
        rw [hkn, List.take_length] at this
        exact this
      clear hkn hW
      go_wp2
      go_end0
      exact ⟨rfl, hE.out.1, hE.out.2⟩

/-! ### Texts -/

/-- The value v reads as the bytes l in w; the cells lie below block B, in a row of bytes. -/
def Bytes (B : Nat) (l : List UInt8) (v : Value) (w : World) : Prop :=
  ∃ ao cap, v = .slice ao l.length cap ∧ l.length ≤ cap ∧ cap ≤ maxLen ∧ (l ≠ [] → ∃ c off cs fz, ao = some ⟨c, off, none⟩ ∧ c < B ∧ w.heap[c]? = some (.cells cs 5 fz) ∧ ∀ i (h : i < l.length), cs[off + i]? = some (.int .u8 (l[i].toNat : Int)))

theorem Bytes.below {B : Nat} {l : List UInt8} {v : Value} {w w' : World} (h : Bytes B l v w) (hb : Below B w w') : Bytes B l v w' := by
  obtain ⟨ao, cap, hv, h1, h2, h3⟩ := h
  refine ⟨ao, cap, hv, h1, h2, fun hl => ?_⟩
  obtain ⟨c, off, cs, fz, hao, hc, hh, hi⟩ := h3 hl
  exact ⟨c, off, cs, fz, hao, hc, (hb.block c hc).trans hh, hi⟩

theorem Bytes.mono {B B' : Nat} {l : List UInt8} {v : Value} {w : World} (h : Bytes B l v w) (hB : B ≤ B') : Bytes B' l v w := by
  obtain ⟨ao, cap, hv, h1, h2, h3⟩ := h
  refine ⟨ao, cap, hv, h1, h2, fun hl => ?_⟩
  obtain ⟨c, off, cs, fz, hao, hc, hh, hi⟩ := h3 hl
  exact ⟨c, off, cs, fz, hao, by omega, hh, hi⟩

theorem Bytes.kept {B N e : Nat} {l : List UInt8} {v : Value} {w w' : World} (h : Bytes B l v w) (hk : Lib.OthersKept e (some N) w w') (he : (5 : Nat) ≠ e) (hN : ∀ cs fz, w.heap[N]? ≠ some (.cells cs 5 fz)) : Bytes B l v w' := by
  obtain ⟨ao, cap, hv, h1, h2, h3⟩ := h
  refine ⟨ao, cap, hv, h1, h2, fun hl => ?_⟩
  obtain ⟨c, off, cs, fz, hao, hc, hh, hi⟩ := h3 hl
  refine ⟨c, off, cs, fz, hao, hc, hk c _ hh (fun e1 => ?_) (fun c' fz' e1 => he (by injection e1)), hi⟩
  obtain rfl : c = N := Option.some.inj e1
  exact hN cs fz hh

theorem text_text (B a : Nat) (l : List UInt8) (sv : Value) (w : World) (h : w.cell? ⟨a, 3, none⟩ = some sv) (hs : Bytes B l sv w) :
    Calls Try.prog 58 #[.pointer (some ⟨a, 0, none⟩)] w fun e w' => e = .returned (.string ⟨l.toArray⟩) ∧ w = w' := by
  obtain ⟨ao, cap, rfl, h1, h2, h3⟩ := hs
  clear h2
  have hcv : (convert 49 9 (.slice ao l.length cap)).run Try.prog w = .ok (.string ⟨l.toArray⟩) w := by
    by_cases hl : l = []
    · subst hl
      cases ao with
      | none =>
        rw [run_convert_bytes_string w 49 9 5 none ([] : List UInt8).length cap Try.underlying49 Try.underlying5 Try.underlying9]
        simp [Conv.bytesToString]
        rfl
      | some a => exact run_convert_bytes_back w 49 9 5 a cap [] Try.underlying49 Try.underlying5 Try.underlying9 fun j hj => absurd hj (Nat.not_lt_zero _)
    · obtain ⟨c, off, cs, fz, rfl, _, hh, hi⟩ := h3 hl
      refine run_convert_bytes_back w 49 9 5 ⟨c, off, none⟩ cap l Try.underlying49 Try.underlying5 Try.underlying9 fun j hj => ?_
      rw [Addr.add_lit, Lib.cell_of_heap hh]
      exact hi j hj
  clear h3
  generalize hn : l.length = n at *
  generalize (ByteArray.mk l.toArray) = s at *
  have Hn := Lib.hid hn
  clear hn h1
  go_enter Try.func58, Try.ntmps58
  go_wp2
  go_ret
  exact ⟨rfl, rfl⟩

theorem put_text (B a b : Nat) (t : List UInt8) (sv : Value) (l : List UInt8) (w : World) (h : w.cell? ⟨a, 3, none⟩ = some sv) (hs : Bytes B t sv w) (hb : Holds b l w) (hlen : l.length + t.length ≤ 140737488355328) :
    Calls Try.prog 59 #[.pointer (some ⟨a, 0, none⟩), .pointer (some ⟨b, 0, none⟩)] w (Wrote b l t w) := by
  have c1 := text_text B a t sv w h hs
  have c2 := put_string b l ⟨t.toArray⟩ w hb (by simpa using hlen)
  clear h hs
  generalize hx : (ByteArray.mk t.toArray) = s at c1 c2
  have ht : s.data.toList = t := by subst hx; simp
  have Ht := Lib.hid ht
  clear hx ht hlen
  go_enter Try.func59, Try.ntmps59
  go_wp2_with fail
  refine c1.mono ?_
  rintro e w' ⟨rfl, rfl⟩
  go_wp2_with fail
  refine c2.mono ?_
  rintro e w' ⟨rfl, h1, h2⟩
  go_wp2
  go_end0
  exact ⟨rfl, by rw [← Ht.out]; exact h1, h2⟩

end Go.Proofs.Yteikiecbjjmkoaa
