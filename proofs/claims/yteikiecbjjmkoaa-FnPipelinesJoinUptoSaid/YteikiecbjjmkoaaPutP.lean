/- writeTo of a pipeline: what it lays into the builder. -/
import Derived.Test.YteikiecbjjmkoaaPut
import Derived.Test.YteikiecbjjmkoaaPipe
import Derived.Test.YteikiecbjjmkoaaCmds
namespace Go.Proofs.Yteikiecbjjmkoaa
open Go.RowKit Go.Proofs

theorem IsVar.lt {B a : Nat} {s : ByteArray} {w : World} (h : IsVar B (.pointer (some ⟨a, 0, none⟩)) s w) : a < B := by
  obtain ⟨a', c, fz, hx, h1, _⟩ := h
  injection hx with e
  injection e with e
  injection e with e _ _
  subst e
  exact h1.1

theorem IsCmd.lt {B0 B N : Nat} {ts : List (List UInt8)} {w : World} (h : IsCmd B0 B (.pointer (some ⟨N, 0, none⟩)) ts w) : N < B := by
  obtain ⟨N', v, vs, hx, h1, _⟩ := h
  injection hx with e
  injection e with e
  injection e with e _ _
  subst e
  exact h1

set_option maxRecDepth 100000 in
set_option maxHeartbeats 2000000 in
/-- PipeNode.writeTo: the variables with the sign behind, then the commands. -/
theorem put_pipe (B0 B P b : Nat) (ds : List ByteArray) (asg : Bool) (tss : List (List (List UInt8))) (dv cv : Value) (l : List UInt8) (w : World)
    (h4 : w.cell? ⟨P, 4, none⟩ = some (.bool asg)) (h5 : w.cell? ⟨P, 5, none⟩ = some dv) (h6 : w.cell? ⟨P, 6, none⟩ = some cv) (hd : Vars B ds dv w) (hc : CmdNodes B0 B tss cv w) (hPB : P < B) (hBb : B ≤ b) (hb : Holds b l w)
    (hlen : l.length + (declText ds asg ++ sepBy [32, 124, 32] (tss.map (sepBy [32]))).length ≤ 140737488355328) :
    Calls Try.prog 34 #[.pointer (some ⟨P, 0, none⟩), .pointer (some ⟨b, 0, none⟩)] w (Wrote b l (declText ds asg ++ sepBy [32, 124, 32] (tss.map (sepBy [32]))) w) := by
  have Hvs := Lib.hid hd
  have Hcs := Lib.hid hc
  obtain ⟨aod, capd, rfl, d1, d2, d3⟩ := hd
  obtain ⟨ao, cap, rfl, h1, h2, h3⟩ := hc
  clear h3 d3
  unfold maxLen at h2 d2
  obtain ⟨us, hus⟩ : ∃ us, us = ds.map fun s => s.data.toList := ⟨_, rfl⟩
  obtain ⟨ts, hts⟩ : ∃ ts, ts = tss.map (sepBy [32]) := ⟨_, rfl⟩
  have hul : (sepBy [44, 32] us).length ≤ (declText ds asg).length := by rw [hus]; exact declText_len ds asg
  obtain ⟨dl, hdl⟩ : ∃ dl, dl = declText ds asg := ⟨_, rfl⟩
  rw [← hdl] at hul
  rw [← hdl, ← hts] at hlen ⊢
  have Hul : Hid (l.length + (sepBy [44, 32] us).length ≤ 140737488355328) := by rw [Hid]; simp only [List.length_append] at hlen; omega
  have Hdl : Hid (dl = if ds.length = 0 then [] else sepBy [44, 32] us ++ (if asg then [32, 61, 32] else [32, 58, 61, 32])) := by
    rw [Hid, hdl, hus]
    unfold declText
    by_cases e : ds = []
    · subst e; simp
    · have e' : ¬ ds.length = 0 := by simpa using e
      rw [if_neg e, if_neg e']
  have Hul2 : Hid (us.length = ds.length) := by rw [Hid, hus]; simp
  have Hug : Hid (∀ k, k < ds.length → us.getD k [] = (ds.getD k .empty).data.toList) := fun k hk => by
    rw [hus]; simp only [List.getD_eq_getElem?_getD, List.getElem?_map, List.getElem?_eq_getElem hk, Option.map_some, Option.getD_some]
  have hm' : ∃ m, m = ds.length := ⟨_, rfl⟩
  obtain ⟨m, hm'⟩ := hm'
  rw [← hm'] at d1 h5 Hdl Hul2 Hug
  have hn' : ∃ n, n = tss.length := ⟨_, rfl⟩
  obtain ⟨n, hn'⟩ := hn'
  rw [← hn'] at h1 h6
  have Hm := Lib.hid hm'
  have Hn := Lib.hid hn'
  have Hts := Lib.hid hts
  have Hl := Lib.hid hlen
  have Hb := Lib.hid hb
  have K : Hid (∀ W, Below b w W → W.cell? ⟨P, 4, none⟩ = some (.bool asg) ∧ W.cell? ⟨P, 6, none⟩ = some (.slice ao n cap)) := fun W hW =>
    ⟨(hW.cell (p := ⟨P, 4, none⟩) (by show P < b; omega)).trans h4, (hW.cell (p := ⟨P, 6, none⟩) (by show P < b; omega)).trans h6⟩
  clear hm' hn' hts hlen hus hdl hul hb
  have hcases : (m = 0 ∧ Hid (dl = [])) ∨ (0 < m ∧ Hid (dl = sepBy [44, 32] us ++ (if asg then [32, 61, 32] else [32, 58, 61, 32]))) := by
    have hh := Hdl.out
    by_cases hm0 : m = 0
    · exact .inl ⟨hm0, by rw [Hid, hh, if_pos hm0]⟩
    · exact .inr ⟨by omega, by rw [Hid, hh, if_neg hm0]⟩
  clear Hdl
  go_enter Try.func34, Try.ntmps34
  refine hcases.elim ?m0 ?m1
  case' m0 =>
    rintro ⟨hm0, E⟩
    have Q : Hid (Holds b (l ++ dl) w ∧ Below b w w) := ⟨by rw [E.out]; simpa using Hb.out, Below.refl _ _⟩
    clear hcases
    go_wp2
  case' m1 =>
    rintro ⟨hm0, E⟩
    clear hcases
    go_wp2
    go_loopw [19] (fun i wr => ∃ k : Nat, k ≤ m ∧ i = .int .i64 k ∧ Hid (Holds b (l ++ sepBy [44, 32] (us.take k)) wr ∧ Below b w wr)) (fun i _ => m - (intOf i).toNat)
    case atStart => exact ⟨0, Nat.zero_le _, rfl, by simpa [sepBy] using Hb.out, Below.refl _ _⟩
    obtain ⟨k, hk, rfl, hW⟩ := hrel
    by_cases hlt : k < m
    · have hlt' : k < ds.length := by rw [← Hm.out]; exact hlt
      have hltt : k < us.length := by rw [Hul2.out]; exact hlt
      obtain ⟨_, _, hv, _, _, h3⟩ := Hvs.out.below (hW.out.2.mono hBb)
      obtain ⟨c, off, x, hao, hcB, hcc, hx⟩ := h3 k hlt'
      obtain rfl : aod = some ⟨c, off, none⟩ := by injection hv with e1 _ _; rw [e1, hao]
      have hx2 := hx.strs
      obtain ⟨a, sv, rfl, hsv, hss⟩ := hx2
      have haB : a < B := IsVar.lt hx
      have hl := sepBy_len [44, 32] us k hltt
      have hl2 := Hul.out
      have hg := Hug.out k hlt
      have hvt : varText [ds.getD k .empty] = us.getD k [] := by rw [hg]; simp [varText, dotted]
      by_cases hk0 : k = 0
      · subst hk0
        have e1 : Hid (l ++ sepBy [44, 32] (us.take (0 + 1)) = l ++ sepBy [44, 32] (us.take 0) ++ us.getD 0 []) := by
          rw [Hid, Nat.zero_add, sepBy_take_one [44, 32] us hltt]; simp [sepBy]
        have c1 := put_variable B a b [ds.getD 0 .empty] sv (l ++ sepBy [44, 32] (us.take 0)) wr hsv hss hBb hW.out.1 (by rw [hvt]; simp at hl ⊢; omega)
        rw [hvt] at c1
        rw [Nat.add_zero] at hcc
        clear hv h3 hao hl hl2 hx hg hvt hss
        generalize us.getD 0 [] = t at c1 e1
        go_wp2_with fail
        refine c1.mono ?_
        rintro e w' ⟨rfl, q1, q2⟩
        have HW2 := Lib.hid (hW.out.2.trans q2)
        have Q1 := Lib.hid q1
        clear q1 q2 hW c1
        go_wp2
        go_roundw
        case rel => exact ⟨0 + 1, by omega, by go_num, by rw [e1.out]; exact Q1.out, HW2.out⟩
        case measure => simp [intOf]; omega
      · have hk1 : 0 < k := by omega
        have e1 : Hid (l ++ sepBy [44, 32] (us.take (k + 1)) = l ++ sepBy [44, 32] (us.take k) ++ [44, 32] ++ us.getD k []) := by
          rw [Hid, sepBy_take [44, 32] us k hk1 hltt]; simp
        have c0 := put_string b (l ++ sepBy [44, 32] (us.take k)) ⟨#[44, 32]⟩ _ hW.out.1 (by simp [hk0] at hl ⊢; omega)
        have hl3 : Hid ((l ++ sepBy [44, 32] (us.take k) ++ [44, 32]).length + (us.getD k []).length ≤ 140737488355328) := by rw [Hid]; simp [hk0] at hl hl2 ⊢; omega
        clear hv h3 hao hl hl2 hx hk0 hg
        generalize us.getD k [] = t at e1 hl3 hvt
        go_wp2_with fail
        refine c0.mono ?_
        rintro e w' ⟨rfl, q1, q2⟩
        have c1 := put_variable B a b [ds.getD k .empty] sv _ w' ((q2.cell (p := ⟨a, 3, none⟩) (by show a < b; omega)).trans hsv) (hss.below (q2.mono hBb)) hBb q1 (by rw [hvt]; exact hl3.out)
        rw [hvt] at c1
        have HW1 := Lib.hid (hW.out.2.trans q2)
        clear q1 q2 hW c0 hss hsv
        go_wp2_with fail
        refine c1.mono ?_
        rintro e w'' ⟨rfl, q1, q2⟩
        have HW2 := Lib.hid (HW1.out.trans q2)
        have Q1 := Lib.hid q1
        clear q1 q2 HW1 c1
        go_wp2
        go_roundw
        case rel => exact ⟨k + 1, by omega, by go_num, by rw [e1.out]; exact Q1.out, HW2.out⟩
        case measure => simp [intOf]; omega
    have hkn : k = us.length := by rw [Hul2.out]; omega
    have Q1 : Hid (Holds b (l ++ sepBy [44, 32] us) wr ∧ Below b w wr) := by
      have := hW.out
      rw [hkn, List.take_length] at this
      exact this
    obtain ⟨k4, k6⟩ := K.out wr Q1.out.2
    have hl2 := Hl.out
    have e2 := E.out
    clear hkn hW
    cases asg
    case' false =>
      have c2 := put_string b (l ++ sepBy [44, 32] us) ⟨#[32, 58, 61, 32]⟩ wr Q1.out.1 (by rw [e2] at hl2; simp at hl2 ⊢; omega)
      clear hl2 e2
      go_wp2_with fail
      refine c2.mono ?_
      rintro e w2 ⟨rfl, q1, q2⟩
      have Q : Hid (Holds b (l ++ dl) w2 ∧ Below b w w2) := ⟨by rw [E.out, ← List.append_assoc]; exact q1, Q1.out.2.trans q2⟩
      have k62 := (K.out w2 Q.out.2).2
      clear q1 q2 c2 k4 k6
      go_wp2
    case' true =>
      have c2 := put_string b (l ++ sepBy [44, 32] us) ⟨#[32, 61, 32]⟩ wr Q1.out.1 (by rw [e2] at hl2; simp at hl2 ⊢; omega)
      clear hl2 e2
      go_wp2_with fail
      refine c2.mono ?_
      rintro e w2 ⟨rfl, q1, q2⟩
      have Q : Hid (Holds b (l ++ dl) w2 ∧ Below b w w2) := ⟨by rw [E.out, ← List.append_assoc]; exact q1, Q1.out.2.trans q2⟩
      have k62 := (K.out w2 Q.out.2).2
      clear q1 q2 c2 k4 k6
      go_wp2
  all_goals
    go_loopw [45] (fun i wr => ∃ k : Nat, k ≤ n ∧ i = .int .i64 k ∧ Hid (Holds b (l ++ dl ++ sepBy [32, 124, 32] (ts.take k)) wr ∧ Below b w wr)) (fun i _ => n - (intOf i).toNat)
    case atStart => exact ⟨0, Nat.zero_le _, rfl, by simpa [sepBy] using Q.out.1, Q.out.2⟩
    case round =>
      obtain ⟨k, hk, rfl, hW⟩ := hrel
      by_cases hlt : k < n
      · have hlt' : k < tss.length := by rw [← Hn.out]; exact hlt
        have hltt : k < ts.length := by rw [Hts.out]; simpa using hlt'
        obtain ⟨_, _, hv, _, _, h3⟩ := Hcs.out.below (hW.out.2.mono hBb)
        obtain ⟨c, off, x, hao, hcB, hcc, hx⟩ := h3 k hlt'
        obtain rfl : ao = some ⟨c, off, none⟩ := by injection hv with e1 _ _; rw [e1, hao]
        obtain ⟨N, sv, rfl, hsv, hnodes⟩ := hx.nodes
        have hl := sepBy_len [32, 124, 32] ts k hltt
        have hl2 := Hl.out
        have htk : sepBy [32] (tss.getD k []) = ts.getD k [] := by
          rw [Hts.out]
          simp only [List.getD_eq_getElem?_getD, List.getElem?_map, List.getElem?_eq_getElem hlt', Option.map_some, Option.getD_some]
        by_cases hk0 : k = 0
        · subst hk0
          have e1 : Hid (l ++ dl ++ sepBy [32, 124, 32] (ts.take (0 + 1)) = l ++ dl ++ sepBy [32, 124, 32] (ts.take 0) ++ ts.getD 0 []) := by
            rw [Hid, Nat.zero_add, sepBy_take_one [32, 124, 32] ts hltt]; simp [sepBy]
          have c1 := put_command B0 B N b (tss.getD 0 []) sv (l ++ dl ++ sepBy [32, 124, 32] (ts.take 0)) wr hsv hnodes hBb hW.out.1 (by rw [htk]; simp at hl hl2 ⊢; omega)
          rw [htk] at c1
          rw [Nat.add_zero] at hcc
          clear hv h3 hao hl hl2 hx htk hnodes
          generalize ts.getD 0 [] = t at c1 e1
          go_wp2_with fail
          refine c1.mono ?_
          rintro e w' ⟨rfl, q1, q2⟩
          have HW2 := Lib.hid (hW.out.2.trans q2)
          have Q1 := Lib.hid q1
          clear q1 q2 hW c1
          go_wp2
          go_roundw
          case rel => exact ⟨0 + 1, by omega, by go_num, by rw [e1.out]; exact Q1.out, HW2.out⟩
          case measure => simp [intOf]; omega
        · have hk1 : 0 < k := by omega
          have e1 : Hid (l ++ dl ++ sepBy [32, 124, 32] (ts.take (k + 1)) = l ++ dl ++ sepBy [32, 124, 32] (ts.take k) ++ [32, 124, 32] ++ ts.getD k []) := by
            rw [Hid, sepBy_take [32, 124, 32] ts k hk1 hltt]; simp
          have c0 := put_string b (l ++ dl ++ sepBy [32, 124, 32] (ts.take k)) ⟨#[32, 124, 32]⟩ _ hW.out.1 (by simp [hk0] at hl hl2 ⊢; omega)
          have hl3 : Hid ((l ++ dl ++ sepBy [32, 124, 32] (ts.take k) ++ [32, 124, 32]).length + (ts.getD k []).length ≤ 140737488355328) := by rw [Hid]; simp [hk0] at hl hl2 ⊢; omega
          have hNB : N < B := IsCmd.lt hx
          clear hv h3 hao hl hl2 hx hk0
          generalize ts.getD k [] = t at e1 hl3 htk
          go_wp2_with fail
          refine c0.mono ?_
          rintro e w' ⟨rfl, q1, q2⟩
          have c1 := put_command B0 B N b (tss.getD k []) sv _ w' ((q2.cell (p := ⟨N, 3, none⟩) (by show N < b; omega)).trans hsv) (hnodes.below (q2.mono hBb)) hBb q1 (by rw [htk]; exact hl3.out)
          rw [htk] at c1
          have HW1 := Lib.hid (hW.out.2.trans q2)
          clear q1 q2 hW c0 hnodes hsv
          go_wp2_with fail
          refine c1.mono ?_
          rintro e w'' ⟨rfl, q1, q2⟩
          have HW2 := Lib.hid (HW1.out.trans q2)
          have Q1 := Lib.hid q1
          clear q1 q2 HW1 c1
          go_wp2
          go_roundw
          case rel => exact ⟨k + 1, by omega, by go_num, by rw [e1.out]; exact Q1.out, HW2.out⟩
          case measure => simp [intOf]; omega
      · have hkn : k = ts.length := by rw [Hts.out]; simp only [List.length_map]; rw [← Hn.out]; omega
        have hE : Hid (Holds b (l ++ (dl ++ sepBy [32, 124, 32] ts)) wr ∧ Below b w wr) := by
          have := hW.out
          rw [hkn, List.take_length, List.append_assoc] at this
          exact this
        clear hkn hW
        go_wp2
        go_end0
        exact ⟨rfl, hE.out.1, hE.out.2⟩

end Go.Proofs.Yteikiecbjjmkoaa
