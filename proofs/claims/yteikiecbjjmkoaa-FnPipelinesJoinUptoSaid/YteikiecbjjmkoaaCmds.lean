/- Lists of commands: the size check, and the reference's text of a pipeline. -/
import Derived.Test.YteikiecbjjmkoaaCmd
namespace Go.Proofs.Yteikiecbjjmkoaa
open Go.RowKit Go.Proofs

/-- The value v reads as the commands cs; all cells lie below block B. -/
def Cmds (B : Nat) (cs : List (List Part)) (v : Value) (w : World) : Prop :=
  ∃ ao cap, v = .slice ao cs.length cap ∧ cs.length ≤ cap ∧ cap ≤ maxLen ∧ ∀ i, i < cs.length → ∃ b off x, ao = some ⟨b, off, none⟩ ∧ b < B ∧ w.cell? ⟨b, off + i, none⟩ = some x ∧ Parts B (cs.getD i []) x w

theorem Cmds.below {B : Nat} {cs : List (List Part)} {v : Value} {w w' : World} (h : Cmds B cs v w) (hb : Below B w w') : Cmds B cs v w' := by
  obtain ⟨ao, cap, hv, h1, h2, h3⟩ := h
  refine ⟨ao, cap, hv, h1, h2, fun i hi => ?_⟩
  obtain ⟨b, off, x, hao, hbB, c, hs⟩ := h3 i hi
  exact ⟨b, off, x, hao, hbB, (hb.cell (p := ⟨b, _, none⟩) hbB).trans c, hs.below hb⟩

theorem Cmds.mono {B B' : Nat} {cs : List (List Part)} {v : Value} {w : World} (h : Cmds B cs v w) (hB : B ≤ B') : Cmds B' cs v w := by
  obtain ⟨ao, cap, hv, h1, h2, h3⟩ := h
  refine ⟨ao, cap, hv, h1, h2, fun i hi => ?_⟩
  obtain ⟨b, off, x, hao, hbB, c, hs⟩ := h3 i hi
  exact ⟨b, off, x, hao, by omega, c, hs.mono hB⟩

theorem Cmds.nil (B : Nat) (w : World) : Cmds B [] (.slice none 0 0) w := ⟨none, 0, rfl, Nat.le_refl _, by unfold maxLen; omega, fun i hi => absurd hi (Nat.not_lt_zero _)⟩

set_option maxRecDepth 100000 in
set_option maxHeartbeats 1000000 in
/-- zzFits8. -/
theorem fits8 (B : Nat) (cs : List (List Part)) (v : Value) (w : World) (h : Cmds B cs v w) (hB : B ≤ w.heap.size) (hn : cs.length ≤ 2147483647) (hs : ∀ ps ∈ cs, ps.length ≤ 2147483647 ∧ ∀ p ∈ ps, SmallPart 2147483647 p) :
    Calls Try.prog 19 #[v] w fun e w' => e = .returned (.bool true) ∧ Below w.heap.size w w' := by
  have Hp := Lib.hid h
  obtain ⟨ao, cap, rfl, h1, h2, h3⟩ := h
  clear h3
  unfold maxLen at h2
  obtain ⟨n, hn'⟩ : ∃ n, n = cs.length := ⟨_, rfl⟩
  rw [← hn'] at h1 hn
  rw [← hn']
  have Hn := Lib.hid hn'
  have Hs := Lib.hid hs
  clear hn' hs
  go_enter Try.func19, Try.ntmps19
  go_wp2
  go_loopw [10] (fun i wr => ∃ k : Nat, k ≤ n ∧ i = .int .i64 k ∧ Hid (Below w.heap.size w wr)) (fun i _ => n - (intOf i).toNat)
  case atStart => exact ⟨0, Nat.zero_le _, rfl, Below.refl _ _⟩
  case round =>
    obtain ⟨k, hk, rfl, hW⟩ := hrel
    by_cases hlt : k < n
    · have hlt' : k < cs.length := by rw [← Hn.out]; exact hlt
      obtain ⟨_, _, hv, _, _, h3⟩ := Hp.out.below (hW.out.mono hB)
      obtain ⟨b, off, x, hao, hbB, hc, hx⟩ := h3 k hlt'
      obtain rfl : ao = some ⟨b, off, none⟩ := by injection hv with e1 _ _; rw [e1, hao]
      have hsm := Hs.out _ (mem_getD (d := []) hlt')
      have hBr : B ≤ wr.heap.size := Nat.le_trans hB hW.out.size
      have f1 := fits7 B (cs.getD k []) x wr hx hBr hsm.1 hsm.2
      obtain ⟨ao2, cap2, rfl, -⟩ := hx
      clear hv h3 hao hsm
      generalize (cs.getD k []).length = nl at *
      go_wp2_with fail
      refine f1.mono ?_
      rintro e w2 ⟨rfl, q1⟩
      have HW3 := Lib.hid (hW.out.trans (q1.mono hW.out.size))
      clear q1 f1 hW
      go_wp2
      go_roundw
      case rel => exact ⟨k + 1, by omega, by go_num, HW3.out⟩
      case measure => simp [intOf]; omega
    · go_wp2
      go_ret
      exact ⟨rfl, hW.out⟩

/-- A command that the walks can print. -/
def Okc (ps : List Part) : Prop := (∀ p ∈ ps, Okp p) ∧ (commandText ps).length ≤ 1000000000

theorem declText_len (ds : List ByteArray) (asg : Bool) : (sepBy [44, 32] (ds.map fun s => s.data.toList)).length ≤ (declText ds asg).length := by
  unfold declText
  by_cases h : ds = []
  · subst h; simp [sepBy]
  · rw [if_neg h]; simp

set_option maxRecDepth 100000 in
set_option maxHeartbeats 2000000 in
/-- spec.PipelineText. -/
theorem pipeline_text (B : Nat) (ds : List ByteArray) (asg : Bool) (cs : List (List Part)) (dv v : Value) (w : World) (hd : Strs B ds dv w) (h : Cmds B cs v w) (hB : B ≤ w.heap.size) (hs : ∀ ps ∈ cs, Okc ps) (hlen : (pipelineText ds asg cs).length ≤ 1000000000) :
    Calls Try.prog 21 #[dv, .bool asg, v] w (Gives (pipelineText ds asg cs) w) := by
  have Hp := Lib.hid h
  obtain ⟨aod, capd, rfl, d1, d2, d3⟩ := hd
  obtain ⟨ao, cap, rfl, h1, h2, h3⟩ := h
  clear h3
  unfold maxLen at h2 d2
  obtain ⟨us, hus⟩ : ∃ us, us = ds.map fun s => s.data.toList := ⟨_, rfl⟩
  obtain ⟨ts, hts⟩ : ∃ ts, ts = cs.map commandText := ⟨_, rfl⟩
  obtain ⟨dl, hdl⟩ : ∃ dl, dl = declText ds asg := ⟨_, rfl⟩
  have hpt : pipelineText ds asg cs = dl ++ sepBy [32, 124, 32] ts := by rw [hdl, hts]; rfl
  rw [hpt] at hlen ⊢
  have Hul : Hid ((sepBy [44, 32] us).length ≤ 1000000000) := by
    have := declText_len ds asg
    rw [Hid, hus]; simp only [List.length_append] at hlen; rw [hdl] at hlen; omega
  have Hdl : Hid (dl = if ds.length = 0 then sepBy [44, 32] us else sepBy [44, 32] us ++ (if asg then [32, 61, 32] else [32, 58, 61, 32])) := by
    rw [Hid, hdl, hus]
    unfold declText
    by_cases e : ds = []
    · subst e; simp [sepBy]
    · have e' : ¬ ds.length = 0 := by simpa using e
      rw [if_neg e, if_neg e']
  have Hul2 : Hid (us.length = ds.length) := by rw [Hid, hus]; simp
  have Hug : Hid (∀ k, k < ds.length → us.getD k [] = (ds.getD k .empty).data.toList) := fun k hk => by
    rw [hus]; simp only [List.getD_eq_getElem?_getD, List.getElem?_map, List.getElem?_eq_getElem hk, Option.map_some, Option.getD_some]
  obtain ⟨m, hm'⟩ : ∃ m, m = ds.length := ⟨_, rfl⟩
  rw [← hm'] at d1 d3 Hdl Hul2 Hug
  rw [← hm']
  obtain ⟨n, hn'⟩ : ∃ n, n = cs.length := ⟨_, rfl⟩
  rw [← hn'] at h1
  rw [← hn']
  have Hd3 := Lib.hid d3
  have Hts := Lib.hid hts
  have Hl := Lib.hid hlen
  have Hn := Lib.hid hn'
  have Hs := Lib.hid hs
  clear hn' hs hts hlen hus hdl hpt d3 hm'
  go_enter Try.func21, Try.ntmps21
  go_wp2
  go_loop [7, 14] (fun s i => ∃ k : Nat, k ≤ m ∧ i = .int .i64 k ∧ s = .string ⟨(sepBy [44, 32] (us.take k)).toArray⟩) (fun _ i => m - (intOf i).toNat)
  case atStart => exact ⟨0, Nat.zero_le _, rfl, rfl⟩
  case round =>
    obtain ⟨k, hk, rfl, rfl⟩ := hrel
    by_cases hlt : k < m
    · obtain ⟨b, off, rfl, hbB, hc⟩ := Hd3.out k hlt
      have hltt : k < us.length := by rw [Hul2.out]; exact hlt
      have hl := sepBy_len [44, 32] us k hltt
      have hl2 := Hul.out
      have hl3 : (sepBy [44, 32] (us.take k)).length ≤ 1000000000 := by omega
      have hg := Hug.out k hlt
      have hl4 : (ds.getD k .empty).size ≤ 1000000000 := by rw [Lib.size_eq, ← hg]; omega
      by_cases hk0 : k = 0
      · subst hk0
        have e1 : Hid (sepBy [44, 32] (us.take (0 + 1)) = [] ++ (ds.getD 0 .empty).data.toList) := by rw [Hid, Nat.zero_add, sepBy_take_one [44, 32] us hltt, hg]; rfl
        have e0 : sepBy [44, 32] (us.take 0) = [] := rfl
        rw [e0]
        rw [Nat.add_zero] at hc
        clear e0 hg hl hl2
        generalize ds.getD 0 .empty = s at *
        go_wp2
        go_round
        case rel => exact ⟨0 + 1, by omega, by go_num, by rw [e1.out]; exact congrArg Value.string (ByteArray.ext (by simp [ByteArray.data_append]))⟩
        case measure => simp [intOf]; omega
      · have hk1 : 0 < k := by omega
        have e1 : Hid (sepBy [44, 32] (us.take (k + 1)) = sepBy [44, 32] (us.take k) ++ [44, 32] ++ (ds.getD k .empty).data.toList) := by rw [Hid, sepBy_take [44, 32] us k hk1 hltt, List.append_assoc, hg]
        clear hk0 hg hl hl2
        generalize ds.getD k .empty = s at *
        generalize sepBy [44, 32] (us.take k) = l at *
        go_wp2
        go_round
        case rel => exact ⟨k + 1, by omega, by go_num, by rw [e1.out]; exact congrArg Value.string (ByteArray.ext (by simp [ByteArray.data_append]))⟩
        case measure => simp [intOf]; omega
    · have hkn : k = m := by omega
      have hE : Hid (sepBy [44, 32] (us.take k) = sepBy [44, 32] us) := by rw [Hid, hkn, ← Hul2.out, List.take_length]
      have hul := Hul.out
      clear hkn
      rw [hE.out]
      generalize sepBy [44, 32] us = ul at *
      have hcases : (m = 0 ∧ Hid (dl = ul)) ∨ (0 < m ∧ asg = true ∧ Hid (dl = ul ++ [32, 61, 32])) ∨ (0 < m ∧ asg = false ∧ Hid (dl = ul ++ [32, 58, 61, 32])) := by
        have hh := Hdl.out
        by_cases hm0 : m = 0
        · exact .inl ⟨hm0, by rw [Hid, hh, if_pos hm0]⟩
        · cases asg
          · exact .inr (.inr ⟨by omega, rfl, by rw [Hid, hh, if_neg hm0]; rfl⟩)
          · exact .inr (.inl ⟨by omega, rfl, by rw [Hid, hh, if_neg hm0]; rfl⟩)
      clear Hdl
      rcases hcases with ⟨hm0, E⟩ | ⟨hm0, rfl, E⟩ | ⟨hm0, rfl, E⟩
      all_goals
        go_wp2
        go_loopw [7, 44] (fun s i wr => ∃ k : Nat, k ≤ n ∧ i = .int .i64 k ∧ s = .string ⟨(dl ++ sepBy [32, 124, 32] (ts.take k)).toArray⟩ ∧ Hid (Below w.heap.size w wr)) (fun _ i _ => n - (intOf i).toNat)
        case atStart => exact ⟨0, Nat.zero_le _, rfl, by rw [E.out]; exact congrArg Value.string (ByteArray.ext (by simp [ByteArray.data_append, sepBy])), Below.refl _ _⟩
        case round =>
          obtain ⟨k, hk, rfl, rfl, hW⟩ := hrel
          by_cases hlt : k < n
          · have hlt' : k < cs.length := by rw [← Hn.out]; exact hlt
            have hltt : k < ts.length := by rw [Hts.out]; simpa using hlt'
            obtain ⟨_, _, hv, _, _, h3⟩ := Hp.out.below (hW.out.mono hB)
            obtain ⟨b, off, x, hao, hbB, hc, hx⟩ := h3 k hlt'
            obtain rfl : ao = some ⟨b, off, none⟩ := by injection hv with e1 _ _; rw [e1, hao]
            have hsm := Hs.out _ (mem_getD (d := []) hlt')
            have hBr : B ≤ wr.heap.size := Nat.le_trans hB hW.out.size
            have f1 := command_text B (cs.getD k []) x wr hx hBr hsm.1 hsm.2
            have htk : ts.getD k [] = commandText (cs.getD k []) := by
              rw [Hts.out]
              simp only [List.getD_eq_getElem?_getD, List.getElem?_map, List.getElem?_eq_getElem hlt', Option.map_some, Option.getD_some]
            rw [← htk] at f1
            have hl := sepBy_len [32, 124, 32] ts k hltt
            have hl2 := Hl.out
            simp only [List.length_append] at hl2
            have hl3 : (dl ++ sepBy [32, 124, 32] (ts.take k)).length ≤ 1000000000 := by simp only [List.length_append]; omega
            have hl4 : (ts.getD k []).length ≤ 1000000000 := by omega
            obtain ⟨ao2, cap2, rfl, -⟩ := hx
            clear hv h3 hao hsm htk hl hl2
            generalize (cs.getD k []).length = nl at *
            by_cases hk0 : k = 0
            · subst hk0
              have e1 : Hid (dl ++ sepBy [32, 124, 32] (ts.take (0 + 1)) = dl ++ sepBy [32, 124, 32] (ts.take 0) ++ ts.getD 0 []) := by rw [Hid, Nat.zero_add, sepBy_take_one [32, 124, 32] ts hltt]; simp [sepBy]
              rw [Nat.add_zero] at hc
              generalize ts.getD 0 [] = t at *
              generalize dl ++ sepBy [32, 124, 32] (ts.take 0) = l at *
              go_wp2_with fail
              refine f1.mono ?_
              rintro e w2 ⟨rfl, q1⟩
              have HW3 := Lib.hid (hW.out.trans (q1.mono hW.out.size))
              clear q1 f1 hW
              go_wp2
              go_roundw
              case rel => exact ⟨0 + 1, by omega, by go_num, by rw [e1.out]; exact congrArg Value.string (ByteArray.ext (by simp [ByteArray.data_append])), HW3.out⟩
              case measure => simp [intOf]; omega
            · have hk1 : 0 < k := by omega
              have e1 : Hid (dl ++ sepBy [32, 124, 32] (ts.take (k + 1)) = dl ++ sepBy [32, 124, 32] (ts.take k) ++ [32, 124, 32] ++ ts.getD k []) := by rw [Hid, sepBy_take [32, 124, 32] ts k hk1 hltt]; simp
              generalize ts.getD k [] = t at *
              generalize dl ++ sepBy [32, 124, 32] (ts.take k) = l at *
              clear hk0
              go_wp2_with fail
              refine f1.mono ?_
              rintro e w2 ⟨rfl, q1⟩
              have HW3 := Lib.hid (hW.out.trans (q1.mono hW.out.size))
              clear q1 f1 hW
              go_wp2
              go_roundw
              case rel => exact ⟨k + 1, by omega, by go_num, by rw [e1.out]; exact congrArg Value.string (ByteArray.ext (by simp [ByteArray.data_append])), HW3.out⟩
              case measure => simp [intOf]; omega
          · have hkn : k = ts.length := by rw [Hts.out]; simp only [List.length_map]; rw [← Hn.out]; omega
            have hE : Hid (dl ++ sepBy [32, 124, 32] (ts.take k) = dl ++ sepBy [32, 124, 32] ts) := by rw [Hid, hkn, List.take_length]
            clear hkn
            rw [hE.out]
            go_wp2
            go_ret
            exact ⟨rfl, hW.out⟩

end Go.Proofs.Yteikiecbjjmkoaa
