/- PrintPipeline. -/
import Derived.Test.YteikiecbjjmkoaaPutP
namespace Go.Proofs.Yteikiecbjjmkoaa
open Go.RowKit Go.Proofs

theorem infoVar : (Try.prog.info? 66).map (fun i => (i.zero, i.size, i.bytes)) = some (some (.pointer none), 1, 8) := by kernel_rfl
theorem infoCmd : (Try.prog.info? 59).map (fun i => (i.zero, i.size, i.bytes)) = some (some (.pointer none), 1, 8) := by kernel_rfl

theorem three' (w : World) (a b c : Obj) : (((w.alloc a).alloc b).alloc c).heap[w.heap.size]? = some a ∧ (((w.alloc a).alloc b).alloc c).heap[w.heap.size + 1]? = some b ∧ (((w.alloc a).alloc b).alloc c).heap[w.heap.size + 1 + 1]? = some c ∧
    (((w.alloc a).alloc b).alloc c).heap.size = w.heap.size + 3 ∧ Below w.heap.size w (((w.alloc a).alloc b).alloc c) := by
  obtain ⟨h1, h2, h3, h4, _⟩ := three w a b c
  exact ⟨h1, h2, h3, h4, (((Below.refl _ w).alloc (Nat.le_refl _) _).alloc (by simp) _).alloc (by simp; omega) _⟩

theorem pipelineText_eq (ds : List ByteArray) (asg : Bool) (cs : List (List Part)) : pipelineText ds asg cs = declText ds asg ++ sepBy [32, 124, 32] ((cs.map fun ps => ps.map partText).map (sepBy [32])) := by
  unfold pipelineText
  rw [List.map_map]
  rfl

set_option maxRecDepth 100000 in
set_option maxHeartbeats 2000000 in
/-- impl.PrintPipeline. -/
theorem print_pipeline (B : Nat) (ds : List ByteArray) (asg : Bool) (cs : List (List Part)) (dv v : Value) (w : World) (hd : Strs B ds dv w) (h : Cmds B cs v w) (hB : B ≤ w.heap.size)
    (hm : ds.length ≤ 1000000000) (hn : cs.length ≤ 1000000000) (hs : ∀ ps ∈ cs, ps.length ≤ 1000000000) (hlen : (pipelineText ds asg cs).length ≤ 140737488355328) :
    Calls Try.prog 20 #[dv, .bool asg, v] w (Gives (pipelineText ds asg cs) w) := by
  obtain ⟨i0, hi, hz0, hz1, hz2⟩ := info_parts infoVar
  obtain ⟨i1, hj, hy0, hy1, hy2⟩ := info_parts infoCmd
  have Hi := Lib.hid hi
  have Hz0 := Lib.hid hz0
  have Hz1 := Lib.hid hz1
  have Hz2 := Lib.hid hz2
  have Hj := Lib.hid hj
  have Hy0 := Lib.hid hy0
  have Hy1 := Lib.hid hy1
  have Hy2 := Lib.hid hy2
  clear hi hz0 hz1 hz2 hj hy0 hy1 hy2
  rw [pipelineText_eq] at hlen ⊢
  obtain ⟨tss, htss⟩ : ∃ tss, tss = cs.map fun ps => ps.map partText := ⟨_, rfl⟩
  rw [← htss] at hlen ⊢
  have Htl : Hid (tss.length = cs.length) := by rw [Hid, htss]; simp
  have Htg : Hid (∀ k, k < cs.length → tss.getD k [] = (cs.getD k []).map partText) := fun k hk => by
    rw [htss]; simp only [List.getD_eq_getElem?_getD, List.getElem?_map, List.getElem?_eq_getElem hk, Option.map_some, Option.getD_some]
  have Hvs := Lib.hid hd
  have Hcs := Lib.hid h
  obtain ⟨aod, capd, rfl, d1, d2, d3⟩ := hd
  obtain ⟨ao, cap, rfl, h1, h2, h3⟩ := h
  clear h3 d3
  unfold maxLen at h2 d2
  obtain ⟨m, hm'⟩ : ∃ m, m = ds.length := ⟨_, rfl⟩
  rw [← hm'] at d1 hm
  rw [← hm']
  obtain ⟨n, hn'⟩ : ∃ n, n = cs.length := ⟨_, rfl⟩
  rw [← hn'] at h1 hn Htl
  rw [← hn']
  have Hm := Lib.hid hm'
  have Hn := Lib.hid hn'
  have Hs := Lib.hid hs
  have Hl := Lib.hid hlen
  obtain ⟨P, hP⟩ : ∃ P, P = w.heap.size := ⟨_, rfl⟩
  have HP := Lib.hid hP
  have hBP : B ≤ P := by rw [hP]; exact hB
  clear hm' hn' hs hlen htss hP
  go_enter Try.func20, Try.ntmps20
  go_wp2
  rw [← HP.out]
  go_loopw [17] (fun i wr => ∃ k : Nat, k ≤ m ∧ i = .int .i64 k ∧ ∃ x xs, Hid (PipeAt B P asg w ds tss k 0 x (.slice none 0 0) xs [] wr)) (fun i _ => m - (intOf i).toNat)
  case atStart =>
    refine ⟨0, Nat.zero_le _, rfl, .slice none 0 0, [], ?_, World.ownsRow_nil _ _ _ _, fun i hi => absurd hi (Nat.not_lt_zero _), World.ownsRow_nil _ _ _ _, fun i hi => absurd hi (Nat.not_lt_zero _), ?_⟩
    · rw [HP.out]; exact heap_alloc_new w _
    · rw [HP.out]; exact (Below.refl _ _).alloc (Nat.le_refl _) _
  case round =>
    obtain ⟨k, hk, rfl, x, xs, hR⟩ := hrel
    by_cases hlt : k < m
    · have hlt' : k < ds.length := by rw [← Hm.out]; exact hlt
      obtain ⟨_, _, hv, _, _, h3⟩ := Hvs.out.below (hR.out.2.2.2.2.2.mono hBP)
      obtain ⟨c, off, hao, hcB, hc⟩ := h3 k hlt'
      obtain rfl : aod = some ⟨c, off, none⟩ := by injection hv with e1 _ _; rw [e1, hao]
      have hPr : P < wr.heap.size := lt_of_heap hR.out.1
      have c5 : wr.cell? ⟨P, 5, none⟩ = some x := by rw [Lib.cell_of_heap hR.out.1]; rfl
      have hg : Hid (ds.getD k .empty = ds.getD k .empty) := rfl
      clear hv h3 hao
      generalize hs : ds.getD k .empty = s at hc
      have HS := Lib.hid hs
      clear hs hg
      go_wp2_with (at_builtin; refine wpList_append_own _ rfl _ _ 62 rfl P 66 i0 (.pointer none) 1 8 Try.underlying62 Hi.out Hz0.out Hz1.out Hz2.out rfl (by decide) x k xs rfl (((hR.out.2.1.alloc _).alloc _).alloc _) ⟨wr.heap.size + 1 + 1, 0, none⟩ 1 1 [.pointer (some ⟨wr.heap.size + 1, 0, none⟩)] rfl rfl ?c1 ?c2 ?c3 ?c4 ?c5 ?_)
      case c1 =>
        intro j u hj
        match j, hj with
        | 0, hj =>
          simp at hj; subst hj
          rw [Addr.add_lit, Lib.cell_of_heap (three' _ _ _ _).2.2.1]
          rfl
      case c2 => intro u hu; simp at hu; subst hu; rfl
      case c3 => unfold maxLen; omega
      case c4 => omega
      case c5 => simp; omega
      intro v' w1 hown' hgrow _
      obtain ⟨t1, t2, t3, t4, t5⟩ := three' wr (.cells #[.string s] 9) (.cells #[.int .i64 0, .int .i64 0, .pointer none, .slice (some ⟨wr.heap.size, 0, none⟩) 1 1] 68) (.cells #[.pointer (some ⟨wr.heap.size + 1, 0, none⟩)] 66)
      obtain ⟨hP1, hR1⟩ := hR.out.var hBP t5 ⟨_, _, _, rfl, ⟨by rw [t4]; omega, _, _, t2, rfl⟩, by rw [t4]; omega, by rw [HS.out]; exact t1⟩ hown' hgrow
      have d5 : w1.cell? ⟨P, 5, none⟩ = some x := by rw [Lib.cell_of_heap hP1]; rfl
      have f5 : w1.frozen? ⟨P, 5, none⟩ = false := Lib.frozen_of_heap hP1 5
      obtain ⟨ao', cap', rfl⟩ : ∃ ao' cap', v' = .slice ao' (k + 1) cap' := by
        rcases hown'.2 with ⟨hv, h0⟩ | ⟨g, cap, cur, hv, _⟩
        · exact ⟨none, 0, by omega⟩
        · exact ⟨_, _, hv⟩
      have HR1 := Lib.hid hR1
      clear hR1 hown' hgrow hR hP1 t1 t2 t3 t4 t5
      go_wp2
      go_roundw
      case rel => exact ⟨k + 1, by omega, by go_num, _, _, HR1.out⟩
      case measure => simp [intOf]; omega
    · have hkm : k = m := by omega
      have HR : Hid (PipeAt B P asg w ds tss m 0 x (.slice none 0 0) xs [] wr) := by rw [Hid, ← hkm]; exact hR.out
      clear hkm hR
      go_wp2
      go_loopw [37] (fun i wr => ∃ k : Nat, k ≤ n ∧ i = .int .i64 k ∧ ∃ y ys, Hid (PipeAt B P asg w ds tss m k x y xs ys wr)) (fun i _ => n - (intOf i).toNat)
      case atStart => exact ⟨0, Nat.zero_le _, rfl, _, _, HR.out⟩
      case round =>
        obtain ⟨k, hk, rfl, y, ys, hR⟩ := hrel
        by_cases hlt : k < n
        · have hlt' : k < cs.length := by rw [← Hn.out]; exact hlt
          obtain ⟨_, _, hv, _, _, h3⟩ := Hcs.out.below (hR.out.2.2.2.2.2.mono hBP)
          obtain ⟨c, off, z, hao, hcB, hc, hz⟩ := h3 k hlt'
          obtain rfl : ao = some ⟨c, off, none⟩ := by injection hv with e1 _ _; rw [e1, hao]
          have hPr : P < wr.heap.size := lt_of_heap hR.out.1
          have c6 : wr.cell? ⟨P, 6, none⟩ = some y := by rw [Lib.cell_of_heap hR.out.1]; rfl
          have hsm := Hs.out _ (mem_getD (d := []) hlt')
          have cO : ∀ W, Below wr.heap.size wr W → Calls Try.prog 27 #[z] W fun e W' => ∃ M, e = .returned (.pointer (some ⟨M, 0, none⟩)) ∧ IsCmd B W'.heap.size (.pointer (some ⟨M, 0, none⟩)) (tss.getD k []) W' ∧ Below wr.heap.size wr W' := fun W hW => by
            refine (command_makes B (cs.getD k []) z W (hz.below (hW.mono (by omega))) (by have := hW.size; omega) hsm).mono ?_
            rintro e W' ⟨he, x', vs', hr⟩
            refine ⟨_, he, ?_, hW.trans (hr.2.2.2.mono hW.size)⟩
            rw [Htg.out k hlt']
            exact hr.cmd (by simp)
          have CO := Lib.hid cO
          have keepS : ∀ W, Below wr.heap.size wr W → W.cell? ⟨P, 6, none⟩ = some y := fun W hW => (hW.cell (p := ⟨P, 6, none⟩) hPr).trans c6
          obtain ⟨ao2, cap2, rfl, -⟩ := hz
          clear hv h3 hao hsm cO
          generalize (cs.getD k []).length = nl at *
          have hk1 : k + 1 ≤ maxLen := by unfold maxLen; omega
          have hk2 : (k + 1) * 8 ≤ 140737488355328 := by omega
          go_wp2_with fail
          go_region_law (first
            | (refine step_append_lies _ (by rfl) _ _ _ (by rfl) P 59 i1 _ 1 8 Try.underlying63 Hj.out Hy0.out Hy1.out Hy2.out rfl (by decide) y k ys (by rfl) (ho2.alloc _) ⟨W'.heap.size, 0, none⟩ 1 1 [.pointer (some ⟨M, 0, none⟩)] (by rfl) (by rfl) (World.news_of_block (cs := #[.pointer (some ⟨M, 0, none⟩)]) (t := 59) (fr := (0, 0)) (heap_alloc_new W' _)) (by simp [Value.oneCell']) (by decide) hk1 hk2 (Nat.le_trans (Nat.le_trans (Nat.le_of_lt hPr) hsz') (by simp)) (W'.heap.size + 1) (by simp) ?_; intro g capg w1 hown1 hgrow hat hlt1; have hst := hR.out.cmd hBP (hW'.alloc hsz' _) ((hy.below ((Below.refl _ _).alloc (Nat.le_refl _) _)).mono (by simp)) hown1 hgrow; have d6 : w1.cell? ⟨P, 6, none⟩ = some y := (Lib.cell_of_heap hst.1 6).trans rfl; have f6 := Lib.frozen_of_heap hst.1 6; have HR1 := Lib.hid hst.2; clear hst)
            | (rw [if_pos (by rfl)]; unfold Oper.wp; go_simp; go_at_call 27; refine (CO.out _ ?_).mono ?_; (first | exact (Below.refl _ _).drew | exact Below.refl _ _); rintro e W' ⟨M, rfl, hy, hW'⟩; have hsz' := hW'.size; have ho2 := own_below hR.out.2.2.2.1 hW'; have g6 := keepS _ hW'; have gA := keepS _ (hW'.alloc hsz' (.cells #[.pointer (some ⟨M, 0, none⟩)] 59))))
          all_goals
            clear hR hW' hy keepS hown1 hgrow
            go_wp2
            go_roundw
            case rel => exact ⟨k + 1, by omega, by go_num, _, _, HR1.out⟩
            case measure => simp [intOf]; omega
        · have hkn : k = n := by omega
          have hE : PipeAt B P asg w ds tss ds.length tss.length x y xs ys wr := by rw [Htl.out, ← Hm.out, ← hkn]; exact hR.out
          have hPr : P < wr.heap.size := lt_of_heap hE.1
          obtain ⟨hvars, hcmds⟩ := hE.lists
          have c1 := string_pipe P (declText ds asg ++ sepBy [32, 124, 32] (tss.map (sepBy [32]))) wr (fun b l w' hb hBb hh hl => by
            have hN := (hb.block P hPr).trans hE.1
            exact put_pipe B wr.heap.size P b ds asg tss x y l w' (by rw [Lib.cell_of_heap hN]; rfl) (by rw [Lib.cell_of_heap hN]; rfl) (by rw [Lib.cell_of_heap hN]; rfl) (hvars.below hb) (hcmds.below hb) hPr hBb hh hl) Hl.out
          have HB := Lib.hid hE.2.2.2.2.2
          have hsz : w.heap.size ≤ wr.heap.size := hE.2.2.2.2.2.size
          generalize declText ds asg ++ sepBy [32, 124, 32] (tss.map (sepBy [32])) = t at *
          clear hkn hR hE hvars hcmds
          go_wp2_with fail
          refine c1.mono ?_
          rintro e w' ⟨rfl, q1⟩
          have HB2 := Lib.hid (HB.out.trans (q1.mono (by rw [HP.out]; exact hsz)))
          clear q1 c1
          go_wp2
          go_ret
          exact ⟨rfl, by rw [← HP.out]; exact HB2.out⟩

end Go.Proofs.Yteikiecbjjmkoaa
