/- Lists of operands: the size check, the reference's text, the command's node, and what it prints. -/
import Derived.Test.YteikiecbjjmkoaaStr
import Derived.Test.YteikiecbjjmkoaaTxt
import Derived.Deep.RegionLaw
import Derived.Deep.AppendLies
namespace Go.Proofs.Yteikiecbjjmkoaa
open Go.RowKit Go.Proofs

instance : Inhabited Part := ⟨⟨.empty, [], .empty, false⟩⟩

/-- The value v reads as the operands ps; all cells lie below block B. -/
def Parts (B : Nat) (ps : List Part) (v : Value) (w : World) : Prop :=
  ∃ ao cap, v = .slice ao ps.length cap ∧ ps.length ≤ cap ∧ cap ≤ maxLen ∧ ∀ i, i < ps.length → ∃ b off nv, ao = some ⟨b, off, none⟩ ∧ b < B ∧ Strs B (ps.getD i default).names nv w ∧
    w.cell? ⟨b, off + i * 4, none⟩ = some (.string (ps.getD i default).kind) ∧ w.cell? ⟨b, off + i * 4 + 1, none⟩ = some nv ∧ w.cell? ⟨b, off + i * 4 + 2, none⟩ = some (.string (ps.getD i default).text) ∧ w.cell? ⟨b, off + i * 4 + 3, none⟩ = some (.bool (ps.getD i default).tr)

theorem Parts.below {B : Nat} {ps : List Part} {v : Value} {w w' : World} (h : Parts B ps v w) (hb : Below B w w') : Parts B ps v w' := by
  obtain ⟨ao, cap, hv, h1, h2, h3⟩ := h
  refine ⟨ao, cap, hv, h1, h2, fun i hi => ?_⟩
  obtain ⟨b, off, nv, hao, hbB, hs, c0, c1, c2, c3⟩ := h3 i hi
  exact ⟨b, off, nv, hao, hbB, hs.below hb, (hb.cell (p := ⟨b, _, none⟩) hbB).trans c0, (hb.cell (p := ⟨b, _, none⟩) hbB).trans c1, (hb.cell (p := ⟨b, _, none⟩) hbB).trans c2, (hb.cell (p := ⟨b, _, none⟩) hbB).trans c3⟩

theorem Parts.mono {B B' : Nat} {ps : List Part} {v : Value} {w : World} (h : Parts B ps v w) (hB : B ≤ B') : Parts B' ps v w := by
  obtain ⟨ao, cap, hv, h1, h2, h3⟩ := h
  refine ⟨ao, cap, hv, h1, h2, fun i hi => ?_⟩
  obtain ⟨b, off, nv, hao, hbB, hs, c⟩ := h3 i hi
  exact ⟨b, off, nv, hao, by omega, hs.mono hB, c⟩

theorem mem_getD {α : Type} {l : List α} {i : Nat} {d : α} (h : i < l.length) : l.getD i d ∈ l := by
  rw [List.getD_eq_getElem?_getD, List.getElem?_eq_getElem h]; exact List.getElem_mem h

set_option maxRecDepth 100000 in
set_option maxHeartbeats 1000000 in
/-- zzFits7. -/
theorem fits7 (B : Nat) (ps : List Part) (v : Value) (w : World) (h : Parts B ps v w) (hB : B ≤ w.heap.size) (hn : ps.length ≤ 2147483647) (hs : ∀ p ∈ ps, SmallPart 2147483647 p) :
    Calls Try.prog 16 #[v] w fun e w' => e = .returned (.bool true) ∧ Below w.heap.size w w' := by
  have Hp := Lib.hid h
  obtain ⟨ao, cap, rfl, h1, h2, h3⟩ := h
  clear h3
  unfold maxLen at h2
  obtain ⟨n, hn'⟩ : ∃ n, n = ps.length := ⟨_, rfl⟩
  rw [← hn'] at h1 hn
  rw [← hn']
  have Hn := Lib.hid hn'
  have Hs := Lib.hid hs
  clear hn' hs
  go_enter Try.func16, Try.ntmps16
  go_wp2
  go_loopw [10] (fun i wr => ∃ k : Nat, k ≤ n ∧ i = .int .i64 k ∧ Hid (Below w.heap.size w wr)) (fun i _ => n - (intOf i).toNat)
  case atStart => exact ⟨0, Nat.zero_le _, rfl, Below.refl _ _⟩
  case round =>
    obtain ⟨k, hk, rfl, hW⟩ := hrel
    by_cases hlt : k < n
    · have hlt' : k < ps.length := by rw [← Hn.out]; exact hlt
      obtain ⟨_, _, hv, _, _, h3⟩ := Hp.out.below (hW.out.mono hB)
      obtain ⟨b, off, nv, hao, hbB, hs1, c0, c1, c2, c3⟩ := h3 k hlt'
      obtain rfl : ao = some ⟨b, off, none⟩ := by injection hv with e1 _ _; rw [e1, hao]
      have hsm := Hs.out _ (mem_getD (d := default) hlt')
      have hb0 : Below wr.heap.size wr (wr.alloc (.cells #[.string (ps.getD k default).kind, nv, .string (ps.getD k default).text, .bool (ps.getD k default).tr] 27)) := (Below.refl _ _).alloc (Nat.le_refl _) _
      have hBr : B ≤ wr.heap.size := Nat.le_trans hB hW.out.size
      have f1 := fits6 B (ps.getD k default) _ _ ⟨nv, rfl, hs1.below (hb0.mono hBr)⟩ (Nat.le_trans hBr hb0.size) hsm
      have HW2 := Lib.hid (hW.out.trans (hb0.mono hW.out.size))
      have Hsz := Lib.hid hb0.size
      obtain ⟨ao2, cap2, rfl, -⟩ := hs1
      clear hv h3 hao hsm hb0
      generalize (ps.getD k default).kind = kd at *
      generalize (ps.getD k default).text = tx at *
      generalize (ps.getD k default).tr = tr at *
      generalize (ps.getD k default).names.length = nl at *
      go_wp2_with fail
      refine f1.mono ?_
      rintro e w2 ⟨rfl, q1⟩
      have HW3 := Lib.hid (HW2.out.trans (q1.mono HW2.out.size))
      clear q1 f1 HW2 hW
      go_wp2
      go_roundw
      case rel => exact ⟨k + 1, by omega, by go_num, HW3.out⟩
      case measure => simp [intOf]; omega
    · go_wp2
      go_ret
      exact ⟨rfl, hW.out⟩

/-- An operand that the walks can print. -/
def Okp (p : Part) : Prop := (partText p).length ≤ 1000000000 ∧ (dotted p.names).length ≤ 1000000000

set_option maxRecDepth 100000 in
set_option maxHeartbeats 1000000 in
/-- spec.CommandText. -/
theorem command_text (B : Nat) (ps : List Part) (v : Value) (w : World) (h : Parts B ps v w) (hB : B ≤ w.heap.size) (hs : ∀ p ∈ ps, Okp p) (hlen : (commandText ps).length ≤ 1000000000) :
    Calls Try.prog 18 #[v] w (Gives (commandText ps) w) := by
  have Hp := Lib.hid h
  obtain ⟨ao, cap, rfl, h1, h2, h3⟩ := h
  clear h3
  unfold maxLen at h2
  obtain ⟨n, hn'⟩ : ∃ n, n = ps.length := ⟨_, rfl⟩
  rw [← hn'] at h1
  rw [← hn']
  obtain ⟨ts, hts⟩ : ∃ ts, ts = ps.map partText := ⟨_, rfl⟩
  have Hts := Lib.hid hts
  have hct : commandText ps = sepBy [32] ts := by rw [hts]; rfl
  rw [hct] at hlen ⊢
  have Hl := Lib.hid hlen
  have Hn := Lib.hid hn'
  have Hs := Lib.hid hs
  clear hn' hs hts hct hlen
  go_enter Try.func18, Try.ntmps18
  go_wp2
  go_loopw [3, 8] (fun s i wr => ∃ k : Nat, k ≤ n ∧ i = .int .i64 k ∧ s = .string ⟨(sepBy [32] (ts.take k)).toArray⟩ ∧ Hid (Below w.heap.size w wr)) (fun _ i _ => n - (intOf i).toNat)
  case atStart => exact ⟨0, Nat.zero_le _, rfl, rfl, Below.refl _ _⟩
  case round =>
    obtain ⟨k, hk, rfl, rfl, hW⟩ := hrel
    by_cases hlt : k < n
    · have hlt' : k < ps.length := by rw [← Hn.out]; exact hlt
      have hltt : k < ts.length := by rw [Hts.out]; simpa using hlt'
      obtain ⟨_, _, hv, _, _, h3⟩ := Hp.out.below (hW.out.mono hB)
      obtain ⟨b, off, nv, hao, hbB, hs1, c0, c1, c2, c3⟩ := h3 k hlt'
      obtain rfl : ao = some ⟨b, off, none⟩ := by injection hv with e1 _ _; rw [e1, hao]
      have hsm := Hs.out _ (mem_getD (d := default) hlt')
      have hb0 : Below wr.heap.size wr (wr.alloc (.cells #[.string (ps.getD k default).kind, nv, .string (ps.getD k default).text, .bool (ps.getD k default).tr] 27)) := (Below.refl _ _).alloc (Nat.le_refl _) _
      have hBr : B ≤ wr.heap.size := Nat.le_trans hB hW.out.size
      have f1 := part_text B (ps.getD k default) _ _ ⟨nv, rfl, hs1.below (hb0.mono hBr)⟩ (Nat.le_trans hBr hb0.size) hsm.1 hsm.2
      have htk : ts.getD k [] = partText (ps.getD k default) := by
        rw [Hts.out]
        simp only [List.getD_eq_getElem?_getD, List.getElem?_map, List.getElem?_eq_getElem hlt', Option.map_some, Option.getD_some]
      rw [← htk] at f1
      have HW2 := Lib.hid (hW.out.trans (hb0.mono hW.out.size))
      have hl := sepBy_len [32] ts k hltt
      have hl2 := Hl.out
      have hl3 : (sepBy [32] (ts.take k)).length ≤ 1000000000 := by omega
      have hl4 : (ts.getD k []).length ≤ 1000000000 := by omega
      obtain ⟨ao2, cap2, rfl, -⟩ := hs1
      clear hv h3 hao hsm hb0 htk hl hl2
      generalize (ps.getD k default).kind = kd at *
      generalize (ps.getD k default).text = tx at *
      generalize (ps.getD k default).tr = tr at *
      generalize (ps.getD k default).names.length = nl at *
      by_cases hk0 : k = 0
      · subst hk0
        have e1 : Hid (sepBy [32] (ts.take (0 + 1)) = [] ++ ts.getD 0 []) := by rw [Hid, Nat.zero_add, sepBy_take_one [32] ts hltt]; rfl
        have e0 : sepBy [32] (ts.take 0) = [] := rfl
        rw [e0]
        generalize ts.getD 0 [] = t at *
        rw [Nat.zero_mul, Nat.add_zero] at c0 c1 c2 c3
        clear e0
        go_wp2_with fail
        refine f1.mono ?_
        rintro e w2 ⟨rfl, q1⟩
        have HW3 := Lib.hid (HW2.out.trans (q1.mono HW2.out.size))
        clear q1 f1 HW2 hW
        go_wp2
        go_roundw
        case rel => exact ⟨0 + 1, by omega, by go_num, by rw [e1.out]; exact congrArg Value.string (ByteArray.ext (by simp [ByteArray.data_append])), HW3.out⟩
        case measure => simp [intOf]; omega
      · have hk1 : 0 < k := by omega
        have e1 : Hid (sepBy [32] (ts.take (k + 1)) = sepBy [32] (ts.take k) ++ [32] ++ ts.getD k []) := by rw [Hid, sepBy_take [32] ts k hk1 hltt, List.append_assoc]
        generalize ts.getD k [] = t at *
        generalize sepBy [32] (ts.take k) = l at *
        clear hk0
        go_wp2_with fail
        refine f1.mono ?_
        rintro e w2 ⟨rfl, q1⟩
        have HW3 := Lib.hid (HW2.out.trans (q1.mono HW2.out.size))
        clear q1 f1 HW2 hW
        go_wp2
        go_roundw
        case rel => exact ⟨k + 1, by omega, by go_num, by rw [e1.out]; exact congrArg Value.string (ByteArray.ext (by simp [ByteArray.data_append])), HW3.out⟩
        case measure => simp [intOf]; omega
    · have hkn : k = ts.length := by rw [Hts.out]; simp only [List.length_map]; rw [← Hn.out]; omega
      have hE : Hid (sepBy [32] (ts.take k) = sepBy [32] ts) := by rw [Hid, hkn, List.take_length]
      clear hkn
      rw [hE.out]
      go_wp2
      go_ret
      exact ⟨rfl, hW.out⟩

/-! ### The command's node -/

theorem own_below {w w' : World} {base e size n : Nat} {v : Value} {xs : List Value} (h : w.ownsRow base e size v n xs) (hb : Below w.heap.size w w') : w'.ownsRow base e size v n xs := by
  have hlt := h.lt
  obtain ⟨h1, h2⟩ := h
  refine ⟨h1, ?_⟩
  rcases h2 with h2 | ⟨g, cap, cur, rfl, hg, hh, r⟩
  · exact .inl h2
  · exact .inr ⟨g, cap, cur, rfl, hg, (hb.block g (hlt g rfl).2).trans hh, r⟩

theorem above {w W : World} {o : Obj} (h : Below (w.heap.size + 1) (w.alloc o) W) : w.heap.size + 1 ≤ W.heap.size := by
  have := h.size; simpa using this

theorem node_form {B0 B : Nat} {x : Value} {t : List UInt8} {w : World} (h : IsNode B0 B x t w) : ∃ T a, x = .iface T (.pointer (some ⟨a, 0, none⟩)) := by
  obtain ⟨_, a, h | h | h | h | h | h | h | h | h⟩ := h <;> exact ⟨_, a, h.1⟩

set_option maxRecDepth 100000 in
set_option maxHeartbeats 1000000 in
/-- impl.command. -/
theorem command_makes (B : Nat) (ps : List Part) (v : Value) (w : World) (h : Parts B ps v w) (hB : B ≤ w.heap.size) (hn : ps.length ≤ 1000000000) :
    Calls Try.prog 27 #[v] w fun e w' => e = .returned (.pointer (some ⟨w.heap.size, 0, none⟩)) ∧ ∃ x vs, RowAt B 96 w.heap.size w (ps.map partText) ps.length x vs w' := by
  obtain ⟨i0, hi, hz0, hz1, hz2⟩ := info_parts infoNode
  have Hi := Lib.hid hi
  have Hz0 := Lib.hid hz0
  have Hz1 := Lib.hid hz1
  have Hz2 := Lib.hid hz2
  clear hi hz0 hz1 hz2
  have Hp := Lib.hid h
  obtain ⟨ao, cap, rfl, h1, h2, h3⟩ := h
  clear h3
  unfold maxLen at h2
  obtain ⟨n, hn'⟩ : ∃ n, n = ps.length := ⟨_, rfl⟩
  rw [← hn'] at h1 hn
  rw [← hn']
  have Hn := Lib.hid hn'
  obtain ⟨N, hN⟩ : ∃ N, N = w.heap.size := ⟨_, rfl⟩
  rw [← hN]
  have HN := Lib.hid hN
  clear hn' hN
  go_enter Try.func27, Try.ntmps27
  go_wp2
  rw [← HN.out]
  go_loopw [10] (fun i wr => ∃ k : Nat, k ≤ n ∧ i = .int .i64 k ∧ ∃ x vs, Hid (RowAt B 96 N w (ps.map partText) k x vs wr)) (fun i _ => n - (intOf i).toNat)
  case atStart =>
    refine ⟨0, Nat.zero_le _, rfl, .slice none 0 0, [], ?_, World.ownsRow_nil _ _ _ _, fun i hi => absurd hi (Nat.not_lt_zero _), ?_⟩
    · rw [HN.out]; exact heap_alloc_new w _
    · rw [HN.out]; exact (Below.refl _ _).alloc (Nat.le_refl _) _
  case round =>
    obtain ⟨k, hk, rfl, x, vs, hR⟩ := hrel
    by_cases hlt : k < n
    · have hlt' : k < ps.length := by rw [← Hn.out]; exact hlt
      obtain ⟨_, _, hv, _, _, h3⟩ := Hp.out.below (hR.out.2.2.2.mono (by rw [HN.out]; exact hB))
      obtain ⟨b, off, nv, hao, hbB, hs1, c0, c1, c2, c3⟩ := h3 k hlt'
      obtain rfl : ao = some ⟨b, off, none⟩ := by injection hv with e1 _ _; rw [e1, hao]
      have hNr : N < wr.heap.size := by
        rcases Nat.lt_or_ge N wr.heap.size with h' | h'
        · exact h'
        · have := hR.out.1; simp [Array.getElem?_eq_none h'] at this
      have hBr : B ≤ wr.heap.size := by have := HN.out; omega
      have hb0 : Below wr.heap.size wr (wr.alloc (.cells #[.string (ps.getD k default).kind, nv, .string (ps.getD k default).text, .bool (ps.getD k default).tr] 27)) := (Below.refl _ _).alloc (Nat.le_refl _) _
      have cO : ∀ W, Below (wr.heap.size + 1) (wr.alloc (.cells #[.string (ps.getD k default).kind, nv, .string (ps.getD k default).text, .bool (ps.getD k default).tr] 27)) W →
          Calls Try.prog 25 #[.agg #[.string (ps.getD k default).kind, nv, .string (ps.getD k default).text, .bool (ps.getD k default).tr]] W fun e W' => ∃ y, e = .returned y ∧ IsNode B W'.heap.size y (partText (ps.getD k default)) W' ∧ Below (wr.heap.size + 1) (wr.alloc (.cells #[.string (ps.getD k default).kind, nv, .string (ps.getD k default).text, .bool (ps.getD k default).tr] 27)) W' := fun W hW => by
        have hsz : wr.heap.size + 1 ≤ W.heap.size := by have := hW.size; simpa using this
        refine (operand_makes B (ps.getD k default) _ W ⟨nv, rfl, (hs1.below (hb0.mono hBr)).below (hW.mono (by omega))⟩ (by omega)).mono ?_
        rintro e W' ⟨y, he, hy, hb⟩
        exact ⟨y, he, hy, hW.trans (hb.mono hsz)⟩
      have htk : (ps.map partText).getD k [] = partText (ps.getD k default) := by
        simp only [List.getD_eq_getElem?_getD, List.getElem?_map, List.getElem?_eq_getElem hlt', Option.map_some, Option.getD_some]
      rw [← htk] at cO
      have n3 : wr.cell? ⟨N, 3, none⟩ = some x := by rw [Lib.cell_of_heap hR.out.1]; rfl
      have CO := Lib.hid cO
      have Hb0 := Lib.hid hb0
      obtain ⟨ao2, cap2, rfl, -⟩ := hs1
      clear hv h3 hao hb0 htk cO
      generalize (ps.getD k default).kind = kd at *
      generalize (ps.getD k default).text = tx at *
      generalize (ps.getD k default).tr = tr at *
      generalize (ps.getD k default).names.length = nl at *
      have keepS : ∀ W, Below (wr.heap.size + 1) (wr.alloc (.cells #[.string kd, .slice ao2 nl cap2, .string tx, .bool tr] 27)) W → W.cell? ⟨N, 3, none⟩ = some x ∧ W.cell? ⟨wr.heap.size, 0, none⟩ = some (.string kd) ∧ W.cell? ⟨wr.heap.size, 1, none⟩ = some (.slice ao2 nl cap2) ∧ W.cell? ⟨wr.heap.size, 2, none⟩ = some (.string tx) ∧ W.cell? ⟨wr.heap.size, 3, none⟩ = some (.bool tr) := fun W hW =>
        ⟨(hW.cell (p := ⟨N, 3, none⟩) (by show N < _; omega)).trans ((Hb0.out.cell (p := ⟨N, 3, none⟩) hNr).trans n3), box4 hW⟩
      have neN : x.ownBlock ≠ some N := Lib.ownBlock_ne hR.out.2.1 hR.out.1 (by decide)
      have neW : x.ownBlock ≠ some wr.heap.size := fun e => by have := (hR.out.2.1.lt _ e).2; omega
      have hBN : B ≤ N := by rw [HN.out]; exact hB
      have hk1 : k + 1 ≤ maxLen := by unfold maxLen; omega
      have hk2 : (k + 1) * 16 ≤ 140737488355328 := by omega
      go_wp2_with fail
      go_region_law (first
        | (refine step_append_lies _ (by rfl) _ _ _ (by rfl) N 55 i0 _ 1 16 Try.underlying45 Hi.out Hz0.out Hz1.out Hz2.out rfl (by decide) x k vs (by rfl) (ho2.alloc _) ⟨W'.heap.size, 0, none⟩ 1 1 [.iface T (.pointer (some ⟨a, 0, none⟩))] (by rfl) (by rfl) (World.news_of_block (cs := #[.iface T (.pointer (some ⟨a, 0, none⟩))]) (t := 55) (fr := (0, 0)) (heap_alloc_new W' _)) (by simp [Value.oneCell']) (by decide) hk1 hk2 (Nat.le_trans (Nat.le_trans (Nat.le_of_lt hNr) (Nat.le_of_succ_le hsz')) (by simp)) (W'.heap.size + 1) (by simp) ?_; intro g capg w1 hown1 hgrow hat hlt1; have hst := hR.out.step hBN (((Hb0.out.trans (hW'.mono (Nat.le_succ _))).alloc (Nat.le_of_succ_le hsz') _)) ((hy.below ((Below.refl _ _).alloc (Nat.le_refl _) _)).mono (by simp)) hown1 hgrow (by decide); have d3 : w1.cell? ⟨N, 3, none⟩ = some x := (Lib.cell_of_heap hst.1 3).trans rfl; have f3 := Lib.frozen_of_heap hst.1 3; have HR1 := Lib.hid hst.2; clear hst)
        | (rw [if_pos (by rfl)]; unfold Oper.wp; go_simp; go_at_call 25; refine (CO.out _ ?_).mono ?_; (first | exact (Below.refl _ _).drew | exact Below.refl _ _); rintro e W' ⟨y, rfl, hy, hW'⟩; obtain ⟨T, a, rfl⟩ := node_form hy; have hsz' := above hW'; have ho2 := own_below hR.out.2.1 (Hb0.out.trans (hW'.mono (Nat.le_succ _))); obtain ⟨g0, g1, g2, g3, g4⟩ := keepS _ hW'; have gA := (keepS _ (hW'.alloc hsz' (.cells #[.iface T (.pointer (some ⟨a, 0, none⟩))] 55))).1))
      all_goals
        clear hR hW' hy keepS hown1 hgrow
        go_wp2
        go_roundw
        case rel => exact ⟨k + 1, by omega, by go_num, _, _, HR1.out⟩
        case measure => simp [intOf]; omega
    · have hkn : k = n := by omega
      have hE : Hid (RowAt B 96 N w (ps.map partText) n x vs wr) := by rw [Hid, ← hkn]; exact hR.out
      clear hkn hR
      go_wp2
      go_ret
      exact ⟨rfl, _, _, hE.out⟩

end Go.Proofs.Yteikiecbjjmkoaa
