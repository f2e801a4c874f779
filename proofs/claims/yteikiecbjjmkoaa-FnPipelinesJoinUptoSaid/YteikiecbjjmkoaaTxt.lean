/- PrintTexts: a list of texts prints as these, one behind the other. -/
import Derived.Test.YteikiecbjjmkoaaNode
import Derived.Outline
namespace Go.Proofs.Yteikiecbjjmkoaa
open Go.RowKit Go.Proofs

/-- ListNode.String -/
theorem list_string (B0 N : Nat) (ts : List (List UInt8)) (sv : Value) (w : World) (h : w.cell? ⟨N, 3, none⟩ = some sv) (hts : Nodes B0 w.heap.size ts sv w) (hlen : ts.flatten.length ≤ 140737488355328) :
    Calls Try.prog 23 #[.pointer (some ⟨N, 0, none⟩)] w fun e w' => e = .returned (.string ⟨ts.flatten.toArray⟩) ∧ Below w.heap.size w w' := by
  have hb0 : Below w.heap.size w (w.alloc (.cells #[.pointer none, .slice none 0 0] 71)) := (Below.refl _ _).alloc (Nat.le_refl _) _
  have hN : N < w.heap.size := World.block_lt_of_cell? w _ h
  have c1 := put_list B0 w.heap.size N w.heap.size ts sv [] _ ((hb0.cell (p := ⟨N, 3, none⟩) hN).trans h) (hts.below hb0) (Nat.le_refl _) (fresh_holds w) (by simpa using hlen)
  have Hb0 := Lib.hid hb0
  clear hts h hb0 hlen
  go_enter Try.func23, Try.ntmps23
  go_wp2_with fail
  refine c1.mono ?_
  rintro e w' ⟨rfl, q1, q2⟩
  have c2 := Try.Builder_String_any w.heap.size w.heap.size ts.flatten w' (by simpa using q1.1) q1.2
  have HW := Lib.hid (Hb0.out.trans q2)
  clear q1 q2 c1
  go_wp2_with fail
  refine c2.mono ?_
  rintro e w'' ⟨rfl, q3⟩
  have HW2 := Lib.hid (HW.out.trans q3)
  clear q3 c2 HW
  go_wp2
  go_ret
  exact ⟨rfl, HW2.out⟩

theorem infoNode : (Try.prog.info? 55).map (fun i => (i.zero, i.size, i.bytes)) = some (some .nilIface, 1, 16) := by kernel_rfl

/-- Behind k rounds: the list's own block, its row of k nodes, and what each prints. -/
def RowAt (B0 T N : Nat) (w0 : World) (ts : List (List UInt8)) (k : Nat) (v : Value) (vs : List Value) (wr : World) : Prop :=
  wr.heap[N]? = some (.cells #[.int .i64 0, .int .i64 0, .pointer none, v] T (0, 0)) ∧ wr.ownsRow N 55 1 v k vs ∧ (∀ i, i < k → IsNode B0 wr.heap.size (vs.getD i .nilIface) (ts.getD i []) wr) ∧ Below N w0 wr

theorem own_drew {w : World} {base e size n : Nat} {v : Value} {xs : List Value} (h : w.ownsRow base e size v n xs) : w.drew.ownsRow base e size v n xs := h

/-- One round more: a new node, made in w3 behind wr, is laid at the row's end. -/
theorem RowAt.step {B0 T N k : Nat} {w0 wr w3 w1 : World} {ts : List (List UInt8)} {v v' x : Value} {vs : List Value} (h : RowAt B0 T N w0 ts k v vs wr) (hB0 : B0 ≤ N) (hb3 : Below wr.heap.size wr w3) (hx : IsNode B0 w3.heap.size x (ts.getD k []) w3)
    (hown : w1.ownsRow N 55 1 v' (k + 1) (vs ++ [x])) (hg : w3.grownBy w1 v.ownBlock) (hT : T ∉ [74, 68, 77, 80, 86, 89, 51, 5, 55]) :
    w1.heap[N]? = some (.cells #[.int .i64 0, .int .i64 0, .pointer none, v] T (0, 0)) ∧ RowAt B0 T N w0 ts (k + 1) v' (vs ++ [x]) (w1.setCell ⟨N, 3, none⟩ v') := by
  obtain ⟨hN, ho, hn, hb⟩ := h
  have hT55 : T ≠ 55 := fun e => hT (by simp [e])
  have hT' : T ∉ [74, 68, 77, 80, 86, 89, 51, 5] := fun e => hT (by simp at e ⊢; omega)
  have hNlt : N < wr.heap.size := by
    rcases Nat.lt_or_ge N wr.heap.size with h' | h'
    · exact h'
    · simp [Array.getElem?_eq_none h'] at hN
  have hne : v.ownBlock ≠ some N := Lib.ownBlock_ne ho hN hT55
  have hN3 : w3.heap[N]? = some (.cells #[.int .i64 0, .int .i64 0, .pointer none, v] T (0, 0)) := (hb3.block N hNlt).trans hN
  have hN1 : w1.heap[N]? = some (.cells #[.int .i64 0, .int .i64 0, .pointer none, v] T (0, 0)) := (hg.block N (Nat.lt_of_lt_of_le hNlt hb3.size) (fun e => hne e.symm)).trans hN3
  have hk3 : Lib.OthersKept 55 (some N) w3 w3 := Lib.OthersKept.refl _ _ _
  have hrow : ∀ g, v.ownBlock = some g → ∃ c fz, w3.heap[g]? = some (.cells c 55 fz) := fun g hg' => by
    have hlt := (ho.lt g hg').2
    rcases ho.2 with ⟨rfl, _⟩ | ⟨g', cap, cur, rfl, _, hgg, _⟩
    · simp [Value.ownBlock] at hg'
    · simp [Value.ownBlock] at hg'
      subst hg'
      exact ⟨cur, (0, 0), (hb3.block g' hlt).trans hgg⟩
  have hk1 : Lib.OthersKept 55 (some N) w3 (w1.setCell ⟨N, 3, none⟩ v') := (hk3.grown hg hrow).setCell ⟨N, 3, none⟩ rfl v'
  have hbl3 : Below N w3 (w1.setCell ⟨N, 3, none⟩ v') := ((Below.refl N w3).grown hg (Nat.le_trans (Nat.le_of_lt hNlt) hb3.size) (fun g hg' => (ho.lt g hg').1)).setCell (p := ⟨N, 3, none⟩) (Nat.le_refl _) v'
  have hsz : w3.heap.size ≤ (w1.setCell ⟨N, 3, none⟩ v').heap.size := hbl3.size
  refine ⟨hN1, ?_, ?_, fun i hi => ?_, (hb.trans (hb3.mono (Nat.le_of_lt hNlt))).trans hbl3⟩
  · simp [World.setCell, Array.getElem?_modify, hN1]
  · exact hown.kept (row := some N) ⟨rfl, rfl, rfl, by simp [World.setCell], fun j _ hj => Below.heap_setCell _ _ _ _ (fun e => hj (by simp [e]))⟩ (Or.inr (Lib.ownBlock_ne hown hN1 hT55))
  · have hl : vs.length = k := by have := ho.1; simpa using this
    by_cases hik : i < k
    · have e1 : (vs ++ [x]).getD i .nilIface = vs.getD i .nilIface := by
        simp only [List.getD_eq_getElem?_getD]; rw [List.getElem?_append_left (by omega)]
      rw [e1]
      exact (((hn i hik).below hb3).kept (hbl3.mono hB0) hk1 ⟨_, _, hN3⟩ (by decide) hT').mono (Nat.le_trans hb3.size hsz)
    · obtain rfl : i = k := by omega
      have e1 : (vs ++ [x]).getD i .nilIface = x := by
        simp only [List.getD_eq_getElem?_getD]; rw [List.getElem?_append_right (by omega)]; simp [hl]
      rw [e1]
      exact (hx.kept (hbl3.mono hB0) hk1 ⟨_, _, hN3⟩ (by decide) hT').mono hsz

/-- The rows of all rounds, as a list of nodes. -/
theorem RowAt.nodes {B0 T N k : Nat} {w0 wr : World} {ts : List (List UInt8)} {v : Value} {vs : List Value} (h : RowAt B0 T N w0 ts k v vs wr) (hk : k = ts.length) : Nodes B0 wr.heap.size ts v wr := by
  obtain ⟨hN, ho, hn, hb⟩ := h
  subst hk
  rcases ho.2 with ⟨rfl, h0⟩ | ⟨g, cap, cur, rfl, _, hgg, hle, hcap, hcs, htake⟩
  · exact ⟨none, 0, by rw [h0], by omega, by unfold maxLen; omega, fun i hi => absurd hi (by omega)⟩
  · refine ⟨some ⟨g, 0, none⟩, cap, rfl, hle, hcap, fun i hi => ⟨g, 0, vs.getD i .nilIface, rfl, ?_, ?_, hn i hi⟩⟩
    · rcases Nat.lt_or_ge g wr.heap.size with h' | h'
      · exact h'
      · simp [Array.getElem?_eq_none h'] at hgg
    · rw [Nat.zero_add, Lib.cell_of_heap hgg]
      have hvl : vs.length = ts.length := by have := ho.1; simpa using this
      have e1 : vs.getD i .nilIface = (cur.toList.take (ts.length * 1)).getD i .nilIface := by rw [htake]
      have hi2 : i < cur.size := by omega
      rw [e1, List.getD_eq_getElem?_getD, List.getElem?_take_of_lt (by omega)]
      simp [hi2]

theorem joined_flatten (ss : List ByteArray) : (ss.map (·.data.toList)).flatten = joined ss := by
  induction ss with
  | nil => rfl
  | cons s r ih => simp [joined, ih]

/-- Three blocks more, and a draw. -/
theorem three (w : World) (a b c : Obj) : (((w.alloc a).alloc b).alloc c).drew.heap[w.heap.size]? = some a ∧ (((w.alloc a).alloc b).alloc c).drew.heap[w.heap.size + 1]? = some b ∧ (((w.alloc a).alloc b).alloc c).drew.heap[w.heap.size + 1 + 1]? = some c ∧
    (((w.alloc a).alloc b).alloc c).drew.heap.size = w.heap.size + 3 ∧ Below w.heap.size w (((w.alloc a).alloc b).alloc c).drew := by
  refine ⟨?_, ?_, ?_, ?_, ((((Below.refl _ w).alloc (Nat.le_refl _) _).alloc (by simp) _).alloc (by simp; omega) _).drew⟩
  · show (((w.heap.push a).push b).push c)[w.heap.size]? = some a
    rw [Array.getElem?_push, if_neg (by simp; omega), Array.getElem?_push, if_neg (by simp)]; simp
  · show (((w.heap.push a).push b).push c)[w.heap.size + 1]? = some b
    rw [Array.getElem?_push, if_neg (by simp), Array.getElem?_push, if_pos (by simp)]
  · show (((w.heap.push a).push b).push c)[w.heap.size + 1 + 1]? = some c
    rw [Array.getElem?_push, if_pos (by simp)]
  · show (((w.heap.push a).push b).push c).size = _
    simp

/-- A text's node in new memory. -/
theorem text_node (B0 : Nat) (s : ByteArray) (cap fr : Nat) (C : Obj) (w : World) (hB0 : B0 ≤ w.heap.size) (h1 : s.size ≤ cap) (h2 : cap ≤ maxLen) :
    IsNode B0 (((w.alloc (.cells (bytesRow s cap) 5 (fr, fr + 1))).alloc (.cells #[.int .i64 0, .int .i64 0, .pointer none, .slice (some ⟨w.heap.size, 0, none⟩) s.size cap] 51)).alloc C).drew.heap.size (.iface 48 (.pointer (some ⟨w.heap.size + 1, 0, none⟩))) s.data.toList
      (((w.alloc (.cells (bytesRow s cap) 5 (fr, fr + 1))).alloc (.cells #[.int .i64 0, .int .i64 0, .pointer none, .slice (some ⟨w.heap.size, 0, none⟩) s.size cap] 51)).alloc C).drew := by
  obtain ⟨ha, hb, hc, hsz, hbl⟩ := three w (.cells (bytesRow s cap) 5 (fr, fr + 1)) (.cells #[.int .i64 0, .int .i64 0, .pointer none, .slice (some ⟨w.heap.size, 0, none⟩) s.size cap] 51) C
  have hs : s.data.toList.length = s.size := by rw [Array.length_toList]; rfl
  refine ⟨by rw [hsz]; omega, w.heap.size + 1, .inr (.inr (.inr (.inr (.inr (.inr (.inr (.inr ⟨rfl, .slice (some ⟨w.heap.size, 0, none⟩) s.size cap, ⟨by rw [hsz]; omega, _, _, hb, rfl⟩, ?_⟩)))))))⟩
  refine ⟨some ⟨w.heap.size, 0, none⟩, cap, by rw [hs], by rw [hs]; exact h1, h2, fun _ => ⟨w.heap.size, 0, _, _, rfl, by rw [hsz]; omega, ha, fun i hi => ?_⟩⟩
  rw [Nat.zero_add, bytesRow_at s cap i (by simpa using hi)]
  simp

set_option maxRecDepth 100000 in
set_option maxHeartbeats 1000000 in
theorem print_texts (B : Nat) (ss : List ByteArray) (sv : Value) (w : World) (hss : Strs B ss sv w) (hB : B ≤ w.heap.size) (hlen : (joined ss).length ≤ 140737488355328) (hn : ss.length ≤ 1000000000) (hsz : ∀ s ∈ ss, s.size ≤ 1000000000) :
    Calls Try.prog 12 #[sv] w fun e w' => e = .returned (.string ⟨(joined ss).toArray⟩) ∧ Below w.heap.size w w' := by
  obtain ⟨i0, hi, hz0, hz1, hz2⟩ := info_parts infoNode
  have Hi := Lib.hid hi
  have Hz0 := Lib.hid hz0
  have Hz1 := Lib.hid hz1
  have Hz2 := Lib.hid hz2
  clear hi hz0 hz1 hz2
  have hcv2 := fun w s => run_bytes_of_string (P := Try.prog) w 9 49 5 s Try.underlying9 Try.underlying49 Try.underlying5
  have Hss := Lib.hid hss
  obtain ⟨ao, cap, rfl, h1, h2, h3⟩ := hss
  clear h3
  obtain ⟨n, hn'⟩ : ∃ n, n = ss.length := ⟨_, rfl⟩
  rw [← hn'] at h1 hn
  rw [← hn']
  unfold maxLen at h2
  have Hn := Lib.hid hn'
  have Hlen := Lib.hid hlen
  have Hsz := Lib.hid hsz
  clear hn' hlen hsz
  obtain ⟨N, hN⟩ : ∃ N, N = w.heap.size := ⟨_, rfl⟩
  have HN := Lib.hid hN
  clear hN
  go_enter Try.func12, Try.ntmps12
  go_wp2
  rw [← HN.out]
  go_loopw [10] (fun i wr => ∃ k : Nat, k ≤ n ∧ i = .int .i64 k ∧ ∃ v vs, Hid (RowAt B 47 N w (ss.map (·.data.toList)) k v vs wr)) (fun i _ => n - (intOf i).toNat)
  case atStart =>
    refine ⟨0, Nat.zero_le _, rfl, .slice none 0 0, [], ?_, World.ownsRow_nil _ _ _ _, fun i hi => absurd hi (Nat.not_lt_zero _), ?_⟩
    · rw [HN.out]; exact heap_alloc_new w _
    · rw [HN.out]; exact (Below.refl _ _).alloc (Nat.le_refl _) _
  case round =>
    obtain ⟨k, hk, rfl, v, vs, hR⟩ := hrel
    by_cases hlt : k < n
    · have hlt' : k < ss.length := by rw [← Hn.out]; exact hlt
      obtain ⟨_, _, hv, _, _, h3⟩ := Hss.out.below (hR.out.2.2.2.mono (by rw [HN.out]; exact hB))
      obtain ⟨c, off, hao, hcB, hc⟩ := h3 k hlt'
      obtain rfl : ao = some ⟨c, off, none⟩ := by injection hv with e1 _ _; rw [e1, hao]
      have hsk : (ss.getD k .empty).size ≤ 1000000000 := by
        rw [List.getD_eq_getElem?_getD, List.getElem?_eq_getElem hlt']
        exact Hsz.out _ (List.getElem_mem hlt')
      have c3 : wr.cell? ⟨N, 3, none⟩ = some v := by rw [Lib.cell_of_heap hR.out.1]; rfl
      have hsd : (ss.map (·.data.toList)).getD k [] = (ss.getD k .empty).data.toList := by
        simp only [List.getD_eq_getElem?_getD, List.getElem?_map, List.getElem?_eq_getElem hlt', Option.map_some, Option.getD_some]
      clear hv h3 hao
      generalize ss.getD k .empty = s at hc hsk hsd
      have Hsd := Lib.hid hsd
      clear hsd
      have hge := grownCap_ge wr s.size 0 5
      have hle := grownCap_le_maxLen wr s.size 0 5 (by unfold maxLen; omega)
      have Hge := Lib.hid hge
      have Hle := Lib.hid hle
      clear hge hle
      have hkb : k + 1 ≤ 1000000001 := by omega
      go_wp2_with (at_builtin; refine wpList_append_own _ rfl _ _ 45 rfl N 55 i0 .nilIface 1 16 Try.underlying45 Hi.out Hz0.out Hz1.out Hz2.out rfl (by decide) v k vs rfl (own_drew (((hR.out.2.1.alloc _).alloc _).alloc _)) ⟨wr.heap.size + 1 + 1, 0, none⟩ 1 1 [.iface 48 (.pointer (some ⟨wr.heap.size + 1, 0, none⟩))] rfl rfl ?c1 ?c2 ?c3 ?c4 ?c5 ?_)
      case c1 =>
        intro j u hj
        match j, hj with
        | 0, hj =>
          simp at hj; subst hj
          rw [Addr.add_lit, Lib.cell_of_heap (three _ _ _ _).2.2.1]
          rfl
      case c2 => intro u hu; simp at hu; subst hu; rfl
      case c3 => unfold maxLen; omega
      case c4 => omega
      case c5 => have := hR.out.2.2.2.size; rw [HN.out]; simp; omega
      intro v' w1 hown' hgrow _
      have hx := text_node B s (grownCap wr s.size 0 5) (bytesRow s (grownCap wr s.size 0 5)).size (.cells #[.iface 48 (.pointer (some ⟨wr.heap.size + 1, 0, none⟩))] 55) wr (Nat.le_trans hB (by rw [← HN.out]; have := hR.out.2.2.2.size; rw [HN.out]; exact this)) Hge.out Hle.out
      have hgd : (ss.map (·.data.toList)).getD k [] = s.data.toList := Hsd.out
      obtain ⟨hN1, hR1⟩ := hR.out.step (by rw [HN.out]; exact hB) (three _ _ _ _).2.2.2.2 (by rw [hgd]; exact hx) hown' hgrow (by decide)
      have d3 : w1.cell? ⟨N, 3, none⟩ = some v := by rw [Lib.cell_of_heap hN1]; rfl
      have f3 : w1.frozen? ⟨N, 3, none⟩ = false := Lib.frozen_of_heap hN1 3
      obtain ⟨ao', cap', rfl⟩ : ∃ ao' cap', v' = .slice ao' (k + 1) cap' := by
        rcases hown'.2 with ⟨hv, h0⟩ | ⟨g, cap, cur, hv, _⟩
        · exact ⟨none, 0, by omega⟩
        · exact ⟨_, _, hv⟩
      have HR1 := Lib.hid hR1
      clear hR1 hx hown' hgrow hR hN1 hgd
      go_wp2
      go_roundw
      case rel => exact ⟨k + 1, by omega, by go_num, _, _, HR1.out⟩
      case measure => simp [intOf]; omega
    · have hkn : k = ss.length := by rw [← Hn.out]; omega
      have c3 : wr.cell? ⟨N, 3, none⟩ = some v := by rw [Lib.cell_of_heap hR.out.1]; rfl
      have hnodes := hR.out.nodes (ts := ss.map (·.data.toList)) (by rw [hkn]; simp)
      have hfl : (ss.map (·.data.toList)).flatten = joined ss := joined_flatten ss
      have c1 := list_string B N _ v wr c3 hnodes (by rw [hfl]; exact Hlen.out)
      rw [hfl] at c1
      have hsz : w.heap.size ≤ wr.heap.size := hR.out.2.2.2.size
      have HB := Lib.hid hR.out.2.2.2
      clear hkn hR hnodes hfl
      go_wp2_with fail
      refine c1.mono ?_
      rintro e w' ⟨rfl, q1⟩
      have HB2 := Lib.hid (HB.out.trans (q1.mono (by rw [HN.out]; exact hsz)))
      clear q1 c1
      go_wp2
      go_ret
      exact ⟨rfl, by rw [← HN.out]; exact HB2.out⟩

end Go.Proofs.Yteikiecbjjmkoaa
