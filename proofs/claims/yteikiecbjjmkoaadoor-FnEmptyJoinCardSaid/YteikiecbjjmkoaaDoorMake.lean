/- EmptyLists: the tree is made, and IsEmptyTree asked of it. -/
import Derived.Test.YteikiecbjjmkoaaDoorRow
import Derived.Deep.RegionLaw
import Derived.Deep.AppendLies
import Derived.Maps.AppendAt
import Derived.OwnWalk
namespace Go.Proofs.YteikiecbjjmkoaaDoor
open Go.RowKit Go.Proofs

theorem infoNode : (Tryd.prog.info? 52).map (fun i => (i.zero, i.size, i.bytes)) = some (some .nilIface, 1, 16) := by kernel_rfl

/-- Three blocks more. -/
theorem three' (w : World) (a b c : Obj) : (((w.alloc a).alloc b).alloc c).heap[w.heap.size]? = some a ∧ (((w.alloc a).alloc b).alloc c).heap[w.heap.size + 1]? = some b ∧ (((w.alloc a).alloc b).alloc c).heap[w.heap.size + 1 + 1]? = some c ∧
    (((w.alloc a).alloc b).alloc c).heap.size = w.heap.size + 3 ∧ Below w.heap.size w (((w.alloc a).alloc b).alloc c) := by
  refine ⟨?_, ?_, ?_, ?_, (((Below.refl _ w).alloc (Nat.le_refl _) _).alloc (by simp) _).alloc (by simp; omega) _⟩
  · show (((w.heap.push a).push b).push c)[w.heap.size]? = some a
    rw [Array.getElem?_push, if_neg (by simp; omega), Array.getElem?_push, if_neg (by simp)]; simp
  · show (((w.heap.push a).push b).push c)[w.heap.size + 1]? = some b
    rw [Array.getElem?_push, if_neg (by simp), Array.getElem?_push, if_pos (by simp)]
  · show (((w.heap.push a).push b).push c)[w.heap.size + 1 + 1]? = some c
    rw [Array.getElem?_push, if_pos (by simp)]
  · show (((w.heap.push a).push b).push c).size = _
    simp

/-- Two blocks more. -/
theorem two' (w : World) (a b : Obj) : ((w.alloc a).alloc b).heap[w.heap.size + 1]? = some b ∧ ((w.alloc a).alloc b).heap.size = w.heap.size + 2 ∧ Below w.heap.size w ((w.alloc a).alloc b) := by
  refine ⟨?_, ?_, ((Below.refl _ w).alloc (Nat.le_refl _) _).alloc (by simp) _⟩
  · show ((w.heap.push a).push b)[w.heap.size + 1]? = some b
    rw [Array.getElem?_push, if_pos (by simp)]
  · show ((w.heap.push a).push b).size = _
    simp

theorem below_drewN {B : Nat} {a w : World} (h : Below B a w) (n : Nat) : Below B a (w.drewN n) := ⟨h.os, h.tape, h.output, h.size, h.block⟩

/-- A text's node in new memory. -/
theorem text_leaf (it : Item) (cap fr : Nat) (C : Obj) (w : World) (h1 : it.text.size ≤ cap) (h2 : cap ≤ maxLen) (hk : it.kind = textK) :
    IsLeaf w.heap.size (w.heap.size + 3) (.iface 38 (.pointer (some ⟨w.heap.size + 1, 0, none⟩))) it
      (((w.alloc (.cells (bytesRow it.text cap) 5 (fr, fr + 1))).alloc (.cells #[.int .i64 0, .int .i64 0, .pointer none, .slice (some ⟨w.heap.size, 0, none⟩) it.text.size cap] 41)).alloc C) := by
  obtain ⟨ha, hb, hc, hsz, hbl⟩ := three' w (.cells (bytesRow it.text cap) 5 (fr, fr + 1)) (.cells #[.int .i64 0, .int .i64 0, .pointer none, .slice (some ⟨w.heap.size, 0, none⟩) it.text.size cap] 41) C
  refine .inl ⟨hk, w.heap.size + 1, w.heap.size, cap, _, _, _, _, rfl, by omega, by omega, Nat.le_refl _, by omega, hb, rfl, h1, h2, ha, fun j hj => ?_⟩
  have hj' : j < it.text.data.size := hj
  rw [bytesRow_at it.text cap j hj']
  have : it.text.get! j = it.text.data[j] := by
    show it.text.data[j]! = _
    rw [getElem!_pos it.text.data j hj']
  rw [this]

theorem own_drew {w : World} {base e size n : Nat} {v : Value} {xs : List Value} (h : w.ownsRow base e size v n xs) : w.drew.ownsRow base e size v n xs := h
theorem leaf_drew {lo hi : Nat} {x : Value} {it : Item} {w : World} (h : IsLeaf lo hi x it w) : IsLeaf lo hi x it w.drew := h
theorem news3 (w : World) (a b : Obj) (u : Value) (S : Nat) (hS : w.heap.size + 1 + 1 = S) : ∀ j x, [u][j]? = some x → (((w.alloc a).alloc b).alloc (.cells #[u] 52)).drew.drew.cell? ((⟨S, 0, none⟩ : Addr).add j) = some x := by
  subst hS
  exact World.news_of_block (w := (((w.alloc a).alloc b).alloc (.cells #[u] 52)).drew.drew) (cs := #[u]) (t := 52) (fr := (0, 0)) (three' w a b (.cells #[u] 52)).2.2.1
theorem news2 (w : World) (a : Obj) (u : Value) (S : Nat) (hS : w.heap.size + 1 = S) : ∀ j x, [u][j]? = some x → ((w.alloc a).alloc (.cells #[u] 52)).drew.cell? ((⟨S, 0, none⟩ : Addr).add j) = some x := by
  subst hS
  exact World.news_of_block (w := ((w.alloc a).alloc (.cells #[u] 52)).drew) (cs := #[u]) (t := 52) (fr := (0, 0)) (two' w a (.cells #[u] 52)).1
theorem news2p (w : World) (a : Obj) (u : Value) (S : Nat) (hS : w.heap.size + 1 = S) : ∀ j x, [u][j]? = some x → ((w.alloc a).alloc (.cells #[u] 52)).cell? ((⟨S, 0, none⟩ : Addr).add j) = some x := by
  subst hS
  exact World.news_of_block (w := ((w.alloc a).alloc (.cells #[u] 52))) (cs := #[u]) (t := 52) (fr := (0, 0)) (two' w a (.cells #[u] 52)).1

theorem kind_cases (k : ByteArray) : k = textK ∨ (k ≠ textK ∧ k = commentK) ∨ (k ≠ textK ∧ k ≠ commentK) := by
  by_cases h1 : k = textK
  · exact .inl h1
  · by_cases h2 : k = commentK
    · exact .inr (.inl ⟨h1, h2⟩)
    · exact .inr (.inr ⟨h1, h2⟩)

theorem ne_toList {k : ByteArray} {l : List UInt8} (h : k ≠ ⟨l.toArray⟩) : (k.toList == l) = false := by
  rw [beq_eq_false_iff_ne]
  intro e
  apply h
  have e1 : k.data.toList = l := by rw [← Lib.toList_data]; exact e
  cases k with | mk d => simp only at e1; rw [← e1]

theorem Items.len {B : Nat} {l : List Item} {v : Value} {w : World} (h : Items B l v w) : ∃ ao cap, v = .slice ao l.length cap := by
  obtain ⟨ao, cap, hv, _⟩ := h; exact ⟨ao, cap, hv⟩

theorem ptr_new {w : World} {N : Nat} {o : Obj} (h : w.heap[N]? = some o) : N < w.heap.size := lt_of_heap h

/-- The sizes of two lists, one behind the other, that are each within the bound. -/
def smallss2 (l : List (List Item)) : Prop := l.length ≤ 4294967294 ∧ ∀ i, i < l.length → smalls (l.getD i [])

theorem wide {l : List (List Item)} (h : smallss l) : smallss2 l := ⟨Nat.le_trans h.1 (by decide), h.2⟩

set_option maxRecDepth 100000 in
set_option maxHeartbeats 4000000 in
/-- impl.EmptyLists. -/
theorem empty_lists (B : Nat) (ll : List (List Item)) (v : Value) (w : World) (h : Lists B ll v w) (hB : B ≤ w.heap.size) (hs : smallss2 ll) (hT : Tabs w) :
    Calls Tryd.prog 6 #[v] w fun e w' => e = .returned (.bool (emptyLists ll)) ∧ Below w.heap.size w w' := by
  obtain ⟨i0, hi, hz0, hz1, hz2⟩ := info_parts infoNode
  have Hi := Lib.hid hi
  have Hz0 := Lib.hid hz0
  have Hz1 := Lib.hid hz1
  have Hz2 := Lib.hid hz2
  clear hi hz0 hz1 hz2
  have hcv2 := fun w s => run_bytes_of_string (P := Tryd.prog) w 9 39 5 s Tryd.underlying9 Tryd.underlying39 Tryd.underlying5
  have Hp := Lib.hid h
  have HT := Lib.hid hT
  have Hs := Lib.hid hs.2
  have hn := hs.1
  obtain ⟨ao, cap, rfl, h1, h2, h3⟩ := h
  clear h3 hs hT
  unfold maxLen at h2
  obtain ⟨n, hn'⟩ : ∃ n, n = ll.length := ⟨_, rfl⟩
  rw [← hn'] at h1 hn
  rw [← hn']
  have Hn := Lib.hid hn'
  obtain ⟨A, hA⟩ : ∃ A, A = w.heap.size := ⟨_, rfl⟩
  have HA := Lib.hid hA
  have hBA : B ≤ A := by rw [hA]; exact hB
  obtain ⟨R, hR⟩ : ∃ R, R = emptyLists ll := ⟨_, rfl⟩
  rw [← hR]
  have HR := Lib.hid hR
  clear hn' hA hR
  go_enter Tryd.func6, Tryd.ntmps6
  go_wp2
  rw [← HA.out]
  go_loopw [13] (fun i wr => ∃ k : Nat, k ≤ n ∧ i = .int .i64 k ∧ ∃ x xs, Hid (OutAt A w ll k x xs wr)) (fun i _ => n - (intOf i).toNat)
  case atStart =>
    refine ⟨0, Nat.zero_le _, rfl, .slice none 0 0, [], ?_, World.ownsRow_nil _ _ _ _, fun i hi => absurd hi (Nat.not_lt_zero _), ?_⟩
    · rw [HA.out]; exact heap_alloc_new w _
    · rw [HA.out]; exact (Below.refl _ _).alloc (Nat.le_refl _) _
  case round =>
    obtain ⟨k, hk, rfl, x, xs, hO⟩ := hrel
    by_cases hlt : k < n
    · have hlt' : k < ll.length := by rw [← Hn.out]; exact hlt
      obtain ⟨_, _, hv, _, _, h3⟩ := Hp.out.below (hO.out.2.2.2.mono hBA)
      obtain ⟨b, off, z, hao, hbB, hc, hz⟩ := h3 k hlt'
      obtain rfl : ao = some ⟨b, off, none⟩ := by injection hv with e1 _ _; rw [e1, hao]
      have hAr : A < wr.heap.size := lt_of_heap hO.out.1
      have hBr : B ≤ wr.heap.size := by omega
      have hsk := Hs.out k hlt'
      have Hz := Lib.hid hz
      have Hsk := Lib.hid hsk.2
      have hsk1 := hsk.1
      obtain ⟨ao2, cap2, rfl, g1, g2, _⟩ := hz
      unfold maxLen at g2
      clear hv h3 hao hsk
      obtain ⟨its, hits⟩ : ∃ its, its = ll.getD k [] := ⟨_, rfl⟩
      rw [← hits] at hc Hz Hsk hsk1 g1
      have Hits := Lib.hid hits
      clear hits
      obtain ⟨m, hm'⟩ : ∃ m, m = its.length := ⟨_, rfl⟩
      rw [← hm'] at hc g1 hsk1
      have Hm := Lib.hid hm'
      rw [← hm'] at Hz
      clear hm'
      obtain ⟨N, hN⟩ : ∃ N, N = wr.heap.size := ⟨_, rfl⟩
      have HN := Lib.hid hN
      have hBN : B ≤ N := by rw [hN]; exact hBr
      clear hN
      obtain ⟨wo, hwo⟩ : ∃ wo, wo = wr := ⟨_, rfl⟩
      rw [← hwo] at Hz
      have Hwo := Lib.hid hwo
      clear hwo
      go_wp2
      rw [← HN.out]
      go_loopw [21] (fun i wr => ∃ j : Nat, j ≤ m ∧ i = .int .i64 j ∧ ∃ y ys, Hid (RowAt N wo its j y ys wr)) (fun i _ => m - (intOf i).toNat)
      case atStart =>
        refine ⟨0, Nat.zero_le _, rfl, .slice none 0 0, [], ?_, World.ownsRow_nil _ _ _ _, fun i hi => absurd hi (Nat.not_lt_zero _), ?_⟩
        · rw [HN.out]; exact heap_alloc_new wr _
        · rw [HN.out, Hwo.out]; exact (Below.refl _ _).alloc (Nat.le_refl _) _
      case round =>
        obtain ⟨j, hj, rfl, y, ys, hQ⟩ := hrel
        by_cases hjt : j < m
        · have hjt' : j < its.length := by rw [← Hm.out]; exact hjt
          have hz2 := Hz.out.below (hQ.out.2.2.2.mono hBN)
          obtain ⟨_, _, hv, _, _, h3⟩ := hz2
          obtain ⟨b2, off2, hao, hbB2, c0, c1⟩ := h3 j hjt'
          obtain rfl : ao2 = some ⟨b2, off2, none⟩ := by injection hv with e1 _ _; rw [e1, hao]
          have hsm := Hsk.out j hjt'
          have hNq : N < wr.heap.size := lt_of_heap hQ.out.1
          have n3 : wr.cell? ⟨N, 3, none⟩ = some y := by rw [Lib.cell_of_heap hQ.out.1]; rfl
          have hit : (⟨(its.getD j default).kind, (its.getD j default).text⟩ : Item) = its.getD j default := rfl
          have Hit := Lib.hid hit
          have htx := hsm.2
          clear hv h3 hao hsm hit
          generalize (its.getD j default).kind = kd at *
          generalize (its.getD j default).text = tx at *
          obtain ⟨wa, hwa⟩ : ∃ wa, wa = wr.alloc (.cells #[.string kd, .string tx] 27) := ⟨_, rfl⟩
          have hba : Below wr.heap.size wr wa := by rw [hwa]; exact (Below.refl _ _).alloc (Nat.le_refl _) _
          have hsa : wa.heap.size = wr.heap.size + 1 := by rw [hwa]; exact World.size_alloc ..
          have hna : wa.heap[wr.heap.size]? = some (.cells #[.string kd, .string tx] 27) := by rw [hwa]; exact heap_alloc_new wr _
          have a0 : wa.cell? ⟨wr.heap.size, 0, none⟩ = some (.string kd) := by rw [Lib.cell_of_heap hna]; rfl
          have a1 : wa.cell? ⟨wr.heap.size, 1, none⟩ = some (.string tx) := by rw [Lib.cell_of_heap hna]; rfl
          have a3 : wa.cell? ⟨N, 3, none⟩ = some y := (hba.cell (p := ⟨N, 3, none⟩) hNq).trans n3
          have ho2 := own_below hQ.out.2.1 hba
          have hk1 : j + 1 ≤ maxLen := by unfold maxLen; omega
          have hk2 : (j + 1) * 16 ≤ 140737488355328 := by omega
          have hgrow1 := fun W => grownCap_ge W tx.size 0 5
          have hgrow2 := fun W => grownCap_le_maxLen W tx.size 0 5 (by unfold maxLen; omega)
          have Hg1 := Lib.hid hgrow1
          have Hg2 := Lib.hid hgrow2
          clear hgrow1 hgrow2
          rcases kind_cases kd with hkd | ⟨hk1', hkd⟩ | ⟨hkt, hkc⟩
          · subst hkd
            have HL : Hid (∀ (W : World) cap fr C, W.heap.size = wr.heap.size + 1 → tx.size ≤ cap → cap ≤ maxLen → IsLeaf wr.heap.size (wr.heap.size + 1 + 3) (.iface 38 (.pointer (some ⟨wr.heap.size + 1 + 1, 0, none⟩))) (its.getD j default)
                (((W.alloc (.cells (bytesRow tx cap) 5 (fr, fr + 1))).alloc (.cells #[.int .i64 0, .int .i64 0, .pointer none, .slice (some ⟨wr.heap.size + 1, 0, none⟩) tx.size cap] 41)).alloc C)) := fun W cap fr C hW h1 h2 => by
              rw [← Hit.out, ← hW]
              exact (text_leaf ⟨textK, tx⟩ cap fr C W h1 h2 rfl).low (by omega)
            clear Hit
            unfold textK at *
            subst hwa
            have k1 := fun o => ((hba.alloc (by omega) o).cell (p := ⟨N, 3, none⟩) hNq).trans n3
            have k2 := fun o o2 => (((hba.alloc (by omega) o).alloc (by first | (simp; done) | (simp; omega)) o2).cell (p := ⟨N, 3, none⟩) hNq).trans n3
            have k3 := fun o o2 o3 => ((((hba.alloc (by omega) o).alloc (by first | (simp; done) | (simp; omega)) o2).alloc (by first | (simp; done) | (simp; omega)) o3).cell (p := ⟨N, 3, none⟩) hNq).trans n3
            have Hba := Lib.hid hba
            have Hsa := Lib.hid hsa
            clear hba hsa
            go_wp2_with fail
            go_region_law (first
              | (refine step_append_lies _ (by rfl) _ _ _ (by rfl) N 52 i0 _ 1 16 Tryd.underlying35 Hi.out Hz0.out Hz1.out Hz2.out rfl (by decide) y j ys (by rfl) (own_drew (own_drew (((ho2.alloc _).alloc _).alloc _))) ⟨wr.heap.size + 1 + 1 + 1, 0, none⟩ 1 1 [.iface 38 (.pointer (some ⟨wr.heap.size + 1 + 1, 0, none⟩))] (by rfl) (by rfl) (news3 _ _ _ _ _ (by simp)) (by simp [Value.oneCell']) (by decide) hk1 hk2 (by first | (simp; done) | (simp; omega)) (wr.heap.size + 1 + 1 + 1 + 1) (by simp) ?_; intro g capg w1 hown1 hgrow hat hlt1; have hst := hQ.out.step (Hba.out.trans ((((((Below.refl _ _).alloc (Nat.le_refl _) _).alloc (by simp) _).alloc (by first | (simp; done) | (simp; omega)) _).drew.drew).mono (by simp))) ((leaf_drew (leaf_drew (HL.out _ _ _ _ Hsa.out (Hg1.out _) (Hg2.out _)))).mono (by simp)) hown1 hgrow; have d3 : w1.cell? ⟨N, 3, none⟩ = some y := (Lib.cell_of_heap hst.1 3).trans rfl; have f3 := Lib.frozen_of_heap hst.1 3; have HR1 := Lib.hid hst.2; clear hst))
            all_goals
              clear hQ hown1 hgrow ho2
              go_wp2
              go_roundw
              case rel => exact ⟨j + 1, by omega, by go_num, _, _, HR1.out⟩
              case measure => simp [intOf]; omega
          · subst hkd
            have HL : Hid (∀ (W : World) lo hi a, IsLeaf lo hi (.iface 42 (.pointer (some a))) (its.getD j default) W) := fun W lo hi a => by
              rw [← Hit.out]
              exact .inr (.inl ⟨hk1', rfl, a, rfl⟩)
            clear Hit hk1'
            unfold commentK at *
            subst hwa
            have k1 := fun o => ((hba.alloc (by omega) o).cell (p := ⟨N, 3, none⟩) hNq).trans n3
            have k2 := fun o o2 => (((hba.alloc (by omega) o).alloc (by first | (simp; done) | (simp; omega)) o2).cell (p := ⟨N, 3, none⟩) hNq).trans n3
            have k3 := fun o o2 o3 => ((((hba.alloc (by omega) o).alloc (by first | (simp; done) | (simp; omega)) o2).alloc (by first | (simp; done) | (simp; omega)) o3).cell (p := ⟨N, 3, none⟩) hNq).trans n3
            have Hba := Lib.hid hba
            have Hsa := Lib.hid hsa
            clear hba hsa
            go_wp2_with fail
            go_region_law (first
              | (refine step_append_lies _ (by rfl) _ _ _ (by rfl) N 52 i0 _ 1 16 Tryd.underlying35 Hi.out Hz0.out Hz1.out Hz2.out rfl (by decide) y j ys (by rfl) (own_drew ((ho2.alloc _).alloc _)) ⟨wr.heap.size + 1 + 1, 0, none⟩ 1 1 [.iface 42 (.pointer (some ⟨wr.heap.size + 1, 0, none⟩))] (by rfl) (by rfl) (news2 _ _ _ _ (by simp)) (by simp [Value.oneCell']) (by decide) hk1 hk2 (by first | (simp; done) | (simp; omega)) (wr.heap.size + 1 + 1 + 1) (by simp) ?_; intro g capg w1 hown1 hgrow hat hlt1; have hst := hQ.out.step (Hba.out.trans (((((Below.refl _ _).alloc (Nat.le_refl _) _).alloc (by simp) _).drew).mono (by simp))) (HL.out _ _ _ _) hown1 hgrow; have d3 : w1.cell? ⟨N, 3, none⟩ = some y := (Lib.cell_of_heap hst.1 3).trans rfl; have f3 := Lib.frozen_of_heap hst.1 3; have HR1 := Lib.hid hst.2; clear hst))
            all_goals
              clear hQ hown1 hgrow ho2
              go_wp2
              go_roundw
              case rel => exact ⟨j + 1, by omega, by go_num, _, _, HR1.out⟩
              case measure => simp [intOf]; omega
          · have HL : Hid (∀ (W : World) lo hi a, IsLeaf lo hi (.iface 45 (.pointer (some a))) (its.getD j default) W) := fun W lo hi a => by
              rw [← Hit.out]
              exact .inr (.inr ⟨hkt, hkc, a, rfl⟩)
            have hn1 := ne_toList hkt
            have hn2 := ne_toList hkc
            clear Hit hkt hkc
            subst hwa
            have Hba := Lib.hid hba
            have Hsa := Lib.hid hsa
            clear hba hsa
            go_wp2_with (at_builtin; refine wpList_append_own_at _ rfl _ _ 35 rfl N 52 i0 .nilIface 1 16 Tryd.underlying35 Hi.out Hz0.out Hz1.out Hz2.out rfl (by decide) y j ys rfl ((ho2.alloc _).alloc _) ⟨wr.heap.size + 1 + 1, 0, none⟩ 1 1 [.iface 45 (.pointer (some ⟨wr.heap.size + 1, 0, none⟩))] rfl rfl (news2p _ _ _ _ (by simp)) ?c2 hk1 hk2 ?c5 ?_)
            case c2 => intro u hu; simp at hu; subst hu; rfl
            case c5 => simp; omega
            intro v' w1 hown1 hgrow _ _
            have hst := hQ.out.step (Hba.out.trans ((((Below.refl _ _).alloc (Nat.le_refl _) _).alloc (by simp) _).mono (by simp))) (HL.out _ _ _ _) hown1 hgrow
            have d3 : w1.cell? ⟨N, 3, none⟩ = some y := (Lib.cell_of_heap hst.1 3).trans rfl
            have f3 := Lib.frozen_of_heap hst.1 3
            have HR1 := Lib.hid hst.2
            obtain ⟨ao', cap', rfl⟩ : ∃ ao' cap', v' = .slice ao' (j + 1) cap' := by
              rcases hown1.2 with ⟨hv, h0⟩ | ⟨g, cap, cur, hv, _⟩
              · exact ⟨none, 0, by omega⟩
              · exact ⟨_, _, hv⟩
            clear hst hQ hown1 hgrow ho2
            go_wp2
            go_roundw
            case rel => exact ⟨j + 1, by omega, by go_num, _, _, HR1.out⟩
            case measure => simp [intOf]; omega
        · have hjm : j = its.length := by rw [← Hm.out]; omega
          have hL : IsList wo.heap.size wr.heap.size (.iface 31 (.pointer (some ⟨N, 0, none⟩))) (ll.getD k []) wr := by
            have hl2 := hQ.out.list hjm
            rw [Hits.out] at hl2
            have hNo : wo.heap.size = N := by rw [Hwo.out]; exact HN.out.symm
            rw [hNo]; exact hl2
          have hO' : OutAt A w ll k x xs wo := by rw [Hwo.out]; exact hO.out
          have hb2 : Below wo.heap.size wo wr := by
            have hNo : wo.heap.size = N := by rw [Hwo.out]; exact HN.out.symm
            rw [hNo]; exact hQ.out.2.2.2
          have hAo : A < wo.heap.size := lt_of_heap hO'.1
          have n3 : wr.cell? ⟨A, 3, none⟩ = some x := by rw [hb2.cell (p := ⟨A, 3, none⟩) hAo, Lib.cell_of_heap hO'.1]; rfl
          have ho2 := own_below hO'.2.1 hb2
          have hAq : A < wr.heap.size := Nat.lt_of_lt_of_le hAo hb2.size
          have hk1 : k + 1 ≤ maxLen := by unfold maxLen; omega
          have hk2 : (k + 1) * 16 ≤ 140737488355328 := by omega
          have HL := Lib.hid hL
          have HO := Lib.hid hO'
          have Hb2 := Lib.hid hb2
          clear hL hO' hb2 hO hQ hjm
          go_wp2_with (at_builtin; refine wpList_append_own_at _ rfl _ _ 35 rfl A 52 i0 .nilIface 1 16 Tryd.underlying35 Hi.out Hz0.out Hz1.out Hz2.out rfl (by decide) x k xs rfl (ho2.alloc _) ⟨wr.heap.size, 0, none⟩ 1 1 [.iface 31 (.pointer (some ⟨N, 0, none⟩))] rfl rfl (World.news_of_block (cs := #[.iface 31 (.pointer (some ⟨N, 0, none⟩))]) (t := 52) (fr := (0, 0)) (heap_alloc_new wr _)) ?c2 hk1 hk2 ?c5 ?_)
          case c2 => intro u hu; simp at hu; subst hu; rfl
          case c5 => simp; omega
          intro v' w1 hown1 hgrow _ hat
          have hst := HO.out.step Hb2.out HL.out ((Below.refl _ _).alloc (Nat.le_refl _) _) hown1 hgrow (by rw [World.size_alloc]; exact hat)
          have d3 : w1.cell? ⟨A, 3, none⟩ = some x := (Lib.cell_of_heap hst.1 3).trans rfl
          have f3 := Lib.frozen_of_heap hst.1 3
          have HR1 := Lib.hid hst.2
          obtain ⟨ao', cap', rfl⟩ : ∃ ao' cap', v' = .slice ao' (k + 1) cap' := by
            rcases hown1.2 with ⟨hv, h0⟩ | ⟨g, cap, cur, hv, _⟩
            · exact ⟨none, 0, by omega⟩
            · exact ⟨_, _, hv⟩
          clear hst hown1 hgrow ho2 hat
          go_wp2
          go_roundw
          case rel => exact ⟨k + 1, by omega, by go_num, _, _, HR1.out⟩
          case measure => simp [intOf]; omega
    · have hkn : k = ll.length := by rw [← Hn.out]; omega
      have hb : Below A w wr := hO.out.2.2.2
      have hT : Tabs wr := HT.out.below (by rw [← HA.out]; exact hb)
      have c1 := hO.out.says hkn hT wr (Below.refl _ _)
      rw [← HR.out] at c1
      have Hb := Lib.hid hb
      have hsz : w.heap.size ≤ wr.heap.size := hb.size
      clear hkn hO hT hb
      go_wp2_with fail
      refine c1.mono ?_
      rintro e w' ⟨rfl, q1⟩
      have HB2 := Lib.hid (Hb.out.trans (q1.mono (by rw [HA.out]; exact hsz)))
      clear q1 c1
      go_wp2
      go_ret
      exact ⟨rfl, by rw [← HA.out]; exact HB2.out⟩

end Go.Proofs.YteikiecbjjmkoaaDoor
