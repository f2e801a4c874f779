/- The walk of FnEmptyLists. -/
import Derived.Test.YteikiecbjjmkoaaDoorMake
import Derived.Test.YteikiecbjjmkoaaDoorWhite
namespace Go.Proofs.YteikiecbjjmkoaaDoor
open Go.RowKit Go.Proofs

theorem empty_nil (w : World) (hT : Tabs w) : Calls Tryd.prog 6 #[.slice none 0 0] w fun e w' => e = .returned (.bool true) ∧ Below w.heap.size w w' :=
  empty_lists w.heap.size [] (.slice none 0 0) w (Lists.nil _ _) (Nat.le_refl _) ⟨by simp, fun i hi => absurd hi (Nat.not_lt_zero _)⟩ hT

def actionK : ByteArray := ⟨#[97, 99, 116, 105, 111, 110]⟩

theorem action_not : emptyLists [[⟨actionK, .empty⟩]] = false := by
  have h1 : ¬ actionK = textK := by decide
  have h2 : ¬ actionK = commentK := by decide
  simp [emptyLists, leafEmpty, h1, h2]

theorem action_list (w : World) (hT : Tabs w) :
    Calls Tryd.prog 6 #[.slice (some ⟨w.heap.size + 1, 0, none⟩) 1 1] ((w.alloc (.cells #[.string actionK, .string ⟨#[]⟩] 27)).alloc (.cells #[.slice (some ⟨w.heap.size, 0, none⟩) 1 1] 25)) fun e w' => e = .returned (.bool false) ∧ Below w.heap.size w w' := by
  obtain ⟨W, hW⟩ : ∃ W, W = ((w.alloc (.cells #[.string actionK, .string ⟨#[]⟩] 27)).alloc (.cells #[.slice (some ⟨w.heap.size, 0, none⟩) 1 1] 25)) := ⟨_, rfl⟩
  obtain ⟨hb, hsz, hbl⟩ := two' w (.cells #[.string actionK, .string ⟨#[]⟩] 27) (.cells #[.slice (some ⟨w.heap.size, 0, none⟩) 1 1] 25)
  have ha : ((w.alloc (.cells #[.string actionK, .string ⟨#[]⟩] 27)).alloc (.cells #[.slice (some ⟨w.heap.size, 0, none⟩) 1 1] 25)).heap[w.heap.size]? = some (.cells #[.string actionK, .string ⟨#[]⟩] 27) := by
    show ((w.heap.push _).push _)[w.heap.size]? = _
    rw [Array.getElem?_push, if_neg (by simp), Array.getElem?_push, if_pos rfl]
  rw [← hW] at hb hsz hbl ha ⊢
  have hl : Lists W.heap.size [[⟨actionK, .empty⟩]] (.slice (some ⟨w.heap.size + 1, 0, none⟩) 1 1) W := by
    refine ⟨_, _, rfl, Nat.le_refl _, by unfold maxLen; omega, fun i hi => ?_⟩
    obtain rfl : i = 0 := by simp at hi; omega
    refine ⟨w.heap.size + 1, 0, _, rfl, by omega, (Lib.cell_of_heap hb 0).trans rfl, _, _, rfl, Nat.le_refl _, by unfold maxLen; omega, fun i hi => ?_⟩
    obtain rfl : i = 0 := by simp at hi; omega
    exact ⟨w.heap.size, 0, rfl, by omega, (Lib.cell_of_heap ha 0).trans rfl, (Lib.cell_of_heap ha 1).trans rfl⟩
  have hs : smallss [[⟨actionK, .empty⟩]] := by
    refine ⟨by simp, fun i hi => ?_⟩
    obtain rfl : i = 0 := by simp at hi; omega
    refine ⟨by simp, fun i hi => ?_⟩
    obtain rfl : i = 0 := by simp at hi; omega
    unfold small
    decide
  have c1 := empty_lists W.heap.size _ _ W hl (Nat.le_refl _) (wide hs) (hT.below hbl)
  rw [action_not] at c1
  exact c1.mono fun e w' ⟨he, hb'⟩ => ⟨he, hbl.trans (hb'.mono hbl.size)⟩

theorem emptyLists_take (ll : List (List Item)) (k : Nat) (h : k < ll.length) : emptyLists (ll.take (k + 1)) = (emptyLists (ll.take k) && (ll.getD k []).all leafEmpty) := by
  unfold emptyLists
  rw [List.take_succ_eq_append_getElem h, List.all_append]
  simp [List.getD_eq_getElem?_getD, h]

theorem all_take (l : List Item) (k : Nat) (h : k < l.length) : (l.take (k + 1)).all leafEmpty = ((l.take k).all leafEmpty && leafEmpty (l.getD k default)) := by
  rw [List.take_succ_eq_append_getElem h, List.all_append]
  simp [List.getD_eq_getElem?_getD, h]

set_option maxRecDepth 100000 in
set_option maxHeartbeats 4000000 in
theorem walk_empty_lists (ll : List (List Item)) (v : Value) (w : World) (h : Lists w.heap.size ll v w) (hT : Tabs w) :
    Calls Tryd.prog 4 #[v] w fun e w' => e = .returned (.bool true) ∧ Below w.heap.size w w' := by
  have f1 := fits9 w.heap.size ll v w h (Nat.le_refl _)
  have cE : ∀ W, Below w.heap.size w W → smallss ll → Calls Tryd.prog 6 #[v] W fun e W' => e = .returned (.bool (emptyLists ll)) ∧ Below w.heap.size w W' := fun W hW hs =>
    (empty_lists w.heap.size ll v W (h.below hW) hW.size (wide hs) (hT.below hW)).mono fun e W' ⟨he, hb⟩ => ⟨he, hW.trans (hb.mono hW.size)⟩
  have cN : ∀ W, Below w.heap.size w W → Calls Tryd.prog 6 #[.slice none 0 0] W fun e W' => e = .returned (.bool true) ∧ Below w.heap.size w W' := fun W hW =>
    (empty_nil W (hT.below hW)).mono fun e W' ⟨he, hb⟩ => ⟨he, hW.trans (hb.mono hW.size)⟩
  have Hp := Lib.hid h
  have HT := Lib.hid hT
  have CE := Lib.hid cE
  have CN := Lib.hid cN
  obtain ⟨ao, cap, rfl, h1, h2, h3⟩ := h
  clear h3 hT cE cN
  unfold maxLen at h2
  obtain ⟨n, hn'⟩ : ∃ n, n = ll.length := ⟨_, rfl⟩
  rw [← hn'] at h1 f1 CE Hp
  rw [← hn']
  have Hn := Lib.hid hn'
  clear hn'
  go_enter Tryd.func4, Tryd.ntmps4
  go_wp2_with fail
  refine f1.mono ?_
  rintro e w1 ⟨r, rfl, hr, hb1⟩
  have Hb1 := Lib.hid hb1
  have Hr := Lib.hid hr
  clear f1 hb1 hr
  cases r
  · go_wp2
    go_ret
    exact ⟨rfl, Hb1.out⟩
  have hsm := Hr.out rfl
  have Hs := Lib.hid hsm
  have hn : n ≤ 2147483647 := by rw [Hn.out]; exact hsm.1
  clear Hr hsm
  go_wp2
  go_loopw [3, 15] (fun s i wr => ∃ (k : Nat) (b : Bool), k ≤ n ∧ i = .int .i64 k ∧ s = .bool b ∧ Hid (b = emptyLists (ll.take k) ∧ Below w.heap.size w wr)) (fun _ i _ => n - (intOf i).toNat)
  case atStart => exact ⟨0, true, Nat.zero_le _, rfl, rfl, rfl, Hb1.out⟩
  case round =>
    obtain ⟨k, b, hk, rfl, rfl, hX⟩ := hrel
    by_cases hlt : k < n
    · have hlt' : k < ll.length := by rw [← Hn.out]; exact hlt
      obtain ⟨_, _, hv, _, _, h3⟩ := Hp.out.below hX.out.2
      obtain ⟨bb, off, z, hao, hbB, hc, hz⟩ := h3 k hlt'
      obtain rfl : ao = some ⟨bb, off, none⟩ := by injection hv with e1 _ _; rw [e1, hao]
      obtain ⟨its, hits⟩ : ∃ its, its = ll.getD k [] := ⟨_, rfl⟩
      rw [← hits] at hz
      have hsk := Hs.out.2 k hlt'
      rw [← hits] at hsk
      have Hits := Lib.hid hits
      have Hsk := Lib.hid hsk.2
      have hsk1 := hsk.1
      obtain ⟨wo, hwo⟩ : ∃ wo, wo = wr := ⟨_, rfl⟩
      have HO : Hid (b = emptyLists (ll.take k) ∧ Below w.heap.size w wo) := by rw [Hid, hwo]; exact hX.out
      have Hz : Hid (Items w.heap.size its z wo) := by rw [Hid, hwo]; exact hz
      have Hwo := Lib.hid hwo
      obtain ⟨ao2, cap2, rfl, g1, g2, _⟩ := hz
      unfold maxLen at g2
      obtain ⟨m, hm'⟩ : ∃ m, m = its.length := ⟨_, rfl⟩
      rw [← hm'] at hc g1 hsk1 Hz
      have Hm := Lib.hid hm'
      have HTk : Hid (emptyLists (ll.take (k + 1)) = (emptyLists (ll.take k) && its.all leafEmpty)) := by rw [Hid, emptyLists_take ll k hlt', hits]
      clear hv h3 hao hsk hm' hwo hits hX
      go_wp2
      go_loopw [3, 21] (fun s i wr => ∃ (j : Nat) (b : Bool), j ≤ m ∧ i = .int .i64 j ∧ s = .bool b ∧ Hid (b = (emptyLists (ll.take k) && (its.take j).all leafEmpty) ∧ Below w.heap.size wo wr)) (fun _ i _ => m - (intOf i).toNat)
      case atStart => exact ⟨0, b, Nat.zero_le _, rfl, rfl, by rw [HO.out.1]; simp, by rw [Hwo.out]; exact Below.refl _ _⟩
      case round =>
        obtain ⟨j, b, hj, rfl, rfl, hX⟩ := hrel
        by_cases hjt : j < m
        · have hjt' : j < its.length := by rw [← Hm.out]; exact hjt
          obtain ⟨_, _, hv, _, _, h3⟩ := Hz.out.below hX.out.2
          obtain ⟨b2, off2, hao, hbB2, c0, c1⟩ := h3 j hjt'
          obtain rfl : ao2 = some ⟨b2, off2, none⟩ := by injection hv with e1 _ _; rw [e1, hao]
          have hsm := Hsk.out j hjt'
          have hit : (⟨(its.getD j default).kind, (its.getD j default).text⟩ : Item) = its.getD j default := rfl
          have hall := all_take its j hjt'
          rw [← hit] at hall
          have htx := hsm.2
          clear hv h3 hao hsm hit
          generalize (its.getD j default).kind = kd at *
          generalize (its.getD j default).text = tx at *
          have hb0 : Below wr.heap.size wr (wr.alloc (.cells #[.string kd, .string tx] 27)) := (Below.refl _ _).alloc (Nat.le_refl _) _
          have hwsz : w.heap.size ≤ wr.heap.size := Nat.le_trans HO.out.2.size hX.out.2.size
          have HW2 : Hid (Below w.heap.size wo (wr.alloc (.cells #[.string kd, .string tx] 27))) := hX.out.2.trans (hb0.mono hwsz)
          have hww : Below w.heap.size w (wr.alloc (.cells #[.string kd, .string tx] 27)) := HO.out.2.trans HW2.out
          have HWW := Lib.hid hww
          have c2 := white tx (wr.alloc (.cells #[.string kd, .string tx] 27)) htx
          have HB : Hid (b = (emptyLists (ll.take k) && (its.take j).all leafEmpty)) := hX.out.1
          have HN : Hid (∀ b', b' = (b && leafEmpty ⟨kd, tx⟩) → b' = (emptyLists (ll.take k) && (its.take (j + 1)).all leafEmpty)) := fun b' hb' => by
            rw [hb', HB.out, hall, Bool.and_assoc]
          have c3 := action_list (wr.alloc (.cells #[.string kd, .string tx] 27)) (HT.out.below (hww))
          simp only [World.size_alloc] at c3
          clear hb0 hX hall hww
          go_wp2_with fail
          refine c2.mono ?_
          rintro e w2 ⟨⟨bl, ok, rfl, q1, q2⟩, rfl⟩
          have Q1 := Lib.hid q1
          have Q2 := Lib.hid q2
          clear c2 q1 q2
          rcases kind_cases kd with hkd | ⟨hk1', hkd⟩ | ⟨hkt, hkc⟩
          · subst hkd
            cases ok
            · unfold textK at *
              unfold actionK at c3
              clear Q1 Q2 HN HB
              go_wp2_with fail
              refine c3.mono ?_
              rintro e w3 ⟨rfl, q3⟩
              have Q3 := Lib.hid (HWW.out.trans (q3.mono (by have := HWW.out.size; simpa using this)))
              have c4 := CN.out w3 Q3.out
              clear c3 q3
              go_wp2_with fail
              refine c4.mono ?_
              rintro e w4 ⟨rfl, q4⟩
              have Q4 := Lib.hid q4
              clear c4 q4
              go_wp2
              go_ret
              exact ⟨rfl, Q4.out⟩
            · have hbl : leafEmpty ⟨textK, tx⟩ = bl := by
                obtain ⟨ha, hb⟩ := Q2.out rfl
                have e1 : leafEmpty ⟨textK, tx⟩ = blank tx := by unfold leafEmpty; rw [if_pos rfl]
                rw [e1, Bool.eq_iff_iff, blank_ascii tx ha, hb]
              rw [hbl] at HN
              have HNb := Lib.hid (HN.out _ rfl)
              clear c3 Q1 Q2 hbl HN
              unfold textK at *
              cases b <;> cases bl
              all_goals
                go_wp2
                go_roundw
                case rel => exact ⟨j + 1, _, by omega, by go_num, rfl, HNb.out, HW2.out⟩
                case measure => simp [intOf]; omega
          · subst hkd
            have hbl : leafEmpty ⟨commentK, tx⟩ = true := by unfold leafEmpty; rw [if_neg hk1']; exact decide_eq_true rfl
            rw [hbl] at HN
            have HNb := Lib.hid (HN.out b (by rw [Bool.and_true]))
            clear c3 Q1 Q2 hbl HN hk1'
            unfold commentK at *
            go_wp2
            go_roundw
            case rel => exact ⟨j + 1, _, by omega, by go_num, rfl, HNb.out, HW2.out⟩
            case measure => simp [intOf]; omega
          · have hbl : leafEmpty ⟨kd, tx⟩ = false := by unfold leafEmpty; rw [if_neg hkt]; exact decide_eq_false hkc
            rw [hbl] at HN
            have HNb := Lib.hid (HN.out false (by rw [Bool.and_false]))
            have hn1 := ne_toList hkt
            have hn2 := ne_toList hkc
            clear c3 Q1 Q2 hbl HN hkt hkc
            go_wp2
            go_roundw
            case rel => exact ⟨j + 1, _, by omega, by go_num, rfl, HNb.out, HW2.out⟩
            case measure => simp [intOf]; omega
        · have hjm : j = its.length := by rw [← Hm.out]; omega
          have hE : Hid (b = emptyLists (ll.take (k + 1))) := by
            have := hX.out.1
            rw [hjm, List.take_length] at this
            rw [Hid, HTk.out]; exact this
          have HW2 := Lib.hid (HO.out.2.trans hX.out.2)
          clear hjm hX
          go_wp2
          go_roundw
          case rel => exact ⟨k + 1, _, by omega, by go_num, rfl, hE.out, HW2.out⟩
          case measure => simp [intOf]; omega
    · have hkn : k = ll.length := by rw [← Hn.out]; omega
      have hE : b = emptyLists ll := by
        have := hX.out.1
        rw [hkn, List.take_length] at this
        exact this
      have c1 := CE.out wr hX.out.2 Hs.out
      clear hkn hX
      generalize emptyLists ll = E at *
      subst hE
      go_wp2_with fail
      refine c1.mono ?_
      rintro e w3 ⟨rfl, q3⟩
      have c4 := CN.out w3 q3
      clear c1 q3
      cases b
      all_goals
        go_wp2_with fail
        refine c4.mono ?_
        rintro e w4 ⟨rfl, q4⟩
        have Q4 := Lib.hid q4
        clear c4 q4
        go_wp2
        go_ret
        exact ⟨rfl, Q4.out⟩

end Go.Proofs.YteikiecbjjmkoaaDoor
