/- The walk of FnEmptyJoin. -/
import Derived.Test.YteikiecbjjmkoaaDoorMake
import Derived.Laws.AppendOwnNone
import Derived.BigFrame
namespace Go.Proofs.YteikiecbjjmkoaaDoor
open Go.RowKit Go.Proofs

theorem infoItems : (Tryd.prog.info? 25).map (fun i => (i.zero, i.size, i.bytes)) = some (some (.slice none 0 0), 1, 24) := by kernel_rfl

/-- The slice value xv reads as m elements, the cells news. -/
def Src (xv : Value) (m : Nat) (news : List Value) (size : Nat) (w : World) : Prop :=
  (xv = .slice none 0 0 ∧ m = 0 ∧ news = []) ∨ ∃ ad c, xv = .slice (some ad) m c ∧ news.length = m * size ∧ ∀ j u, news[j]? = some u → w.cell? (ad.add j) = some u

/-- A slice value that is nil as a whole, or has an address. -/
def Clean (v : Value) : Prop := v = .slice none 0 0 ∨ ∃ a n c, v = .slice (some a) n c

theorem wpList_append_src {P : Program} {w : World} {ops : Array Oper} {rest : List Oper} {o : Oper} {a : Act} {Q : Exit → Act → World → Prop} (hw : Region.wanted o (yielded ops a.tmps) = true) (s x : Operand) (t : TypeId)
    (ho : o.op = .call { callee := .builtin .append, args := #[s, x], argTypes := #[t, t] })
    (base : Nat) (e : TypeId) (i : TypeInfo) (z : Value) (size bytes : Nat) (ht : P.underlying t = some (.slice e)) (hi : P.info? e = some i) (hz : i.zero = some z)
    (hsize : i.size = size) (hby : i.bytes = bytes) (hzs : z.cells.size = size) (hsz : 0 < size)
    (v : Value) (n : Nat) (xs : List Value) (hs : a.eval s = v) (hown : w.ownsRow base e size v n xs)
    (xv : Value) (m : Nat) (news : List Value) (hx : a.eval x = xv) (hsrc : Src xv m news size w) (h1 : ∀ u ∈ news, u.oneCell' = true)
    (h63 : n + m ≤ maxLen) (hbytes : (n + m) * bytes ≤ 140737488355328) (hbase : base ≤ w.heap.size)
    (h : ∀ v' w', w'.ownsRow base e size v' (n + m) (xs ++ news) → w.grownBy w' v.ownBlock → wpList P ops Q rest (a.put o.dst v') w') : wpList P ops Q (o :: rest) a w := by
  refine BigFrame.wpList_want hw fun K hK => ?_
  rcases hsrc with ⟨rfl, rfl, rfl⟩ | ⟨ad, c, rfl, hl, hnews⟩
  · have hrun := run_append_owned_none (P := P) (w := w) base t o.type e i size ht hi v n xs hown
    have h' := hK _ _ (h v w (by simpa using hown) ⟨rfl, rfl, rfl, Nat.le_refl _, fun _ _ _ => rfl⟩)
    unfold Oper.wp
    simp [execOp, ho, resolve, invoke, builtin, hs, hx, hrun, Result.andThen]
    exact h'
  · exact wp_append_own w s x t ho base e i z size bytes ht hi hz hsize hby hzs hsz v n xs hs hown ad m c news hx hl hnews h1 h63 hbytes hbase fun v' w' h2 h3 _ => hK _ _ (h v' w' h2 h3)

/-- A list of lists as a source of an append. -/
theorem Lists.src {B : Nat} {cs : List (List Item)} {v : Value} {w : World} (h : Lists B cs v w) (hc : Clean v) :
    ∃ l : List (List Item × Value), l.map (·.1) = cs ∧ (∀ x ∈ l, Items B x.1 x.2 w) ∧ Src v cs.length (l.map (·.2)) 1 w := by
  obtain ⟨ao, cap, rfl, h1, h2, h3⟩ := h
  have each : ∀ i, i < cs.length → ∃ x, Items B (cs.getD i []) x w ∧ ∃ b off, ao = some ⟨b, off, none⟩ ∧ w.cell? ⟨b, off + i, none⟩ = some x := fun i hi => by
    obtain ⟨b, off, x, hao, _, c, hs⟩ := h3 i hi
    exact ⟨x, hs, b, off, hao, c⟩
  have each' : ∀ i : Nat, ∃ x : Value, i < cs.length → (Items B (cs.getD i []) x w ∧ ∃ b off, ao = some ⟨b, off, none⟩ ∧ w.cell? ⟨b, off + i, none⟩ = some x) := fun i => by
    by_cases hi : i < cs.length
    · obtain ⟨x, hx⟩ := each i hi; exact ⟨x, fun _ => hx⟩
    · exact ⟨.nilIface, fun h => absurd h hi⟩
  let f : Nat → Value := fun i => Classical.choose (each' i)
  have hf : ∀ i, i < cs.length → (Items B (cs.getD i []) (f i) w ∧ ∃ b off, ao = some ⟨b, off, none⟩ ∧ w.cell? ⟨b, off + i, none⟩ = some (f i)) := fun i hi => Classical.choose_spec (each' i) hi
  let l : List (List Item × Value) := (List.range cs.length).map fun i => (cs.getD i [], f i)
  have hll : l.length = cs.length := by simp [l]
  have hli : ∀ i, i < cs.length → l[i]? = some (cs.getD i [], f i) := fun i hi => by simp [l, hi]
  refine ⟨l, ?_, ?_, ?_⟩
  · apply List.ext_getElem?
    intro i
    by_cases hi : i < cs.length
    · rw [List.getElem?_map, hli i hi]
      simp only [Option.map_some, List.getD_eq_getElem?_getD, List.getElem?_eq_getElem hi, Option.getD_some]
    · rw [List.getElem?_eq_none (by simp [hll]; omega), List.getElem?_eq_none (by omega)]
  · intro x hx
    obtain ⟨i, hi, rfl⟩ := List.getElem_of_mem hx
    have hi' : i < cs.length := by rw [← hll]; exact hi
    have e := hli i hi'
    rw [List.getElem?_eq_getElem hi] at e
    rw [Option.some.inj e]
    exact (hf i hi').1
  · rcases hc with e | ⟨a, n, c, e⟩
    · injection e with e1 e2 e3
      subst e1 e3
      have hp : cs = [] := List.eq_nil_of_length_eq_zero e2
      subst hp
      exact .inl ⟨rfl, rfl, rfl⟩
    · injection e with e1 e2 e3
      subst e1
      refine .inr ⟨a, cap, rfl, by simp [hll], fun j u hj => ?_⟩
      have hjl : j < cs.length := by have := (List.getElem?_eq_some_iff.1 hj).1; simpa [hll] using this
      obtain ⟨_, b, off, hao, c0⟩ := hf j hjl
      injection hao with hao
      subst hao
      rw [List.getElem?_map, hli j hjl] at hj
      rw [Addr.add_lit, c0]
      exact hj

/-- A row of lists of the call's own reads as a list of lists. -/
theorem lists_of_own {w : World} {base B : Nat} {v : Value} {l : List (List Item × Value)} (h : w.ownsRow base 25 1 v l.length (l.map (·.2))) (hs : ∀ x ∈ l, Items B x.1 x.2 w) (hB : B ≤ w.heap.size) : Lists w.heap.size (l.map (·.1)) v w := by
  rcases h.2 with ⟨rfl, h0⟩ | ⟨g, cap, cur, rfl, _, hgg, hle, hcap, hcs, htake⟩
  · have hl : l = [] := List.eq_nil_of_length_eq_zero h0
    subst hl
    exact Lists.nil _ _
  · refine ⟨some ⟨g, 0, none⟩, cap, by simp, by simpa using hle, hcap, fun i hi => ?_⟩
    have hi' : i < l.length := by simpa using hi
    have hg : (l.map (·.1)).getD i [] = (l[i]).1 := by simp [List.getD_eq_getElem?_getD, hi']
    rw [hg]
    refine ⟨g, 0, (l[i]).2, rfl, lt_of_heap hgg, ?_, (hs _ (List.getElem_mem hi')).mono hB⟩
    rw [Nat.zero_add, Lib.cell_of_heap hgg]
    have e1 : (cur.toList.take (l.length * 1))[i]? = some (l[i]).2 := by
      rw [htake, List.getElem?_map, List.getElem?_eq_getElem hi']; rfl
    rw [List.getElem?_take_of_lt (by omega)] at e1
    simpa using e1

theorem lists_one {B : Nat} {l : List (List Item × Value)} {w : World} (h : ∀ x ∈ l, Items B x.1 x.2 w) : ∀ u ∈ l.map (·.2), u.oneCell' = true := by
  intro u hu
  obtain ⟨x, hx, rfl⟩ := List.mem_map.1 hu
  obtain ⟨ao, cap, hv, _⟩ := h x hx
  rw [hv]; rfl

theorem emptyLists_append (a b : List (List Item)) : emptyLists (a ++ b) = (emptyLists a && emptyLists b) := by
  unfold emptyLists; rw [List.all_append]

theorem empty_nil' (w : World) (hT : Tabs w) : Calls Tryd.prog 6 #[.slice none 0 0] w fun e w' => e = .returned (.bool true) ∧ Below w.heap.size w w' :=
  empty_lists w.heap.size [] (.slice none 0 0) w (Lists.nil _ _) (Nat.le_refl _) ⟨by simp, fun i hi => absurd hi (Nat.not_lt_zero _)⟩ hT

theorem small_append {pa pb : List (List Item)} (sa : smallss pa) (sb : smallss pb) : smallss2 (pa ++ pb) := by
  refine ⟨by have := sa.1; have := sb.1; simp only [List.length_append]; omega, fun i hi => ?_⟩
  by_cases hi' : i < pa.length
  · have e : (pa ++ pb).getD i [] = pa.getD i [] := by simp only [List.getD_eq_getElem?_getD]; rw [List.getElem?_append_left hi']
    rw [e]; exact sa.2 i hi'
  · have e : (pa ++ pb).getD i [] = pb.getD (i - pa.length) [] := by simp only [List.getD_eq_getElem?_getD]; rw [List.getElem?_append_right (by omega)]
    rw [e]; exact sb.2 _ (by simp only [List.length_append] at hi; omega)

set_option maxRecDepth 100000 in
set_option maxHeartbeats 4000000 in
theorem walk_empty_join (pa pb : List (List Item)) (va vb : Value) (w : World) (ha : Lists w.heap.size pa va w) (hb : Lists w.heap.size pb vb w) (ca : Clean va) (cb : Clean vb) (hT : Tabs w) :
    Calls Tryd.prog 3 #[va, vb] w fun e w' => e = .returned (.bool true) ∧ Below w.heap.size w w' := by
  obtain ⟨i0, hi, hz0, hz1, hz2⟩ := info_parts infoItems
  have Hi := Lib.hid hi
  have Hz0 := Lib.hid hz0
  have Hz1 := Lib.hid hz1
  have Hz2 := Lib.hid hz2
  clear hi hz0 hz1 hz2
  have f1 := fits9 w.heap.size pa va w ha (Nat.le_refl _)
  have cF : ∀ W, Below w.heap.size w W → Calls Tryd.prog 5 #[vb] W fun e W' => ∃ r, e = .returned (.bool r) ∧ (r = true → smallss pb) ∧ Below w.heap.size w W' := fun W hW =>
    (fits9 w.heap.size pb vb W (hb.below hW) hW.size).mono fun e W' ⟨r, he, hr, h⟩ => ⟨r, he, hr, hW.trans (h.mono hW.size)⟩
  have cA : ∀ W, Below w.heap.size w W → smallss pa → Calls Tryd.prog 6 #[va] W fun e W' => e = .returned (.bool (emptyLists pa)) ∧ Below w.heap.size w W' := fun W hW hs =>
    (empty_lists w.heap.size pa va W (ha.below hW) hW.size (wide hs) (hT.below hW)).mono fun e W' ⟨he, h⟩ => ⟨he, hW.trans (h.mono hW.size)⟩
  have cB : ∀ W, Below w.heap.size w W → smallss pb → Calls Tryd.prog 6 #[vb] W fun e W' => e = .returned (.bool (emptyLists pb)) ∧ Below w.heap.size w W' := fun W hW hs =>
    (empty_lists w.heap.size pb vb W (hb.below hW) hW.size (wide hs) (hT.below hW)).mono fun e W' ⟨he, h⟩ => ⟨he, hW.trans (h.mono hW.size)⟩
  have cJ : ∀ W v, Below w.heap.size w W → Lists W.heap.size (pa ++ pb) v W → smallss pa → smallss pb → Calls Tryd.prog 6 #[v] W fun e W' => e = .returned (.bool (emptyLists pa && emptyLists pb)) ∧ Below w.heap.size w W' := fun W v hW hv sa sb => by
    rw [← emptyLists_append]
    exact (empty_lists W.heap.size (pa ++ pb) v W hv (Nat.le_refl _) (small_append sa sb) (hT.below hW)).mono fun e W' ⟨he, h⟩ => ⟨he, hW.trans (h.mono hW.size)⟩
  have cN : ∀ W, Below w.heap.size w W → Calls Tryd.prog 6 #[.slice none 0 0] W fun e W' => e = .returned (.bool true) ∧ Below w.heap.size w W' := fun W hW =>
    (empty_nil' W (hT.below hW)).mono fun e W' ⟨he, h⟩ => ⟨he, hW.trans (h.mono hW.size)⟩
  have Ha := Lib.hid ha
  have Hb := Lib.hid hb
  have Ca := Lib.hid ca
  have Cb := Lib.hid cb
  have CF := Lib.hid cF
  have CA := Lib.hid cA
  have CB := Lib.hid cB
  have CJ := Lib.hid cJ
  have CN := Lib.hid cN
  obtain ⟨aa, capa, rfl, h1a, -⟩ := ha
  obtain ⟨ab, capb, rfl, h1b, -⟩ := hb
  clear ca cb cF cA cB cJ cN hT
  go_enter Tryd.func3, Tryd.ntmps3
  go_wp2_with fail
  refine f1.mono ?_
  rintro e w1 ⟨ra, rfl, hra, q1⟩
  have c2 := CF.out w1 q1
  have Q1 := Lib.hid q1
  have HA := Lib.hid hra
  clear f1 q1 hra
  cases ra
  · clear c2
    go_wp2
    go_ret
    exact ⟨rfl, Q1.out⟩
  go_wp2_with fail
  refine c2.mono ?_
  rintro e w2 ⟨rb, rfl, hrb, q2⟩
  have Q2 := Lib.hid q2
  have HB := Lib.hid hrb
  clear c2 q2 hrb
  cases rb
  · go_wp2
    go_ret
    exact ⟨rfl, Q2.out⟩
  have sa := HA.out (by first | rfl | trivial)
  have sb := HB.out (by first | rfl | trivial)
  have na : pa.length ≤ 2147483647 := sa.1
  have nb : pb.length ≤ 2147483647 := sb.1
  have SA := Lib.hid sa
  have SB := Lib.hid sb
  clear HA HB sa sb
  obtain ⟨xa, hxa, hya, hsa⟩ := (Ha.out.below Q2.out).src Ca.out
  have hsz2 := Q2.out.size
  have Hxa := Lib.hid hxa
  have hoa := lists_one hya
  have Hya := Lib.hid hya
  clear hxa hya
  go_wp2_with (at_builtin; refine wpList_append_src rfl _ _ 22 rfl w.heap.size 25 i0 (.slice none 0 0) 1 24 Tryd.underlying22 Hi.out Hz0.out Hz1.out Hz2.out rfl (by decide) _ 0 [] rfl (World.ownsRow_nil _ _ _ _) _ _ _ rfl hsa hoa ?c2 ?c3 hsz2 ?_)
  case c2 => unfold maxLen; omega
  case c3 => omega
  intro v1 w3 ho1 hg1
  have q3 : Below w.heap.size w w3 := Q2.out.grown hg1 hsz2 (fun g hg => by simp [Value.ownBlock] at hg)
  obtain ⟨xb, hxb, hyb, hsb⟩ := (Hb.out.below q3).src Cb.out
  have hsz3 := q3.size
  have Q3 := Lib.hid q3
  have Hxb := Lib.hid hxb
  have hob := lists_one hyb
  have Hyb := Lib.hid hyb
  have Hya3 := Lib.hid (fun x hx => (Hya.out x hx).below (show Below w.heap.size w2 w3 from (Below.refl _ _).grown hg1 hsz2 (fun g hg => by simp [Value.ownBlock] at hg)))
  clear q3 hxb hyb hsa hoa hg1
  go_wp2_with (at_builtin; refine wpList_append_src rfl _ _ 22 rfl w.heap.size 25 i0 (.slice none 0 0) 1 24 Tryd.underlying22 Hi.out Hz0.out Hz1.out Hz2.out rfl (by decide) _ _ _ rfl ho1 _ _ _ rfl hsb hob ?c2 ?c3 hsz3 ?_)
  case c2 => unfold maxLen; omega
  case c3 => omega
  intro v2 w4 ho2 hg2
  have q34 : Below w.heap.size w3 w4 := (Below.refl _ _).grown hg2 hsz3 (fun g hg => (ho1.lt g hg).1)
  have q4 : Below w.heap.size w w4 := Q3.out.trans q34
  have hp4 : Lists w4.heap.size (pa ++ pb) v2 w4 := by
    have hl : (xa ++ xb).length = 0 + pa.length + pb.length := by
      have e1 := congrArg List.length Hxa.out
      have e2 := congrArg List.length Hxb.out
      simp at e1 e2 ⊢; omega
    have := lists_of_own (B := w.heap.size) (l := xa ++ xb) (v := v2) (w := w4) (base := w.heap.size) (by rw [hl, List.map_append]; simpa using ho2) (fun x hx => by
      rcases List.mem_append.1 hx with hx | hx
      · exact (Hya3.out x hx).below q34
      · exact (Hyb.out x hx).below q34) q4.size
    rw [List.map_append, Hxa.out, Hxb.out] at this
    exact this
  have c5 := CJ.out w4 v2 q4 hp4 SA.out SB.out
  clear q34 q4 hp4 ho1 ho2 hg2 hsb hob
  have CA2 : Hid (∀ W, Below w.heap.size w W → Calls Tryd.prog 6 #[.slice aa pa.length capa] W fun e W' => e = .returned (.bool (emptyLists pa)) ∧ Below w.heap.size w W') := fun W hW => CA.out W hW SA.out
  have CB2 : Hid (∀ W, Below w.heap.size w W → Calls Tryd.prog 6 #[.slice ab pb.length capb] W fun e W' => e = .returned (.bool (emptyLists pb)) ∧ Below w.heap.size w W') := fun W hW => CB.out W hW SB.out
  clear CA CB CJ
  generalize emptyLists pa = ea at *
  generalize emptyLists pb = eb at *
  go_wp2_with fail
  refine c5.mono ?_
  rintro e w5 ⟨rfl, q5⟩
  have c6 := CA2.out w5 q5
  clear c5 q5
  cases ea
  · go_wp2_with fail
    refine c6.mono ?_
    rintro e w6 ⟨rfl, q6⟩
    have c8 := CN.out w6 q6
    clear c6 q6
    go_wp2_with fail
    refine c8.mono ?_
    rintro e w8 ⟨rfl, q8⟩
    have Q8 := Lib.hid q8
    clear c8 q8
    go_wp2
    go_ret
    exact ⟨rfl, Q8.out⟩
  · go_wp2_with fail
    refine c6.mono ?_
    rintro e w6 ⟨rfl, q6⟩
    have c7 := CB2.out w6 q6
    clear c6 q6
    go_wp2_with fail
    refine c7.mono ?_
    rintro e w7 ⟨rfl, q7⟩
    have c8 := CN.out w7 q7
    clear c7 q7
    cases eb
    all_goals
      go_wp2_with fail
      refine c8.mono ?_
      rintro e w8 ⟨rfl, q8⟩
      have Q8 := Lib.hid q8
      clear c8 q8
      go_wp2
      go_ret
      exact ⟨rfl, Q8.out⟩

end Go.Proofs.YteikiecbjjmkoaaDoor
