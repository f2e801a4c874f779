/- The walk of FnTextsJoin. -/
import Derived.Test.YteikiecbjjmkoaaTxt
import Derived.Test.YteikiecbjjmkoaaApp
namespace Go.Proofs.Yteikiecbjjmkoaa
open Go.RowKit Go.Proofs

theorem infoStr : (Try.prog.info? 9).map (fun i => (i.zero, i.size, i.bytes)) = some (some (.string .empty), 1, 16) := by kernel_rfl

set_option maxRecDepth 100000 in
set_option maxHeartbeats 1000000 in
theorem walk_texts_join (sa sb : List ByteArray) (av bv : Value) (w : World) (ha : Strs w.heap.size sa av w) (hb : Strs w.heap.size sb bv w) (ca : Clean av) (cb : Clean bv)
    (na : sa.length ≤ 10000000) (nb : sb.length ≤ 10000000) (za : ∀ s ∈ sa, s.size ≤ 10000000) (zb : ∀ s ∈ sb, s.size ≤ 10000000) (ja : (joined sa).length ≤ 10000000) (jb : (joined sb).length ≤ 10000000) :
    Calls Try.prog 3 #[av, bv] w fun e w' => e = .returned (.bool true) ∧ Below w.heap.size w w' := by
  obtain ⟨i0, hi, hz0, hz1, hz2⟩ := info_parts infoStr
  have Hi := Lib.hid hi
  have Hz0 := Lib.hid hz0
  have Hz1 := Lib.hid hz1
  have Hz2 := Lib.hid hz2
  clear hi hz0 hz1 hz2
  have f1 := fits4 w.heap.size sa av w ha (by omega) (fun s hs => by have := za s hs; omega)
  have f2 := fits4 w.heap.size sb bv w hb (by omega) (fun s hs => by have := zb s hs; omega)
  have hb0 : Below w.heap.size w (w.alloc (.cells #[.string ⟨#[97]⟩] 9)) := (Below.refl _ _).alloc (Nat.le_refl _) _
  have ho0 : (w.alloc (.cells #[.string ⟨#[97]⟩] 9)).ownsRow w.heap.size 9 1 (.slice (some ⟨w.heap.size, 0, none⟩) 1 1) 1 [.string ⟨#[97]⟩] := World.ownsRow_lit w #[.string ⟨#[97]⟩] 1 (Nat.le_refl _) (by unfold maxLen; omega) rfl
  have hsa := (ha.below hb0).src ca
  have Ha := Lib.hid ha
  have Hb := Lib.hid hb
  have Za := Lib.hid za
  have Zb := Lib.hid zb
  clear ha hb za zb
  go_enter Try.func3, Try.ntmps3
  go_wp2_with fail
  refine f1.mono ?_
  rintro e w' ⟨rfl, rfl⟩
  go_wp2_with fail
  refine f2.mono ?_
  rintro e w' ⟨rfl, rfl⟩
  clear f1 f2
  go_wp2_with (at_builtin; refine wpList_append_src rfl _ _ 22 rfl w.heap.size 9 i0 (.string .empty) 1 16 Try.underlying22 Hi.out Hz0.out Hz1.out Hz2.out rfl (by decide) _ 1 _ rfl ho0 _ _ _ rfl hsa ?c1 ?c2 ?c3 ?c4 ?_)
  case c1 => intro u hu; simp at hu; obtain ⟨s, _, rfl⟩ := hu; rfl
  case c2 => unfold maxLen; omega
  case c3 => omega
  case c4 => simp
  intro v1 w1 ho1 hg1
  have hb1 : Below w.heap.size w w1 := hb0.grown hg1 (by simp) (fun g hg => by simp [Value.ownBlock] at hg; omega)
  have hsb := (Hb.out.below hb1).src cb
  have Hb1 := Lib.hid hb1
  clear hb1 hb0 ho0 hsa hg1
  go_wp2_with (at_builtin; refine wpList_append_src rfl _ _ 22 rfl w.heap.size 9 i0 (.string .empty) 1 16 Try.underlying22 Hi.out Hz0.out Hz1.out Hz2.out rfl (by decide) _ _ _ rfl ho1 _ _ _ rfl hsb ?c1 ?c2 ?c3 ?c4 ?_)
  case c1 => intro u hu; simp at hu; obtain ⟨s, _, rfl⟩ := hu; rfl
  case c2 => unfold maxLen; omega
  case c3 => omega
  case c4 => exact Hb1.out.size
  intro v2 w2 ho2 hg2
  have hb2 : Below w.heap.size w w2 := Hb1.out.grown hg2 Hb1.out.size (fun g hg => (ho1.lt g hg).1)
  obtain ⟨hs2, hc2⟩ := strs_of_own (ss := ⟨#[97]⟩ :: (sa ++ sb)) (base := w.heap.size) (v := v2) (w := w2) (by
    have e1 : (⟨#[97]⟩ :: (sa ++ sb) : List ByteArray).length = 1 + sa.length + sb.length := by simp; omega
    rw [e1]; simpa using ho2)
  have hj : joined (⟨#[97]⟩ :: (sa ++ sb)) = 97 :: (joined sa ++ joined sb) := by simp [joined, joined_append]
  have p1 := print_texts w2.heap.size _ v2 w2 hs2 (Nat.le_refl _) (by rw [hj]; simp; omega) (by simp; omega) (fun s hs => by
    simp at hs
    rcases hs with rfl | hs | hs
    · decide
    · have := Za.out s hs; omega
    · have := Zb.out s hs; omega)
  rw [hj] at p1
  have Hb2 := Lib.hid hb2
  clear hb2 ho1 ho2 hg2 hs2 hc2 hsb
  go_wp2_with fail
  refine p1.mono ?_
  rintro e w3 ⟨rfl, q1⟩
  have hb3 : Below w.heap.size w w3 := Hb2.out.trans (q1.mono Hb2.out.size)
  have p2 := print_texts w.heap.size sa av w3 (Ha.out.below hb3) hb3.size (by omega) (by omega) (fun s hs => by have := Za.out s hs; omega)
  have Hb3 := Lib.hid hb3
  clear hb3 q1 p1
  go_wp2_with fail
  refine p2.mono ?_
  rintro e w4 ⟨rfl, q1⟩
  have hb4 : Below w.heap.size w w4 := Hb3.out.trans (q1.mono Hb3.out.size)
  have p3 := print_texts w.heap.size sb bv w4 (Hb.out.below hb4) hb4.size (by omega) (by omega) (fun s hs => by have := Zb.out s hs; omega)
  have Hb4 := Lib.hid hb4
  clear hb4 q1 p2
  go_wp2_with fail
  refine p3.mono ?_
  rintro e w5 ⟨rfl, q1⟩
  have hb5 : Below w.heap.size w w5 := Hb4.out.trans (q1.mono Hb4.out.size)
  have Hb5 := Lib.hid hb5
  clear hb5 q1 p3
  generalize joined sa = ja' at *
  generalize joined sb = jb' at *
  go_wp2
  go_ret
  exact ⟨by simp [Lib.toList_data, ByteArray.data_append], Hb5.out⟩

end Go.Proofs.Yteikiecbjjmkoaa
