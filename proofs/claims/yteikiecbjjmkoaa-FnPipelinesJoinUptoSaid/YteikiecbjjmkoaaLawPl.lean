/- The walk of FnPipelinePrint. -/
import Derived.Test.YteikiecbjjmkoaaPrnP
import Derived.Test.YteikiecbjjmkoaaOpenC
namespace Go.Proofs.Yteikiecbjjmkoaa
open Go.RowKit Go.Proofs

theorem pipe_len (ds : List ByteArray) (asg : Bool) (cs : List (List Part)) (n0 : (joined ds).length + ds.length ≤ 1048577) (hf : Fine cs) : (pipelineText ds asg cs).length ≤ 400000000 := by
  have h1 := decl_len ds asg
  have h2 := hf.2.2.2
  unfold pipelineText
  rw [List.length_append]
  omega

set_option maxRecDepth 100000 in
set_option maxHeartbeats 1000000 in
theorem walk_pipeline_print (ds : List ByteArray) (asg : Bool) (cs : List (List Part)) (dv v : Value) (w : World) (hd : Strs w.heap.size ds dv w) (h : Cmds w.heap.size cs v w)
    (n0 : ds.length ≤ 1048577) (hz : ∀ s ∈ ds, s.size ≤ 1048577) (hj : (joined ds).length + ds.length ≤ 1048577) (hf : Fine cs) :
    Calls Try.prog 7 #[dv, .bool asg, v] w fun e w' => e = .returned (.bool true) ∧ Below w.heap.size w w' := by
  have hlen := pipe_len ds asg cs hj hf
  obtain ⟨k1, k2, k3, k4⟩ := hf
  have f1 := fits4 w.heap.size ds dv w hd (by omega) (fun s hs => by have := hz s hs; omega)
  have f2 := fits8 w.heap.size cs v w h (Nat.le_refl _) (by omega) (fun ps hps => ⟨by have := (k2 ps hps).1; omega, (k2 ps hps).2⟩)
  have cP : ∀ W, Below w.heap.size w W → Calls Try.prog 20 #[dv, .bool asg, v] W (Gives (pipelineText ds asg cs) W) := fun W hW =>
    print_pipeline w.heap.size ds asg cs dv v W (hd.below hW) (h.below hW) hW.size (by omega) (by omega) (fun ps hps => by have := (k2 ps hps).1; omega) (by omega)
  have cT : ∀ W, Below w.heap.size w W → Calls Try.prog 21 #[dv, .bool asg, v] W (Gives (pipelineText ds asg cs) W) := fun W hW =>
    pipeline_text w.heap.size ds asg cs dv v W (hd.below hW) (h.below hW) hW.size k1 (by omega)
  obtain ⟨ao, cap, rfl, -⟩ := h
  obtain ⟨aod, capd, rfl, -⟩ := hd
  generalize pipelineText ds asg cs = t at *
  have CP := Lib.hid cP
  have CT := Lib.hid cT
  clear cP cT k1 k2 k4 hz
  go_enter Try.func7, Try.ntmps7
  go_wp2_with fail
  refine f1.mono ?_
  rintro e w1 ⟨rfl, rfl⟩
  clear f1
  go_wp2_with fail
  refine f2.mono ?_
  rintro e w1 ⟨rfl, hb1⟩
  have c2 := CP.out w1 hb1
  have Hb1 := Lib.hid hb1
  clear f2 hb1
  go_wp2_with fail
  refine c2.mono ?_
  rintro e w2 ⟨rfl, q2⟩
  have Hb2 := Lib.hid (Hb1.out.trans (q2.mono Hb1.out.size))
  have c3 := CT.out w2 Hb2.out
  clear c2 q2
  go_wp2_with fail
  refine c3.mono ?_
  rintro e w3 ⟨rfl, q3⟩
  have Hb3 := Lib.hid (Hb2.out.trans (q3.mono Hb2.out.size))
  clear c3 q3
  go_wp2
  go_ret
  exact ⟨by simp, Hb3.out⟩

end Go.Proofs.Yteikiecbjjmkoaa
