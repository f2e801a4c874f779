/- Lists of commands that are appended: their cells, and what a row of the call reads as. -/
import Derived.Test.YteikiecbjjmkoaaCmds
import Derived.Test.YteikiecbjjmkoaaApp
import Derived.Deep.Slices
namespace Go.Proofs.Yteikiecbjjmkoaa
open Go.RowKit Go.Proofs

theorem infoParts : (Try.prog.info? 32).map (fun i => (i.zero, i.size, i.bytes)) = some (some (.slice none 0 0), 1, 24) := by kernel_rfl

/-- A list of commands as a source of an append. -/
theorem Cmds.src {B : Nat} {cs : List (List Part)} {v : Value} {w : World} (h : Cmds B cs v w) (hc : Clean v) :
    ∃ l : List (List Part × Value), l.map (·.1) = cs ∧ (∀ x ∈ l, Parts B x.1 x.2 w) ∧ Src v cs.length (l.map (·.2)) 1 w := by
  obtain ⟨ao, cap, rfl, h1, h2, h3⟩ := h
  have each : ∀ i, i < cs.length → ∃ x, Parts B (cs.getD i []) x w ∧ ∃ b off, ao = some ⟨b, off, none⟩ ∧ w.cell? ⟨b, off + i, none⟩ = some x := fun i hi => by
    obtain ⟨b, off, x, hao, _, c, hs⟩ := h3 i hi
    exact ⟨x, hs, b, off, hao, c⟩
  obtain ⟨f, hf⟩ := Go.Deep.choose_lt each
  let l : List (List Part × Value) := (List.range cs.length).map fun i => (cs.getD i [], f i)
  have hll : l.length = cs.length := by simp [l]
  have hli : ∀ i, i < cs.length → l[i]? = some (cs.getD i [], f i) := fun i hi => by simp [l, hi]
  refine ⟨l, ?_, ?_, ?_⟩
  · apply List.ext_getElem?
    intro i
    by_cases hi : i < cs.length
    · rw [List.getElem?_map, hli i hi]
      simp only [Option.map_some, List.getD_eq_getElem?_getD, List.getElem?_eq_getElem hi, Option.getD_some]
    · rw [List.getElem?_eq_none (by simp [hll]; omega), List.getElem?_eq_none (by omega)]
  · intro x hx
    obtain ⟨i, hi, rfl⟩ := List.getElem_of_mem hx
    have hi' : i < cs.length := by rw [← hll]; exact hi
    have e := hli i hi'
    rw [List.getElem?_eq_getElem hi] at e
    rw [Option.some.inj e]
    exact (hf i hi').1
  · rcases hc with e | ⟨a, n, c, e⟩
    · injection e with e1 e2 e3
      subst e1 e3
      have hp : cs = [] := List.eq_nil_of_length_eq_zero e2
      subst hp
      exact .inl ⟨rfl, rfl, rfl⟩
    · injection e with e1 e2 e3
      subst e1
      refine .inr ⟨a, cap, rfl, by simp [hll], fun j u hj => ?_⟩
      have hjl : j < cs.length := by have := (List.getElem?_eq_some_iff.1 hj).1; simpa [hll] using this
      obtain ⟨_, b, off, hao, c0⟩ := hf j hjl
      injection hao with hao
      subst hao
      rw [List.getElem?_map, hli j hjl] at hj
      rw [Addr.add_lit, c0]
      exact hj

/-- A row of commands of the call's own reads as a list of commands. -/
theorem cmds_of_own {w : World} {base B : Nat} {v : Value} {l : List (List Part × Value)} (h : w.ownsRow base 32 1 v l.length (l.map (·.2))) (hs : ∀ x ∈ l, Parts B x.1 x.2 w) (hB : B ≤ w.heap.size) : Cmds w.heap.size (l.map (·.1)) v w := by
  rcases h.2 with ⟨rfl, h0⟩ | ⟨g, cap, cur, rfl, _, hgg, hle, hcap, hcs, htake⟩
  · have hl : l = [] := List.eq_nil_of_length_eq_zero h0
    subst hl
    exact Cmds.nil _ _
  · refine ⟨some ⟨g, 0, none⟩, cap, by simp, by simpa using hle, hcap, fun i hi => ?_⟩
    have hi' : i < l.length := by simpa using hi
    have hg : (l.map (·.1)).getD i [] = (l[i]).1 := by simp [List.getD_eq_getElem?_getD, hi']
    rw [hg]
    refine ⟨g, 0, (l[i]).2, rfl, ?_, ?_, (hs _ (List.getElem_mem hi')).mono hB⟩
    · rcases Nat.lt_or_ge g w.heap.size with h' | h'
      · exact h'
      · simp [Array.getElem?_eq_none h'] at hgg
    · rw [Nat.zero_add, Lib.cell_of_heap hgg]
      have e1 : (cur.toList.take (l.length * 1))[i]? = some (l[i]).2 := by
        rw [htake, List.getElem?_map, List.getElem?_eq_getElem hi']; rfl
      rw [List.getElem?_take_of_lt (by omega)] at e1
      simpa using e1

theorem cmds_one {B : Nat} {l : List (List Part × Value)} {w : World} (h : ∀ x ∈ l, Parts B x.1 x.2 w) : ∀ u ∈ l.map (·.2), u.oneCell' = true := by
  intro u hu
  obtain ⟨x, hx, rfl⟩ := List.mem_map.1 hu
  obtain ⟨ao, cap, hv, _⟩ := h x hx
  rw [hv]; rfl

end Go.Proofs.Yteikiecbjjmkoaa
