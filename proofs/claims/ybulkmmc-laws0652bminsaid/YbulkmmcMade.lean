/-
  What the two building loops leave, round by round.
-/
import Derived.Test.YbulkmmcHeap
namespace Go.Proofs.Ybulkmmc
open Go.RowKit

/-- the scheduler's two slices -/
def Sch (B : Nat) (wr : World) (v q : Value) : Prop :=
  wr.cell? ⟨B, 15, none⟩ = some v ∧ wr.frozen? ⟨B, 15, none⟩ = false ∧ wr.cell? ⟨B, 16, none⟩ = some q ∧ wr.frozen? ⟨B, 16, none⟩ = false

/-- what stands behind k rounds of the first loop -/
structure Made (w : World) (R S U : Nat → Int) (k : Nat) (wr : World) (L : List Nat) (v : Value) : Prop where
  len : L.length = k
  own : wr.ownsRow (w.heap.size + 1) 63 1 v k (L.map Ptr)
  bel : Below w.heap.size w wr
  size : w.heap.size < wr.heap.size
  grp : ∀ j, j < k → wr.heap[L.getD j 0]? = some (.cells (gcells (floatOfInt .f64 (R j)) (Flt.wt (U j)) (S j) j) 75 (0, 0))
  far : ∀ j, j < k → w.heap.size < L.getD j 0

/-- a block of another element type is no owned row -/
theorem not_row {wr : World} {base n i : Nat} {v : Value} {xs : List Value} {cs : Array Value} (hown : wr.ownsRow base 63 1 v n xs) (h : wr.heap[i]? = some (.cells cs 75 (0, 0))) : some i ≠ v.ownBlock := by
  intro e
  rcases hown.2 with ⟨h2, _⟩ | ⟨g, cap, cur, hv, hb, hg, r⟩
  · rw [h2] at e; cases e
  · rw [hv] at e
    have : i = g := by simpa [Value.ownBlock] using e
    subst this
    rw [h] at hg
    simp at hg

theorem lt_of_heap {wr : World} {i : Nat} {o : Obj} (h : wr.heap[i]? = some o) : i < wr.heap.size := by
  rcases Nat.lt_or_ge i wr.heap.size with hlt | hge
  · exact hlt
  · rw [Array.getElem?_eq_none hge] at h; cases h

theorem getD_snoc_lt (L : List Nat) (x j : Nat) (h : j < L.length) : (L ++ [x]).getD j 0 = L.getD j 0 := by
  simp [List.getD, List.getElem?_append_left h]
theorem getD_snoc_eq (L : List Nat) (x : Nat) : (L ++ [x]).getD L.length 0 = x := by
  simp [List.getD]

theorem made_step {w : World} {R S U : Nat → Int} {k : Nat} {wr W w1 : World} {L : List Nat} {v q : Value} (hm : Made w R S U k wr L v) (hs : Sch w.heap.size wr v q) {g cap : Nat} {E : Obj}
    (hT : Two wr W (.cells (gcells (floatOfInt .f64 (R k)) (Flt.wt (U k)) (S k) k) 75) E)
    (hown : w1.ownsRow (w.heap.size + 1) 63 1 (.slice (some ⟨g, 0, none⟩) (k + 1) cap) (k + 1) (L.map Ptr ++ [Ptr wr.heap.size])) (hg : W.grownBy w1 v.ownBlock) :
    Made w R S U (k + 1) (w1.setCell ⟨w.heap.size, 15, none⟩ (.slice (some ⟨g, 0, none⟩) (k + 1) cap)) (L ++ [wr.heap.size]) (.slice (some ⟨g, 0, none⟩) (k + 1) cap) ∧
    Sch w.heap.size (w1.setCell ⟨w.heap.size, 15, none⟩ (.slice (some ⟨g, 0, none⟩) (k + 1) cap)) (.slice (some ⟨g, 0, none⟩) (k + 1) cap) q := by
  obtain ⟨s1, s2, s3, s4, s5, s6⟩ := step_heap (B := w.heap.size) (o := 15) (u := .slice (some ⟨g, 0, none⟩) (k + 1) cap) hT hm.own (by omega) hm.size hg
  have hl := hm.len
  have hgB := (hown.lt g rfl).1
  refine ⟨⟨by simp [hl], ?_, s6 w _ hm.bel (Nat.le_refl _), by have := hm.size; omega, fun j hj => ?_, fun j hj => ?_⟩, ?_, ?_, ?_, ?_⟩
  · have := ownsRow_setCell_other hown (a := ⟨w.heap.size, 15, none⟩) (by simp [Value.ownBlock]; omega) (.slice (some ⟨g, 0, none⟩) (k + 1) cap)
    simpa using this
  · by_cases hjk : j < k
    · rw [getD_snoc_lt _ _ _ (by omega)]
      have hgj := hm.grp j hjk
      rw [s1 _ (lt_of_heap hgj) (by have := hm.far j hjk; omega) (not_row hm.own hgj)]
      exact hgj
    · have : j = L.length := by omega
      subst this
      rw [getD_snoc_eq, s2, hl]
  · by_cases hjk : j < k
    · rw [getD_snoc_lt _ _ _ (by omega)]
      exact hm.far j hjk
    · have : j = L.length := by omega
      subst this
      rw [getD_snoc_eq]
      exact hm.size
  · exact World.cell?_setCell_same _ _ _ ((s4 15).trans hs.1)
  · rw [World.frozen?_setCell, s5]; exact hs.2.1
  · rw [World.cell?_setCell_other _ _ _ _ (by simp), s4]; exact hs.2.2.1
  · rw [World.frozen?_setCell, s5]; exact hs.2.2.2

/-- what stands behind k rounds of the second loop; wa: the world when it began -/
structure Qued (w wa : World) (Q : Nat → Int) (k : Nat) (wr : World) (L : List Nat) (v : Value) : Prop where
  len : L.length = k
  own : wr.ownsRow wa.heap.size 63 1 v k (L.map Ptr)
  bel : Below w.heap.size w wr
  size : wa.heap.size ≤ wr.heap.size
  grp : 0 < k → wr.heap[L.getD 0 0]? = some (.cells (gcells (floatOfInt .f64 (Q 0)) 4607182418800017408 0 0) 75 (0, 0))
  far : 0 < k → wa.heap.size ≤ L.getD 0 0
  kept : ∀ i, i < wa.heap.size → i ≠ w.heap.size → wr.heap[i]? = wa.heap[i]?

theorem qued_step {w wa : World} {Q : Nat → Int} {k : Nat} {wr W w1 : World} {L : List Nat} {v q : Value} (hwa : w.heap.size < wa.heap.size) (hm : Qued w wa Q k wr L q) (hs : Sch w.heap.size wr v q) {g cap : Nat} {E : Obj}
    (hT : Two wr W (.cells (gcells (floatOfInt .f64 (Q k)) 4607182418800017408 0 k) 75) E)
    (hown : w1.ownsRow wa.heap.size 63 1 (.slice (some ⟨g, 0, none⟩) (k + 1) cap) (k + 1) (L.map Ptr ++ [Ptr wr.heap.size])) (hg : W.grownBy w1 q.ownBlock) :
    Qued w wa Q (k + 1) (w1.setCell ⟨w.heap.size, 16, none⟩ (.slice (some ⟨g, 0, none⟩) (k + 1) cap)) (L ++ [wr.heap.size]) (.slice (some ⟨g, 0, none⟩) (k + 1) cap) ∧
    Sch w.heap.size (w1.setCell ⟨w.heap.size, 16, none⟩ (.slice (some ⟨g, 0, none⟩) (k + 1) cap)) v (.slice (some ⟨g, 0, none⟩) (k + 1) cap) := by
  have hws : w.heap.size < wr.heap.size := by have := hm.size; omega
  obtain ⟨s1, s2, s3, s4, s5, s6⟩ := step_heap (B := w.heap.size) (o := 16) (u := .slice (some ⟨g, 0, none⟩) (k + 1) cap) hT hm.own (by omega) hws hg
  have hl := hm.len
  have hgB := (hown.lt g rfl).1
  refine ⟨⟨by simp [hl], ?_, s6 w _ hm.bel (Nat.le_refl _), by have := hm.size; omega, fun _ => ?_, fun _ => ?_, fun i hi hiB => ?_⟩, ?_, ?_, ?_, ?_⟩
  · have := ownsRow_setCell_other hown (a := ⟨w.heap.size, 16, none⟩) (by simp [Value.ownBlock]; omega) (.slice (some ⟨g, 0, none⟩) (k + 1) cap)
    simpa using this
  · by_cases hjk : 0 < k
    · rw [getD_snoc_lt _ _ _ (by omega)]
      have hgj := hm.grp hjk
      rw [s1 _ (lt_of_heap hgj) (by have := hm.far hjk; omega) (not_row hm.own hgj)]
      exact hgj
    · have hk0 : k = 0 := by omega
      subst hk0
      have hL : L = [] := List.length_eq_zero_iff.1 hl
      subst hL
      exact s2
  · by_cases hjk : 0 < k
    · rw [getD_snoc_lt _ _ _ (by omega)]
      exact hm.far hjk
    · have hk0 : k = 0 := by omega
      subst hk0
      have hL : L = [] := List.length_eq_zero_iff.1 hl
      subst hL
      exact hm.size
  · rw [s1 i (by have := hm.size; omega) hiB (fun e => by have := hm.own.lt i e.symm; omega)]
    exact hm.kept i hi hiB
  · rw [World.cell?_setCell_other _ _ _ _ (by simp), s4]; exact hs.1
  · rw [World.frozen?_setCell, s5]; exact hs.2.1
  · exact World.cell?_setCell_same _ _ _ ((s4 16).trans hs.2.2.1)
  · rw [World.frozen?_setCell, s5]; exact hs.2.2.2
end Go.Proofs.Ybulkmmc
