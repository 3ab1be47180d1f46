/-
  What one round of the two building loops does to memory: a group is laid, its pointer is appended to a row that the call owns, the row is stored back into the scheduler.
-/
import Derived.Test.YbulkmmcSch
import Derived.Deep.AppendLies
namespace Go.Proofs.Ybulkmmc
open Go.RowKit

abbrev Ptr (g : Nat) : Value := .pointer (some ⟨g, 0, none⟩)

/-- W is wr with two blocks more (and draws) -/
structure Two (wr W : World) (G E : Obj) : Prop where
  heap : W.heap = (wr.heap.push G).push E
  os : W.os = wr.os
  tape : W.tape = wr.tape
  output : W.output = wr.output

theorem Two.mk0 (wr : World) (G E : Obj) : Two wr ((wr.alloc G).alloc E) G E := ⟨rfl, rfl, rfl, rfl⟩
theorem Two.mk1 (wr : World) (G E : Obj) : Two wr ((wr.alloc G).alloc E).drew G E := ⟨rfl, rfl, rfl, rfl⟩

theorem Two.old {wr W : World} {G E : Obj} (h : Two wr W G E) (i : Nat) (hi : i < wr.heap.size) : W.heap[i]? = wr.heap[i]? := by
  rw [h.heap, Array.getElem?_push, if_neg (by simp; omega), Array.getElem?_push, if_neg (by omega)]
theorem Two.first {wr W : World} {G E : Obj} (h : Two wr W G E) : W.heap[wr.heap.size]? = some G := by
  rw [h.heap, Array.getElem?_push, if_neg (by simp), Array.getElem?_push, if_pos rfl]
theorem Two.second {wr W : World} {G E : Obj} (h : Two wr W G E) : W.heap[wr.heap.size + 1]? = some E := by
  rw [h.heap, Array.getElem?_push, if_pos (by simp)]
theorem Two.size {wr W : World} {G E : Obj} (h : Two wr W G E) : W.heap.size = wr.heap.size + 2 := by
  rw [h.heap]; simp

theorem Two.below {wr W : World} {G E : Obj} (h : Two wr W G E) {B : Nat} (hB : B ≤ wr.heap.size) : Below B wr W :=
  ⟨h.os, h.tape, h.output, by rw [h.size]; omega, fun k hk => h.old k (by omega)⟩

theorem Two.owns {wr W : World} {G E : Obj} (h : Two wr W G E) {base n : Nat} {v : Value} {xs : List Value} (ho : wr.ownsRow base 63 1 v n xs) : W.ownsRow base 63 1 v n xs := by
  refine ⟨ho.1, ?_⟩
  rcases ho.2 with h2 | ⟨g, cap, cur, hv, hb, hg, r⟩
  · exact .inl h2
  · refine .inr ⟨g, cap, cur, hv, hb, ?_, r⟩
    rw [h.old g]
    · exact hg
    · rcases Nat.lt_or_ge g wr.heap.size with hlt | hge
      · exact hlt
      · rw [Array.getElem?_eq_none hge] at hg; cases hg

theorem Two.news {wr W : World} {G : Obj} {p : Value} (h : Two wr W G (.cells #[p] 63)) : ∀ j u, [p][j]? = some u → W.cell? ((⟨wr.heap.size + 1, 0, none⟩ : Addr).add j) = some u :=
  World.news_of_block (cs := #[p]) h.second

/-- THE ROUND's STEP -/
theorem step_heap {B o base n : Nat} {wr W w1 : World} {G E : Obj} {v u : Value} {xs : List Value} (hT : Two wr W G E) (hown : wr.ownsRow base 63 1 v n xs) (hbase : B < base) (hB : B < wr.heap.size)
    (hg : W.grownBy w1 v.ownBlock) :
    (∀ i, i < wr.heap.size → i ≠ B → some i ≠ v.ownBlock → (w1.setCell ⟨B, o, none⟩ u).heap[i]? = wr.heap[i]?) ∧ (w1.setCell ⟨B, o, none⟩ u).heap[wr.heap.size]? = some G ∧
    wr.heap.size + 2 ≤ (w1.setCell ⟨B, o, none⟩ u).heap.size ∧ (∀ x, w1.cell? ⟨B, x, none⟩ = wr.cell? ⟨B, x, none⟩) ∧ (∀ x, w1.frozen? ⟨B, x, none⟩ = wr.frozen? ⟨B, x, none⟩) ∧
    (∀ w0 B', Below B' w0 wr → B' ≤ B → Below B' w0 (w1.setCell ⟨B, o, none⟩ u)) := by
  have hlt := hown.lt
  have hne : ∀ i, i < base → some i ≠ v.ownBlock := fun i hi e => by have := hlt i e.symm; omega
  have hsz := hT.size
  have hnew : some wr.heap.size ≠ v.ownBlock := fun e => by have := hlt _ e.symm; omega
  have hBB : w1.heap[B]? = wr.heap[B]? := (hg.block B (by omega) (hne B hbase)).trans (hT.old B hB)
  refine ⟨fun i hi hiB hr => ?_, ?_, ?_, fun x => World.cell?_of_block hBB, fun x => World.frozen?_of_block hBB, fun w0 B' hb hB' => ?_⟩
  · rw [Below.heap_setCell _ _ _ _ hiB, hg.block i (by omega) hr, hT.old i hi]
  · rw [Below.heap_setCell _ _ _ _ (by simp; omega), hg.block _ (by omega) hnew, hT.first]
  · have := hg.size
    simp only [World.setCell, Array.size_modify]
    omega
  · refine (((hb.trans (hT.below (by omega))).grown hg (by omega) fun k hk => ?_)).setCell (by exact hB') u
    have := hlt k hk
    omega
end Go.Proofs.Ybulkmmc
