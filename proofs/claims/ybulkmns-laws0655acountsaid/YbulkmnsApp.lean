/-
  The vote is appended to its ballot's votes; what stands behind it.
-/
import Derived.Test.YbulkmnsAny
namespace Go.Proofs.Ybulkmns
open Go.RowKit Go.MapKept
set_option linter.unusedSimpArgs false
set_option linter.unusedVariables false

theorem Ord.g {w : World} {E : Env} {view : Nat} {ext : Value} (h : Ord w E view ext) : w.cell? ⟨E.O, 1, none⟩ = some (.pointer (some ⟨E.G, 0, none⟩)) := by
  obtain ⟨A, hA, _, a1, _⟩ := h
  exact cell_of hA 1 _ a1
theorem Ord.b {w : World} {E : Env} {view : Nat} {ext : Value} (h : Ord w E view ext) : w.cell? ⟨E.O, 54, none⟩ = some (.map (some E.Bm)) := by
  obtain ⟨A, hA, _, _, _, _, _, _, _, _, a, _⟩ := h
  exact cell_of hA 54 _ a
theorem Ord.v {w : World} {E : Env} {view : Nat} {ext : Value} (h : Ord w E view ext) : w.cell? ⟨E.O, 3, none⟩ = some (.int .u64 view) := by
  obtain ⟨A, hA, _, _, _, a, _⟩ := h
  exact cell_of hA 3 _ a

/-- the vote of i stands in its ballot -/
def Mid4 (E : Env) (lo : Nat) (lv lp : Nat → Nat) (cnt : Nat → Bool) (view : Nat) (ext : Value) (Vb s p i : Nat) (w : World) (B : Nat) (w' : World) : Prop :=
  Fr lo w w' ∧ Ord w' E view ext ∧ VoteAt w' Vb s p i ∧ ∃ C V cap l, In E lv lp cnt s p i B w' C V cap l

theorem scs_snoc (l : List Nat) (i : Nat) : scs (l ++ [i]) = scs l ++ sc i := by simp [scs]

theorem app_done {E : Env} {lo : Nat} {lv lp : Nat → Nat} {cnt : Nat → Bool} {view : Nat} {ext : Value} {Vb s p i : Nat} {w : World} {B : Nat} {w3 w4 : World} (ok : E.Ok) (hlo : Lo E lo) {C : Nat} {X : Value} {l : List Nat} {g cap : Nat} (o : Obj)
    (hfr : Fr lo w w3) (ord : Ord w3 E view ext) (hvt : VoteAt w3 Vb s p i) (hB : w3.heap[B]? = some (tb C (tot E.st (l ++ [i])) X)) (hC : w3.heap[C]? = some (tc (mask (l ++ [i])))) (hbB : E.base ≤ B) (hbC : E.base ≤ C)
    (own : w3.ownsRow E.base 66 65 X l.length (scs l)) (hsz : E.base ≤ w3.heap.size)
    (fin : ∀ (w3' : World) (V cap : Nat), Chg (B :: (X.ownBlock).toList) w3 w3' → Bal w3' E.st B C V cap (l ++ [i]) → (X.ownBlock = some V ∨ w3.heap.size ≤ V) → In E lv lp cnt s p i B w3' C V cap (l ++ [i]))
    (ho : w4.ownsRow E.base 66 65 (.slice (some ⟨g, 0, none⟩) (l.length + 1) cap) (l.length + 1) (scs l ++ sc i)) (hg : (w3.alloc o).drew.grownBy w4 X.ownBlock) (hor : X.ownBlock = some g ∨ g = (w3.alloc o).drew.heap.size) :
    Mid4 E lo lv lp cnt view ext Vb s p i w B (w4.setCell ⟨B, 2, none⟩ (.slice (some ⟨g, 0, none⟩) (l.length + 1) cap)) := by
  have hsa : (w3.alloc o).drew.heap.size = w3.heap.size + 1 := by show (w3.alloc o).heap.size = _; simp
  have h4 : ∀ b, b < w3.heap.size → X.ownBlock ≠ some b → w4.heap[b]? = w3.heap[b]? := fun b hb hn => (hg.block b (by omega) (fun e => hn e.symm)).trans (Below.heap_alloc w3 o b hb)
  have hrow : ∀ V, X.ownBlock = some V → E.base ≤ V ∧ ∃ cur, w3.heap[V]? = some (.cells cur 66 (0, 0)) := fun V hV => by
    rcases own.2 with ⟨e, _⟩ | ⟨g', c', cur, e, hb, hh, _⟩
    · rw [e] at hV; cases hV
    · rw [e] at hV
      simp [Value.ownBlock] at hV
      subst hV
      exact ⟨hb, cur, hh⟩
  have nB : X.ownBlock ≠ some B := fun e => by
    obtain ⟨_, cur, h⟩ := hrow B e
    rw [hB] at h; cases h
  have nC : X.ownBlock ≠ some C := fun e => by
    obtain ⟨_, cur, h⟩ := hrow C e
    rw [hC] at h; cases h
  have nBC : B ≠ C := fun e => by rw [e, hC] at hB; cases hB
  have nVb : X.ownBlock ≠ some Vb := fun e => by
    obtain ⟨_, cur, h⟩ := hrow Vb e
    unfold VoteAt at hvt
    rw [hvt] at h; cases h
  have nBV : B ≠ Vb := fun e => by unfold VoteAt at hvt; rw [e, hvt] at hB; cases hB
  have b4 := (h4 B (lt_of_heap hB) nB).trans hB
  have nBg : g ≠ B := fun e => by
    rcases ho.2 with ⟨e', _⟩ | ⟨g', c', cur, e', hb, hh, _⟩
    · cases e'
    · injection e' with e1
      injection e1 with e1
      injection e1 with e1
      subst e1
      rw [e, b4] at hh; cases hh
  have oth : ∀ b, b ≠ B → (w4.setCell ⟨B, 2, none⟩ (.slice (some ⟨g, 0, none⟩) (l.length + 1) cap)).heap[b]? = w4.heap[b]? := fun b hb => Below.heap_setCell w4 ⟨B, 2, none⟩ _ b hb
  have hc : Chg (B :: (X.ownBlock).toList) w3 w4 := ⟨hg.os, hg.tape, hg.output, by have := hg.size; omega, fun b hb hn => h4 b hb (fun e => hn (by simp [e]))⟩
  have hc5 := hc.setCell B 2 (by simp) (.slice (some ⟨g, 0, none⟩) (l.length + 1) cap)
  have oO := ok.O
  have nO : X.ownBlock ≠ some E.O := fun e => by have := (hrow E.O e).1; omega
  refine ⟨hfr.trans (hc5.fr (fun x hx => ?_)), ord.keep ((oth E.O (by omega)).trans (h4 E.O (by omega) nO)), hvt.keep ((oth Vb (Ne.symm nBV)).trans (h4 Vb (lt_of_heap hvt) nVb)), C, g, cap, l ++ [i], fin _ g cap hc5 ⟨?_, ?_, ?_⟩ ?_⟩
  · have := hlo.base
    simp only [List.mem_cons, Option.mem_toList] at hx
    rcases hx with rfl | hx
    · exact .inr ⟨by omega, .inr ⟨_, _, _, hB, by simp⟩⟩
    · obtain ⟨h1, cur, h2⟩ := hrow x hx
      exact .inr ⟨by omega, .inr ⟨_, _, _, h2, by simp⟩⟩
  · have e1 := heap_setCell_same w4 B 2 _ 79 (.slice (some ⟨g, 0, none⟩) (l.length + 1) cap) b4
    simpa [tb] using e1
  · exact (oth C (Ne.symm nBC)).trans ((h4 C (lt_of_heap hC) nC).trans hC)
  · refine Vt.keep (Vt.of_owns (n := l.length + 1) (base := E.base) (by simp) ?_) (oth g nBg)
    rw [scs_snoc]; exact ho
  · exact hor.imp id (fun e => by omega)

def bsS (t : TypeId) (n : Nat) (xs : Array (Nat × Value)) : Sem Value := Instr.buildSlice t n xs
theorem bs46 (n : Nat) (xs : Array (Nat × Value)) : Instr.buildSlice 46 n xs = bsS 46 n xs := rfl
theorem slice46 (i : Nat) (w : World) : (bsS 46 1 #[(0, .agg (sc i).toArray)]).run Yba.prog w = .ok (.slice (some ⟨w.heap.size, 0, none⟩) 1 1) (w.alloc (.cells (sc i).toArray 66)) := by kernel_rfl
end Go.Proofs.Ybulkmns
