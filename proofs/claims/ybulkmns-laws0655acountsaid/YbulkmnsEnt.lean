/-
  Orderer.enter, where no timeout is held.
-/
import Derived.Test.YbulkmnsCty
import Derived.LoopN
namespace Go.Proofs.Ybulkmns
open Go.RowKit Go.MapKept
open Go.ChangeMaps (setBlock heap_setBlock_same heap_setBlock_other)
set_option linter.unusedSimpArgs false
set_option linter.unusedVariables false

def rgS (t : TypeId) (x : Value) : Sem Value := Instr.range t x
theorem rg_eq (t : TypeId) (x : Value) : Instr.range t x = rgS t x := rfl
def nxS (x : Value) (b : Bool) (t : TypeId) : Sem Value := Instr.next x b t
theorem nx_eq (x : Value) (b : Bool) (t : TypeId) : Instr.next x b t = nxS x b t := rfl
attribute [local go_sem ↓] ld45 ld48 ld66 ld71 lk_eq mu_eq st48 st71 rg_eq nx_eq

theorem set_three (w : World) (O : Nat) (A : Array Value) (x y z : Value) (hO : w.heap[O]? = some (.cells A 59 (0, 0))) :
    (((w.setCell ⟨O, 3, none⟩ x).setCell ⟨O, 4, none⟩ y).setCell ⟨O, 7, none⟩ z).heap[O]? = some (.cells (((A.setIfInBounds 3 x).setIfInBounds 4 y).setIfInBounds 7 z) 59 (0, 0)) :=
  heap_setCell_same _ O 7 _ 59 z (heap_setCell_same _ O 4 _ 59 y (heap_setCell_same w O 3 A 59 x hO))

set_option maxRecDepth 100000 in
set_option maxHeartbeats 400000 in
theorem enter_at (O T v : Nat) (now d : Int) (A : Array Value) (w : World) (hO : w.heap[O]? = some (.cells A 59 (0, 0))) (hA : A.size = 102)
    (h44 : A[44]? = some (.map (some T))) (h2 : A[2]? = some (.int .i64 d)) (hT : w.heap[T]? = some (.map #[] 0)) :
    Calls Yba.prog 9 #[.pointer (some ⟨O, 0, none⟩), .int .i64 now, .int .u64 v] w fun e w' => e = .returned (.tuple #[]) ∧ Chg [O] w w' ∧
      ∃ A' : Array Value, w'.heap[O]? = some (.cells A' 59 (0, 0)) ∧ A'.size = 102 ∧ A'[3]? = some (.int .u64 v) ∧ (∀ j, j ≠ 3 → j ≠ 4 → j ≠ 7 → A'[j]? = A[j]?) := by
  have hOT : O ≠ T := fun e => by rw [e, hT] at hO; cases hO
  have hOl : O < w.heap.size := (Array.getElem?_eq_some_iff.1 hO).1
  have c3 : ∃ x, w.cell? ⟨O, 3, none⟩ = some x := ⟨A[3]'(by omega), cell_of hO 3 _ (by simp [hA])⟩
  have c4 : ∃ x, w.cell? ⟨O, 4, none⟩ = some x := ⟨A[4]'(by omega), cell_of hO 4 _ (by simp [hA])⟩
  have c7 : ∃ x, w.cell? ⟨O, 7, none⟩ = some x := ⟨A[7]'(by omega), cell_of hO 7 _ (by simp [hA])⟩
  obtain ⟨x3, c3⟩ := c3
  obtain ⟨x4, c4⟩ := c4
  obtain ⟨x7, c7⟩ := c7
  have c2 : w.cell? ⟨O, 2, none⟩ = some (.int .i64 d) := cell_of hO 2 _ h2
  have c44 : w.cell? ⟨O, 44, none⟩ = some (.map (some T)) := cell_of hO 44 _ h44
  have f3 := frozen_of hO 3
  have f4 := frozen_of hO 4
  have f7 := frozen_of hO 7
  have hs : ∀ z : Value, (((w.setCell ⟨O, 3, none⟩ (.int .u64 v)).setCell ⟨O, 4, none⟩ (.pointer none)).setCell ⟨O, 7, none⟩ z).heap.size = w.heap.size := fun z => by simp [World.setCell]
  have hT3 : ∀ z : Value, (((w.setCell ⟨O, 3, none⟩ (.int .u64 v)).setCell ⟨O, 4, none⟩ (.pointer none)).setCell ⟨O, 7, none⟩ z).heap[T]? = some (.map #[] 0) := fun z => by
    rw [heap_setCell_other _ _ _ _ (Ne.symm hOT), heap_setCell_other _ _ _ _ (Ne.symm hOT), heap_setCell_other _ _ _ _ (Ne.symm hOT)]
    exact hT
  have hrg : ∀ z : Value, (rgS 38 (.map (some T))).run Yba.prog (((w.setCell ⟨O, 3, none⟩ (.int .u64 v)).setCell ⟨O, 4, none⟩ (.pointer none)).setCell ⟨O, 7, none⟩ z) = .ok (.pointer (some ⟨w.heap.size, 0, none⟩)) ((((w.setCell ⟨O, 3, none⟩ (.int .u64 v)).setCell ⟨O, 4, none⟩ (.pointer none)).setCell ⟨O, 7, none⟩ z).alloc (.mapIter (some T) 0 #[] 0)) := fun z => by
    have := run_range_map (P := Yba.prog) _ 38 _ _ T #[] 0 Yba.underlying38 (hT3 z)
    rwa [hs z] at this
  have hnx : ∀ (z : Value) (t : TypeId), (nxS (.pointer (some ⟨w.heap.size, 0, none⟩)) false t).run Yba.prog ((((w.setCell ⟨O, 3, none⟩ (.int .u64 v)).setCell ⟨O, 4, none⟩ (.pointer none)).setCell ⟨O, 7, none⟩ z).alloc (.mapIter (some T) 0 #[] 0)) = .ok (.tuple #[.bool false]) ((((w.setCell ⟨O, 3, none⟩ (.int .u64 v)).setCell ⟨O, 4, none⟩ (.pointer none)).setCell ⟨O, 7, none⟩ z).alloc (.mapIter (some T) 0 #[] 0)) := fun z t => by
    have hn := (MapKept.heap_alloc (((w.setCell ⟨O, 3, none⟩ (.int .u64 v)).setCell ⟨O, 4, none⟩ (.pointer none)).setCell ⟨O, 7, none⟩ z) (.mapIter (some T) 0 #[] 0))
    have hlt : T < w.heap.size := (Array.getElem?_eq_some_iff.1 hT).1
    have h1 := hn.1
    rw [hs z] at h1
    rcases run_next_at (P := Yba.prog) _ t w.heap.size T 0 0 #[] #[] 0 h1 ((hn.2 T (by rw [hs z]; exact hlt)).trans (hT3 z)) (by simp) (Nat.le_refl _) with ⟨_, h⟩ | ⟨e, he, _⟩
    · exact h
    · simp [leftOf] at he
  have HF : Hid (∀ z : Value, Chg [O] w ((((w.setCell ⟨O, 3, none⟩ (.int .u64 v)).setCell ⟨O, 4, none⟩ (.pointer none)).setCell ⟨O, 7, none⟩ z).alloc (.mapIter (some T) 0 #[] 0)) ∧
      ∃ A' : Array Value, ((((w.setCell ⟨O, 3, none⟩ (.int .u64 v)).setCell ⟨O, 4, none⟩ (.pointer none)).setCell ⟨O, 7, none⟩ z).alloc (.mapIter (some T) 0 #[] 0)).heap[O]? = some (.cells A' 59 (0, 0)) ∧ A'.size = 102 ∧ A'[3]? = some (.int .u64 v) ∧ (∀ j, j ≠ 3 → j ≠ 4 → j ≠ 7 → A'[j]? = A[j]?)) := fun z => by
    refine ⟨((((Chg.refl _ w).setCell O 3 (by simp) _).setCell O 4 (by simp) _).setCell O 7 (by simp) _).alloc _, _, ((MapKept.heap_alloc _ _).2 O (by rw [hs z]; exact hOl)).trans (set_three w O A _ _ z hO), by simp [hA], ?_, fun j h3 h4 h7 => ?_⟩
    · rw [Array.getElem?_setIfInBounds_ne (by omega), Array.getElem?_setIfInBounds_ne (by omega), Array.getElem?_setIfInBounds_self_of_lt (by omega)]
    · rw [Array.getElem?_setIfInBounds_ne (by omega), Array.getElem?_setIfInBounds_ne (by omega), Array.getElem?_setIfInBounds_ne (by omega)]
  clear hO hT hT3 hs
  go_enter Yba.func9, Yba.ntmps9
  go_wp2_with fail
  refine wp_loop_rounds 1 ?_
  rw [rounds_succ]
  go_wp2_with fail
  go_end0
  exact ⟨rfl, HF.out _⟩
end Go.Proofs.Ybulkmns
