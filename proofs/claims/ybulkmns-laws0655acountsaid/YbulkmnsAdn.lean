/-
  tally.add to a tally that counts none.
-/
import Derived.Test.YbulkmnsAdd
namespace Go.Proofs.Ybulkmns
open Go.RowKit
set_option linter.unusedSimpArgs false
set_option linter.unusedVariables false

def tz : Obj := .cells #[.slice none 0 0, .int .u64 0, .slice none 0 0] 79 (0, 0)

theorem new_three (w : World) (B si : Nat) (q : Int) (hB : w.heap[B]? = some tz) :
    (((w.setCell ⟨B, 0, none⟩ (.slice (some ⟨w.heap.size, 0, none⟩) 1 1)).setCell ⟨B, 1, none⟩ (.int .u64 si)).alloc (.cells #[.int .u64 q] 29)).heap.size = w.heap.size + 1 ∧
    (((w.setCell ⟨B, 0, none⟩ (.slice (some ⟨w.heap.size, 0, none⟩) 1 1)).setCell ⟨B, 1, none⟩ (.int .u64 si)).alloc (.cells #[.int .u64 q] 29)).heap[B]? = some (tb w.heap.size si (.slice none 0 0)) ∧
    (((w.setCell ⟨B, 0, none⟩ (.slice (some ⟨w.heap.size, 0, none⟩) 1 1)).setCell ⟨B, 1, none⟩ (.int .u64 si)).alloc (.cells #[.int .u64 q] 29)).heap[w.heap.size]? = some (.cells #[.int .u64 q] 29 (0, 0)) := by
  have hlt : B < w.heap.size := (Array.getElem?_eq_some_iff.1 hB).1
  have hs : ((w.setCell ⟨B, 0, none⟩ (.slice (some ⟨w.heap.size, 0, none⟩) 1 1)).setCell ⟨B, 1, none⟩ (.int .u64 si)).heap.size = w.heap.size := by simp [World.setCell]
  have h1 := heap_setCell_same w B 0 _ 79 (.slice (some ⟨w.heap.size, 0, none⟩) 1 1) hB
  have h2 := heap_setCell_same _ B 1 _ 79 (.int .u64 si) h1
  have hn := MapKept.heap_alloc ((w.setCell ⟨B, 0, none⟩ (.slice (some ⟨w.heap.size, 0, none⟩) 1 1)).setCell ⟨B, 1, none⟩ (.int .u64 si)) (.cells #[.int .u64 q] 29)
  refine ⟨by simp [World.setCell], (hn.2 B (by rw [hs]; exact hlt)).trans (h2.trans rfl), ?_⟩
  have := hn.1
  rwa [hs] at this

set_option maxRecDepth 100000 in
set_option maxHeartbeats 1000000 in
theorem tadd_new (B G gv nv cg : Nat) (st : Nat → Nat) (T i : Nat) (w : World) (hi : i < nv) (hnv : nv ≤ 4) (gen : Gen w G gv nv cg st T)
    (hB : w.heap[B]? = some tz) (hlB : B < w.heap.size) (hlG : G < w.heap.size) (hlv : gv < w.heap.size) (hGB : G ≠ B) (hvB : gv ≠ B) (hs : st i < 2 ^ 16) :
    Calls Yba.prog 6 #[.pointer (some ⟨B, 0, none⟩), .pointer (some ⟨G, 0, none⟩), .int .i64 i] w fun e w' => e = .returned (.bool true) ∧
      Chg [B] w w' ∧ w'.heap.size = w.heap.size + 1 ∧ w'.heap[B]? = some (tb w.heap.size (st i) (.slice none 0 0)) ∧ w'.heap[w.heap.size]? = some (tc (p2 i).toNat) := by
  have c1 : w.cell? ⟨B, 0, none⟩ = some (.slice none 0 0) := cell_of hB 0 _ rfl
  have c2 : w.cell? ⟨B, 1, none⟩ = some (.int .u64 0) := cell_of hB 1 _ rfl
  have f1 := frozen_of hB 1
  have f0 := frozen_of hB 0
  have g1 := gen.val
  have g2 := gen.stake i hi
  have hw : IntKind.u64.wrap (st i : Int) = (st i : Int) := wrap_small _ (by omega)
  generalize st i = si at *
  have HF : Hid (∀ q : Int, _) := new_three w B si (hB := hB)
  clear gen
  have hii : i = 0 ∨ i = 1 ∨ i = 2 ∨ i = 3 := by omega
  have hi0 : (0 : Int) ≤ (nv : Int) := by omega
  have hnil := nil49'
  have hmk := make49
  have w0 : IntKind.i64.wrap 0 = 0 := rfl
  have w1 : IntKind.u64.wrap 1 = 1 := rfl
  have w2 : IntKind.u64.wrap 2 = 2 := rfl
  have w4 : IntKind.u64.wrap 4 = 4 := rfl
  have w8 : IntKind.u64.wrap 8 = 8 := rfl
  have hq : IntKind.i64.wrap ((nv : Int) + 63) = (nv : Int) + 63 := by rw [IntKind.wrap_i64]; omega
  have hd : ((nv : Int) + 63) / 64 = 1 := by omega
  have z1 : bits .and .u64 0 1 = 0 := by decide
  have z2 : bits .and .u64 0 2 = 0 := by decide
  have z4 : bits .and .u64 0 4 = 0 := by decide
  have z8 : bits .and .u64 0 8 = 0 := by decide
  have o1 : bits .or .u64 0 1 = 1 := by decide
  have o2 : bits .or .u64 0 2 = 2 := by decide
  have o4 : bits .or .u64 0 4 = 4 := by decide
  have o8 : bits .or .u64 0 8 = 8 := by decide
  have hnl := nil49 w.heap.size
  rcases hii with rfl | rfl | rfl | rfl
  all_goals
    simp only [p2, Nat.reduceMul, Nat.reduceAdd, Int.cast_ofNat_Int, Nat.zero_mul, Nat.zero_add, Nat.one_mul] at g2 ⊢
    have hi' := Int.ofNat_lt.2 hi
    simp only [Int.cast_ofNat_Int] at hi'
    go_enter Yba.func6, Yba.ntmps6
    go_wp2_with fail
    go_region_held3 (fun _ => True) (trivial) (fail)
    go_wp2_with fail
    go_region
    go_wp2_with fail
    go_ret
    exact ⟨rfl, ((((Chg.refl _ w).setCell B 0 (by simp) _).setCell B 1 (by simp) _).alloc _).drew.drew, (HF.out _).1, (HF.out _).2.1, (HF.out _).2.2⟩
end Go.Proofs.Ybulkmns
