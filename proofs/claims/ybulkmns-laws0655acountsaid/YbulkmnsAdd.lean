/-
  tally.add.
-/
import Derived.Test.YbulkmnsTly
namespace Go.Proofs.Ybulkmns
open Go.RowKit
set_option linter.unusedSimpArgs false
set_option linter.unusedVariables false

set_option maxRecDepth 100000 in
set_option maxHeartbeats 1000000 in
theorem tadd_old (B C G gv nv cg : Nat) (st : Nat → Nat) (T m m' s i : Nat) (X : Value) (w : World) (hi : i < nv) (hnv : nv ≤ 4) (gen : Gen w G gv nv cg st T)
    (hB : w.heap[B]? = some (tb C s X)) (hC : w.heap[C]? = some (tc m))
    (hGB : G ≠ B) (hGC : G ≠ C) (hvB : gv ≠ B) (hvC : gv ≠ C) (hb : bits .and .u64 (m : Int) (p2 i) = 0) (hm' : bits .or .u64 (m : Int) (p2 i) = m') (hs : st i < 2 ^ 16) (hs2 : s < 2 ^ 16) :
    Calls Yba.prog 6 #[.pointer (some ⟨B, 0, none⟩), .pointer (some ⟨G, 0, none⟩), .int .i64 i] w fun e w' => e = .returned (.bool true) ∧
      Chg [B, C] w w' ∧ w'.heap.size = w.heap.size ∧ w'.heap[B]? = some (tb C (s + st i) X) ∧ w'.heap[C]? = some (tc m') := by
  have hBC : B ≠ C := fun e => by rw [e, hC] at hB; cases hB
  have c1 : w.cell? ⟨B, 0, none⟩ = some (.slice (some ⟨C, 0, none⟩) 1 1) := cell_of hB 0 _ rfl
  have c2 : w.cell? ⟨B, 1, none⟩ = some (.int .u64 s) := cell_of hB 1 _ rfl
  have c3 : w.cell? ⟨C, 0, none⟩ = some (.int .u64 m) := cell_of hC 0 _ rfl
  have f1 := frozen_of hB 1
  have f2 := frozen_of hC 0
  have g1 := gen.val
  have g2 := gen.stake i hi
  have hw : IntKind.u64.wrap ((s : Int) + (st i : Int)) = ((s + st i : Nat) : Int) := by rw [← Int.natCast_add]; exact wrap_small _ (by omega)
  generalize st i = si at *
  have HF : Hid (Chg [B, C] w ((w.setCell ⟨C, 0, none⟩ (.int .u64 m')).setCell ⟨B, 1, none⟩ (.int .u64 ((s + si : Nat) : Int))).drew.drew ∧ ((w.setCell ⟨C, 0, none⟩ (.int .u64 m')).setCell ⟨B, 1, none⟩ (.int .u64 ((s + si : Nat) : Int))).drew.drew.heap.size = w.heap.size ∧
      ((w.setCell ⟨C, 0, none⟩ (.int .u64 m')).setCell ⟨B, 1, none⟩ (.int .u64 ((s + si : Nat) : Int))).drew.drew.heap[B]? = some (tb C (s + si) X) ∧ ((w.setCell ⟨C, 0, none⟩ (.int .u64 m')).setCell ⟨B, 1, none⟩ (.int .u64 ((s + si : Nat) : Int))).drew.drew.heap[C]? = some (tc m')) :=
    ⟨(((Chg.refl _ w).setCell C 0 (by simp) _).setCell B 1 (by simp) _).drew.drew, by show ((w.setCell ⟨C, 0, none⟩ (.int .u64 m')).setCell ⟨B, 1, none⟩ (.int .u64 ((s + si : Nat) : Int))).heap.size = _; simp [World.setCell], set_two w B C s (s + si) m m' X hBC hB hC⟩
  clear gen hB hC
  have hii : i = 0 ∨ i = 1 ∨ i = 2 ∨ i = 3 := by omega
  have hi0 : (0 : Int) ≤ (nv : Int) := by omega
  have hnil := nil49 C
  have w0 : IntKind.i64.wrap 0 = 0 := rfl
  have w1 : IntKind.u64.wrap 1 = 1 := rfl
  have w2 : IntKind.u64.wrap 2 = 2 := rfl
  have w4 : IntKind.u64.wrap 4 = 4 := rfl
  have w8 : IntKind.u64.wrap 8 = 8 := rfl
  rcases hii with rfl | rfl | rfl | rfl
  all_goals
    simp only [p2, Nat.reduceMul, Nat.reduceAdd, Int.cast_ofNat_Int, Nat.zero_mul, Nat.zero_add, Nat.one_mul] at hb hm' g2 ⊢
    have hi' := Int.ofNat_lt.2 hi
    simp only [Int.cast_ofNat_Int] at hi'
    go_enter Yba.func6, Yba.ntmps6
    go_wp2_with fail
    go_region_held3 (fun _ => True) (trivial) (fail)
    go_wp2_with fail
    go_region
    go_wp2_with fail
    go_ret
    first
    | exact ⟨rfl, HF.out⟩
    | (simp only [Int.natCast_add] at HF; exact ⟨rfl, HF.out⟩)

theorem make49 (w : World) : (Instr.makeSlice 49 (.int .i64 1) (.int .i64 1)).run Yba.prog w = .ok (.slice (some ⟨w.heap.size, 0, none⟩) 1 1) (w.alloc (.cells #[.int .u64 0] 29)) := by kernel_rfl
end Go.Proofs.Ybulkmns
