/-
  tally.remove, tally.add.
-/
import Derived.Test.YbulkmnsQuo
import Derived.Deep.RegionHeld3
import Derived.Laws.Rows
import Derived.BigRegion
import Derived.BigQuiet
import Derived.Deep.QuietTactic
namespace Go.Proofs.Ybulkmns
open Go.RowKit
set_option linter.unusedSimpArgs false
set_option linter.unusedVariables false

def p2 : Nat → Int
  | 0 => 1
  | 1 => 2
  | 2 => 4
  | _ => 8

theorem cell_of {w : World} {b : Nat} {A : Array Value} {t : TypeId} (h : w.heap[b]? = some (.cells A t (0, 0))) (i : Nat) (v : Value) (hv : A[i]? = some v) : w.cell? ⟨b, i, none⟩ = some v := by
  simp [World.cell?, h, hv]
theorem frozen_of {w : World} {b : Nat} {A : Array Value} {t : TypeId} (h : w.heap[b]? = some (.cells A t (0, 0))) (i : Nat) : w.frozen? ⟨b, i, none⟩ = false := by
  simp [World.frozen?, h]

theorem nil49 (C : Nat) (w : World) : (binOp .eql 49 (.slice (some ⟨C, 0, none⟩) 1 1) (.slice none 0 0)).run Yba.prog w = .ok (.bool false) w := by kernel_rfl
theorem nil49' (w : World) : (binOp .eql 49 (.slice none 0 0) (.slice none 0 0)).run Yba.prog w = .ok (.bool true) w := by kernel_rfl

structure Gen (w : World) (G gv nv cg : Nat) (st : Nat → Nat) (T : Nat) : Prop where
  val : w.cell? ⟨G, 32, none⟩ = some (.slice (some ⟨gv, 0, none⟩) nv cg)
  tot : w.cell? ⟨G, 34, none⟩ = some (.int .u64 T)
  stake : ∀ i, i < nv → w.cell? ⟨gv, i * 35 + 33, none⟩ = some (.int .u64 (st i))

/-- w' is w but for the blocks of S, and new blocks -/
structure Chg (S : List Nat) (w w' : World) : Prop where
  os : w'.os = w.os
  tape : w'.tape = w.tape
  output : w'.output = w.output
  size : w.heap.size ≤ w'.heap.size
  block : ∀ b, b < w.heap.size → b ∉ S → w'.heap[b]? = w.heap[b]?
theorem Chg.refl (S : List Nat) (w : World) : Chg S w w := ⟨rfl, rfl, rfl, Nat.le_refl _, fun _ _ _ => rfl⟩
theorem Chg.trans {S : List Nat} {a b c : World} (h : Chg S a b) (k : Chg S b c) : Chg S a c :=
  ⟨k.os.trans h.os, k.tape.trans h.tape, k.output.trans h.output, Nat.le_trans h.size k.size, fun i hi hp => (k.block i (by have := h.size; omega) hp).trans (h.block i hi hp)⟩
theorem Chg.mono {S S' : List Nat} {a b : World} (h : Chg S a b) (hs : ∀ x, x ∈ S → x ∈ S' ∨ a.heap.size ≤ x) : Chg S' a b :=
  ⟨h.os, h.tape, h.output, h.size, fun i hi hp => h.block i hi (fun hm => by rcases hs i hm with h | h; exact hp h; omega)⟩
theorem Chg.alloc {S : List Nat} {a w : World} (h : Chg S a w) (o : Obj) : Chg S a (w.alloc o) :=
  h.trans ⟨rfl, rfl, rfl, by simp, fun b hb _ => Below.heap_alloc w o b hb⟩
theorem Chg.drew {S : List Nat} {a w : World} (h : Chg S a w) : Chg S a w.drew := ⟨h.os, h.tape, h.output, h.size, h.block⟩
theorem Chg.setCell {S : List Nat} {a w : World} (h : Chg S a w) (b o : Nat) (hb : b ∈ S) (v : Value) : Chg S a (w.setCell ⟨b, o, none⟩ v) :=
  h.trans ⟨rfl, rfl, rfl, by simp [World.setCell], fun k _ hk => Below.heap_setCell w ⟨b, o, none⟩ v k (fun e => hk (by rw [e]; exact hb))⟩
theorem Chg.cell {S : List Nat} {w w' : World} (k : Chg S w w') {b o : Nat} (hb : b < w.heap.size) (hp : b ∉ S) : w'.cell? ⟨b, o, none⟩ = w.cell? ⟨b, o, none⟩ := World.cell?_of_block (k.block b hb hp)
theorem Chg.below {S : List Nat} {B : Nat} {a w w' : World} (h : Below B a w) (k : Chg S w w') (hB : B ≤ w.heap.size) (hp : ∀ x ∈ S, B ≤ x) : Below B a w' :=
  h.trans ⟨k.os, k.tape, k.output, k.size, fun b hb => k.block b (by omega) (fun hm => by have := hp b hm; omega)⟩

def tb (C : Nat) (s : Nat) (X : Value) : Obj := .cells #[.slice (some ⟨C, 0, none⟩) 1 1, .int .u64 s, X] 79 (0, 0)
def tc (m : Nat) : Obj := .cells #[.int .u64 m] 29 (0, 0)

theorem set_two (w : World) (B C s s' m m' : Nat) (X : Value) (hBC : B ≠ C) (hB : w.heap[B]? = some (tb C s X)) (hC : w.heap[C]? = some (tc m)) :
    ((w.setCell ⟨C, 0, none⟩ (.int .u64 m')).setCell ⟨B, 1, none⟩ (.int .u64 s')).heap[B]? = some (tb C s' X) ∧ ((w.setCell ⟨C, 0, none⟩ (.int .u64 m')).setCell ⟨B, 1, none⟩ (.int .u64 s')).heap[C]? = some (tc m') := by
  constructor
  · have h := (heap_setCell_other w ⟨C, 0, none⟩ B (.int .u64 m') hBC).trans hB
    rw [heap_setCell_same _ B 1 _ 79 _ h]
    rfl
  · rw [heap_setCell_other _ ⟨B, 1, none⟩ C _ (Ne.symm hBC), heap_setCell_same _ C 0 _ 29 _ hC]
    rfl

set_option maxRecDepth 100000 in
set_option maxHeartbeats 1000000 in
theorem tremove_set (B C G gv nv cg : Nat) (st : Nat → Nat) (T m m' s i : Nat) (X : Value) (w : World) (hi : i < nv) (hnv : nv ≤ 4) (gen : Gen w G gv nv cg st T)
    (hB : w.heap[B]? = some (tb C s X)) (hC : w.heap[C]? = some (tc m))
    (hGB : G ≠ B) (hGC : G ≠ C) (hvB : gv ≠ B) (hvC : gv ≠ C) (hb : bits .and .u64 (m : Int) (p2 i) = p2 i) (hm' : bits .andNot .u64 (m : Int) (p2 i) = m') (hs : st i ≤ s) (hs2 : s < 2 ^ 16) :
    Calls Yba.prog 10 #[.pointer (some ⟨B, 0, none⟩), .pointer (some ⟨G, 0, none⟩), .int .i64 i] w fun e w' => e = .returned (.bool true) ∧
      Chg [B, C] w w' ∧ w'.heap.size = w.heap.size ∧ w'.heap[B]? = some (tb C (s - st i) X) ∧ w'.heap[C]? = some (tc m') := by
  have hBC : B ≠ C := fun e => by rw [e, hC] at hB; cases hB
  have c1 : w.cell? ⟨B, 0, none⟩ = some (.slice (some ⟨C, 0, none⟩) 1 1) := cell_of hB 0 _ rfl
  have c2 : w.cell? ⟨B, 1, none⟩ = some (.int .u64 s) := cell_of hB 1 _ rfl
  have c3 : w.cell? ⟨C, 0, none⟩ = some (.int .u64 m) := cell_of hC 0 _ rfl
  have f1 := frozen_of hB 1
  have f2 := frozen_of hC 0
  have g1 := gen.val
  have g2 := gen.stake i hi
  have hw : IntKind.u64.wrap ((s : Int) - (st i : Int)) = ((s - st i : Nat) : Int) := by rw [← Int.ofNat_sub hs]; exact wrap_small _ (by omega)
  generalize st i = si at *
  have HF : Hid (Chg [B, C] w ((w.setCell ⟨C, 0, none⟩ (.int .u64 m')).setCell ⟨B, 1, none⟩ (.int .u64 ((s - si : Nat) : Int))).drew.drew ∧ ((w.setCell ⟨C, 0, none⟩ (.int .u64 m')).setCell ⟨B, 1, none⟩ (.int .u64 ((s - si : Nat) : Int))).drew.drew.heap.size = w.heap.size ∧
      ((w.setCell ⟨C, 0, none⟩ (.int .u64 m')).setCell ⟨B, 1, none⟩ (.int .u64 ((s - si : Nat) : Int))).drew.drew.heap[B]? = some (tb C (s - si) X) ∧ ((w.setCell ⟨C, 0, none⟩ (.int .u64 m')).setCell ⟨B, 1, none⟩ (.int .u64 ((s - si : Nat) : Int))).drew.drew.heap[C]? = some (tc m')) :=
    ⟨(((Chg.refl _ w).setCell C 0 (by simp) _).setCell B 1 (by simp) _).drew.drew, by show ((w.setCell ⟨C, 0, none⟩ (.int .u64 m')).setCell ⟨B, 1, none⟩ (.int .u64 ((s - si : Nat) : Int))).heap.size = _; simp [World.setCell], set_two w B C s (s - si) m m' X hBC hB hC⟩
  clear gen hB hC
  have hii : i = 0 ∨ i = 1 ∨ i = 2 ∨ i = 3 := by omega
  have hi0 : (0 : Int) ≤ (nv : Int) := by omega
  have hnil := nil49 C
  have w0 : IntKind.i64.wrap 0 = 0 := rfl
  have w1 : IntKind.u64.wrap 1 = 1 := rfl
  have w2 : IntKind.u64.wrap 2 = 2 := rfl
  have w4 : IntKind.u64.wrap 4 = 4 := rfl
  have w8 : IntKind.u64.wrap 8 = 8 := rfl
  rcases hii with rfl | rfl | rfl | rfl
  all_goals
    simp only [p2, Nat.reduceMul, Nat.reduceAdd, Int.cast_ofNat_Int, Nat.zero_mul, Nat.zero_add, Nat.one_mul] at hb hm' g2 ⊢
    have hi' := Int.ofNat_lt.2 hi
    simp only [Int.cast_ofNat_Int] at hi'
    go_enter Yba.func10, Yba.ntmps10
    go_wp2_with fail
    go_region_held3 (fun _ => True) (trivial) (fail)
    go_wp2_with fail
    go_region
    go_wp2_with fail
    go_ret
    exact ⟨rfl, HF.out⟩

set_option maxRecDepth 100000 in
set_option maxHeartbeats 1000000 in
theorem tremove_unset (B C G gv nv cg : Nat) (st : Nat → Nat) (T m s i : Nat) (X : Value) (w : World) (hi : i < nv) (hnv : nv ≤ 4)
    (hB : w.heap[B]? = some (tb C s X)) (hC : w.heap[C]? = some (tc m)) (hb : bits .and .u64 (m : Int) (p2 i) = 0) :
    Calls Yba.prog 10 #[.pointer (some ⟨B, 0, none⟩), .pointer (some ⟨G, 0, none⟩), .int .i64 i] w fun e w' => e = .returned (.bool false) ∧ w' = w.drew := by
  have c1 : w.cell? ⟨B, 0, none⟩ = some (.slice (some ⟨C, 0, none⟩) 1 1) := cell_of hB 0 _ rfl
  have c2 : w.cell? ⟨B, 1, none⟩ = some (.int .u64 s) := cell_of hB 1 _ rfl
  have c3 : w.cell? ⟨C, 0, none⟩ = some (.int .u64 m) := cell_of hC 0 _ rfl
  clear hB hC
  have hii : i = 0 ∨ i = 1 ∨ i = 2 ∨ i = 3 := by omega
  have hnil := nil49 C
  have w0 : IntKind.i64.wrap 0 = 0 := rfl
  have w1 : IntKind.u64.wrap 1 = 1 := rfl
  have w2 : IntKind.u64.wrap 2 = 2 := rfl
  have w4 : IntKind.u64.wrap 4 = 4 := rfl
  have w8 : IntKind.u64.wrap 8 = 8 := rfl
  rcases hii with rfl | rfl | rfl | rfl
  all_goals
    simp only [p2, Int.cast_ofNat_Int] at hb ⊢
    go_enter Yba.func10, Yba.ntmps10
    go_wp2_with fail
    go_region_held3 (fun _ => True) (trivial) (fail)
    go_wp2_with fail
    go_ret
    exact ⟨rfl, rfl⟩
end Go.Proofs.Ybulkmns
