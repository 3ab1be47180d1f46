/-
  An entry is 33 cells: 32 bytes and a number. Two entries of the same cells are the same.
-/
import Derived.Test.YbulkmpiRows
import Derived.WalkKit
import Derived.WalkSpells
import Derived.WalkLawsBesides
import Derived.Deep.MidRow
namespace Go.Proofs.Ybulkmpi
open Go.RowKit

/-- the cells of an entry -/
structure Ec (C : List Value) : Prop where
  len : C.length = 33
  u8 : ∀ i, i < 32 → ∃ n, C[i]? = some (.int .u8 n)
  u64 : ∃ h, C[32]? = some (.int .u64 h)

theorem Ec.one {C : List Value} (h : Ec C) : ∀ v, v ∈ C → v.oneCell' = true := by
  intro v hv
  obtain ⟨i, hi, rfl⟩ := List.getElem_of_mem hv
  have hl := h.len
  by_cases h32 : i < 32
  · obtain ⟨n, hn⟩ := h.u8 i h32
    rw [List.getElem?_eq_getElem hi] at hn
    rw [Option.some.inj hn]; rfl
  · have : i = 32 := by omega
    subst this
    obtain ⟨n, hn⟩ := h.u64
    rw [List.getElem?_eq_getElem hi] at hn
    rw [Option.some.inj hn]; rfl

theorem Yba.size28 : (Yba.prog.info? 28).map (·.size) = some 32 := by kernel_rfl
theorem Yba.size27 : (Yba.prog.info? 27).map (·.size) = some 32 := by kernel_rfl
theorem Yba.size31 : (Yba.prog.info? 31).map (·.size) = some 33 := by kernel_rfl
theorem Yba.size37 : (Yba.prog.info? 37).map (·.size) = some 33 := by kernel_rfl
theorem Yba.size5 : (Yba.prog.info? 5).map (·.size) = some 1 := by kernel_rfl

theorem eq_hash (d : Nat) (xs : Array Value) (h : ∀ i, i < 32 → ∃ n, xs[i]? = some (.int .u8 n)) (w : World) : (Op.equalIn (d + 2) 28 (.agg xs) (.agg xs)).run Yba.prog w = .ok true w := by
  rw [Op.equalIn]
  simp only [Sem.run_bind, run_underlying Yba.underlying28, Result.andThen_ok, Yba.sizeOf5, Std.Legacy.Range.forIn_eq_forIn_range', Std.Legacy.Range.size, Nat.sub_zero, Nat.add_sub_cancel, Nat.div_one]
  have hl : ∀ i ∈ List.range' 0 32 1, i < 32 := fun i hi => by simpa using (List.mem_range'_1.1 hi).2
  generalize List.range' 0 32 1 = l at hl ⊢
  induction l with
  | nil => simp
  | cons i l ih =>
    have hi : i < 32 := hl i (by simp)
    obtain ⟨n, hn⟩ := h i hi
    have px : (part 5 xs (i * 1)).run Yba.prog w = .ok (.int .u8 n) w := by
      simp [part, isAgg, run_underlying Yba.underlying5, hn]
    have pe : (Op.equalIn (d + 1) 5 (.int .u8 n) (.int .u8 n)).run Yba.prog w = .ok true w := by
      rw [run_equalIn_int w d 5 .u8 .u8 _ _ Yba.underlying5]
      simp
    simp only [List.forIn_cons, Sem.run_bind, px, pe, Result.andThen_ok]
    simp only [Bool.not_true, Bool.false_eq_true, if_false, Sem.run_pure, Result.andThen_ok]
    exact ih fun j hj => hl j (by simp [hj])

theorem eql_hash (C : List Value) (hC : Ec C) (w : World) : (Op.equalIn 10000 28 (.agg (C.take 32).toArray) (.agg (C.take 32).toArray)).run Yba.prog w = .ok true w :=
  eq_hash 9998 (C.take 32).toArray (fun i hi => by
    obtain ⟨n, hn⟩ := hC.u8 i hi
    exact ⟨n, by rw [List.getElem?_toArray, List.getElem?_take_of_lt hi]; exact hn⟩) w

theorem range_of_block {w : World} {b : Nat} {cs : Array Value} {t : TypeId} {fr : Nat × Nat} (h : w.heap[b]? = some (.cells cs t fr)) (l : List Value) (o : Nat) (hl : ∀ j v, l[j]? = some v → cs[o + j]? = some v) : w.rangeAt b o l := fun j v hv => by
  rw [cell_of_row w b (o + j) cs t fr h]
  exact hl j v hv

/-- the entries are the same -/
theorem same_any (C : List Value) (hC : Ec C) (w : World) :
    Calls Yba.prog 7 #[.agg C.toArray, .agg C.toArray] w fun e w' => e = .returned (.bool true) ∧ w' = (w.alloc (.cells C.toArray 31)).alloc (.cells C.toArray 37) := by
  have he := eql_hash C hC
  obtain ⟨h, h64⟩ := hC.u64
  have hl := hC.len
  have HT : Hid ((C.take 32).length = 32) := by show _ = _; simp [hl]
  have hcc : C.toArray[32]? = some (.int .u64 h) := by simpa using h64
  have R1 : Hid (((w.alloc (.cells C.toArray 31)).alloc (.cells C.toArray 37)).rangeAt w.heap.size 0 (C.take 32)) :=
    range_of_block (cs := C.toArray) (t := 31) (fr := (0, 0)) (by show ((w.heap.push _).push _)[w.heap.size]? = _; simp [Array.getElem?_push]) _ _ (fun j v hv => by
      have hj : j < 32 := by have := (List.getElem?_eq_some_iff.1 hv).1; simp at this; omega
      rw [List.getElem?_take_of_lt hj] at hv; simpa using hv)
  have R2 : Hid (((w.alloc (.cells C.toArray 31)).alloc (.cells C.toArray 37)).rangeAt (w.heap.size + 1) 0 (C.take 32)) :=
    range_of_block (cs := C.toArray) (t := 37) (fr := (0, 0)) (by show ((w.heap.push _).push _)[w.heap.size + 1]? = _; rw [Array.getElem?_push, if_pos (by simp)]) _ _ (fun j v hv => by
      have hj : j < 32 := by have := (List.getElem?_eq_some_iff.1 hv).1; simp at this; omega
      rw [List.getElem?_take_of_lt hj] at hv; simpa using hv)
  clear hC hl h64
  generalize C.take 32 = H at *
  go_enter Yba.func7, Yba.ntmps7
  go_wp2_with (first | (refine wpList_load_mid rfl 28 (.tmp 5) rfl w.heap.size 0 rfl H _ R1.out Yba.underlying28 rfl (by rw [HT.out]; exact Yba.size28) ?_) | (refine wpList_load_mid rfl 27 (.tmp 7) rfl (w.heap.size + 1) 0 rfl H _ R2.out Yba.underlying27 rfl (by rw [HT.out]; exact Yba.size27) ?_))
  go_ret
  exact ⟨rfl, rfl⟩
end Go.Proofs.Ybulkmpi
