/-
  'entry{hash: .., height: ..}': the two parts laid side by side.
-/
import Derived.Test.YbulkmpiNext
namespace Go.Proofs.Ybulkmpi
open Go.RowKit

/-- cells written one behind the other from offset o on -/
theorem fold_set : ∀ (xs : List Value) (k : Nat) (A : Array Value), k + xs.length ≤ A.size →
    (xs.zipIdx k).foldl (fun cs (p : Value × Nat) => cs.setIfInBounds (0 + p.2) p.1) A = (A.toList.take k ++ xs ++ A.toList.drop (k + xs.length)).toArray
  | [], k, A, h => by simp
  | x :: xs, k, A, h => by
    simp only [List.length_cons] at h
    rw [List.zipIdx_cons, List.foldl_cons, fold_set xs (k + 1) _ (by simp; omega)]
    have hk : k < A.toList.length := by simp; omega
    simp only [Nat.zero_add, Array.toList_setIfInBounds]
    rw [List.take_succ_eq_append_getElem (by simpa using hk)]
    simp [List.take_set_of_le, List.drop_set_of_lt, Nat.add_assoc, Nat.add_comm 1]

def bldS (p q : Nat × Value) : Sem Value := Instr.build 31 #[p, q]

theorem bldS_map (f : Nat × Operand → Nat × Value) (p q : Nat × Operand) : Instr.build 31 (#[p, q].map f) = bldS (f p) (f q) := by simp [bldS]
theorem bldS_lit (p q : Nat × Value) : Instr.build 31 #[p, q] = bldS p q := rfl

theorem built31 (L : List (Nat × Value)) : Yba.prog.built 31 L = Instr.fill (fun i => (#[(0, 32), (32, 1)] : Array (Nat × Nat))[i]?) Z.toArray L := by kernel_rfl

theorem bldS_run (C : List Value) (h : Int) (hC : Ec C) (h64 : C[32]? = some (.int .u64 h)) (w : World) :
    (bldS (0, .agg (C.take 32).toArray) (1, .int .u64 h)).run Yba.prog w = .ok (.agg C.toArray) w := by
  refine run_build w 31 _ C.toArray ?_
  rw [built31]
  have hl := hC.len
  have hz := Z_ec.len
  have hsz : (C.take 32).toArray.size = 32 := by simp [hl]
  have hf := fold_set (C.take 32) 0 Z.toArray (by simp [hl, hz])
  have hf' : (C.take 32).toArray.zipIdx.foldl (fun cs (p : Value × Nat) => cs.setIfInBounds (0 + p.2) p.1) Z.toArray = (C.take 32 ++ Z.drop 32).toArray := by
    rw [← Array.foldl_toList]
    simp only [Array.toList_zipIdx]
    rw [hf]
    simp [hl]
  simp only [Instr.fill, List.getElem?_toArray, List.getElem?_cons_zero, List.getElem?_cons_succ]
  have e1 : (Value.agg (C.take 32).toArray).cells = (C.take 32).toArray := rfl
  have e2 : (Value.int IntKind.u64 h).cells = #[.int .u64 h] := rfl
  rw [e1, e2, hf', hsz]
  have hzs : Z.toArray.size = 33 := by simp [hz]
  have hs2 : (C.take 32 ++ Z.drop 32).toArray.size = 33 := by simp [hl, hz]
  rw [hzs, hs2]
  have e3 : (#[Value.int .u64 h] : Array Value).zipIdx.foldl (fun cs (p : Value × Nat) => cs.setIfInBounds (32 + p.2) p.1) (C.take 32 ++ Z.drop 32).toArray = C.toArray := by
    have hc : C = C.take 32 ++ [.int .u64 h] := by
      have := List.take_succ_eq_append_getElem (l := C) (i := 32) (by omega)
      rw [List.take_of_length_le (by omega)] at this
      rw [List.getElem?_eq_getElem (by omega)] at h64
      rw [Option.some.inj h64] at this
      exact this
    have hd : (Z.drop 32).length = 1 := by simp [hz]
    obtain ⟨z, hz1⟩ := List.length_eq_one_iff.1 hd
    rw [hz1]
    have e : (C.take 32 ++ [z]).set 32 (.int .u64 h) = C.take 32 ++ [.int .u64 h] := by
      rw [List.set_append_right _ _ (by simp [hl])]
      simp [hl]
    show (C.take 32 ++ [z]).toArray.setIfInBounds 32 (.int .u64 h) = _
    rw [List.setIfInBounds_toArray, e, ← hc]
  rw [e3]
  simp
end Go.Proofs.Ybulkmpi
