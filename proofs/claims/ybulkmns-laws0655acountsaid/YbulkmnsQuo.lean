/-
  math/bits.Mul64 at small numbers; Genesis.Quorum.
-/
import Derived.Test.YbulkmnsKey
import Derived.Laws.Bits64b
namespace Go.Proofs.Ybulkmns
open Go.RowKit

theorem res11 (w : World) (tmps : Array Value) (x y : Value) (h1 : tmps.getD 4 undef = x) (h2 : tmps.getD 5 undef = y) :
    (results Yba.f11 tmps).run Yba.prog w = .ok (.tuple #[x, y]) w := by
  simp only [Array.getD_eq_getD_getElem?] at h1 h2
  simp [results, Yba.results11, h1, h2]

theorem wrap_small (n : Nat) (h : n < 2 ^ 64) : IntKind.u64.wrap (n : Int) = n := by
  have := wf_u64 n h
  simp [IntKind.wrap, IntKind.bits, IntKind.signed]
  omega
theorem and_low (n : Nat) (h : n < 2 ^ 32) : bits .and .u64 (n : Int) 4294967295 = n := by
  have e : (4294967295 : Int) = ((4294967295 : Nat) : Int) := rfl
  rw [e, bits_and_u64_nat n 4294967295 (by omega) (by omega)]
  have : n &&& 4294967295 = n % 2 ^ 32 := Nat.and_two_pow_sub_one_eq_mod n 32
  rw [this, Nat.mod_eq_of_lt h]
theorem mul64_small (x y : Nat) (hx : x < 2 ^ 16) (hy : y < 2 ^ 16) (w : World) :
    Calls Yba.prog 11 #[.int .u64 x, .int .u64 y] w fun e w' => e = .returned (.tuple #[.int .u64 0, .int .u64 ((x * y : Nat) : Int)]) ∧ w = w' := by
  have hxy : x * y < 2 ^ 32 := by
    have : x * y ≤ 2 ^ 16 * y := Nat.mul_le_mul_right _ (by omega)
    omega
  have b1 := and_low x (by omega)
  have b2 := and_low y (by omega)
  have d1 : (x : Int) / 4294967296 = 0 := by omega
  have d2 : (y : Int) / 4294967296 = 0 := by omega
  go_enter Yba.func11, Yba.ntmps11
  go_wp2_with fail
  refine bodyPost_ret (res11 _ _ _ _ rfl rfl) rfl ⟨?_, rfl⟩
  have w1 : IntKind.u64.wrap ((x : Int) * y) = ((x * y : Nat) : Int) := by
    rw [← Int.natCast_mul]; exact wrap_small _ (by omega)
  have w0 : IntKind.u64.wrap 0 = 0 := rfl
  have d3 : (x : Int) * y / 4294967296 = 0 := by rw [← Int.natCast_mul]; omega
  have b0 : bits .and .u64 0 4294967295 = 0 := by decide
  simp [w1, w0, d3, b0]
theorem quorum_at (G : Nat) (s T : Nat) (w : World) (hs : s < 2 ^ 16) (hT : T < 2 ^ 16) (hc : w.cell? ⟨G, 34, none⟩ = some (.int .u64 T)) :
    Calls Yba.prog 7 #[.pointer (some ⟨G, 0, none⟩), .int .u64 s] w fun e w' => e = .returned (.bool (decide (2 * T < 3 * s))) ∧ w = w' := by
  go_enter Yba.func7, Yba.ntmps7
  go_wp2_with fail
  refine (mul64_small 3 s (by omega) hs _).mono ?_
  rintro e w' ⟨rfl, rfl⟩
  go_wp2_with fail
  refine (mul64_small 2 T (by omega) hT _).mono ?_
  rintro e w' ⟨rfl, rfl⟩
  go_wp2_with fail
  go_ret
  have : (2 * (T : Int) < 3 * (s : Int)) ↔ 2 * T < 3 * s := by omega
  exact ⟨congrArg (fun b => Ending.returned (.bool b)) (decide_eq_decide.2 this), rfl⟩
end Go.Proofs.Ybulkmns
