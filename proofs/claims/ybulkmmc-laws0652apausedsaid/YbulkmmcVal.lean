/-
  The weight of a holder, its virtual runtime at a clock, as words of float64; and the least of the first k + 1 of them, by the key.
-/
import Derived.Test.YbulkmmcFlt
namespace Go.Proofs.Ybulkmmc.Flt
open Ieee

def two : Nat := 4611686018427387904
def half : Nat := 4602678819172646912
def wq (u : Int) : Nat := (floatBits .quo .f64 (floatOfInt .f64 (u % 8)) two).getD 0
def wt (u : Int) : Nat := (floatBits .add .f64 (wq u) half).getD 0

theorem wt_all : ∀ r : Fin 8, (floatBits .quo .f64 (floatOfInt .f64 (r.val : Int)) two).isSome = true ∧
    (floatBits .add .f64 ((floatBits .quo .f64 (floatOfInt .f64 (r.val : Int)) two).getD 0) half).isSome = true ∧
    (match F.read ((floatBits .add .f64 ((floatBits .quo .f64 (floatOfInt .f64 (r.val : Int)) two).getD 0) half).getD 0) with | .number _ m _ => m != 0 | _ => false) = true := by
  decide +kernel

theorem wt_facts (u : Int) : floatBits .quo .f64 (floatOfInt .f64 (u % 8)) two = some (wq u) ∧ floatBits .add .f64 (wq u) half = some (wt u) ∧ ∃ s m e, F.read (wt u) = .number s m e ∧ m ≠ 0 := by
  obtain ⟨r, hr⟩ : ∃ r : Fin 8, u % 8 = (r.val : Int) := ⟨⟨(u % 8).toNat, by omega⟩, by simp; omega⟩
  have h := wt_all r
  unfold wt wq
  rw [hr]
  obtain ⟨h1, h2, h3⟩ := h
  obtain ⟨a, ha⟩ := Option.isSome_iff_exists.1 h1
  rw [ha] at h2 h3 ⊢
  simp only [Option.getD_some] at h2 h3 ⊢
  obtain ⟨b, hb⟩ := Option.isSome_iff_exists.1 h2
  rw [hb] at h3 ⊢
  simp only [Option.getD_some] at h3 ⊢
  refine ⟨trivial, trivial, ?_⟩
  split at h3
  · rename_i s m e he
    exact ⟨s, m, e, he, by simpa using h3⟩
  · cases h3

/-- float64(d) / weight -/
def qd (d u : Int) : Nat := (floatBits .quo .f64 (floatOfInt .f64 d) (wt u)).getD 0
/-- float64(r) + float64(d) / weight -/
def vb (r d u : Int) : Nat := (floatBits .add .f64 (floatOfInt .f64 r) (qd d u)).getD 0

theorem qd_eq (d u : Int) : floatBits .quo .f64 (floatOfInt .f64 d) (wt u) = some (qd d u) ∧ NN F (qd d u) := by
  obtain ⟨r, h1, h2⟩ := div_some F _ (wt u) (nn_int d) (wt_facts u).2.2
  have : floatBits .quo .f64 (floatOfInt .f64 d) (wt u) = some r := h1
  unfold qd
  rw [this]
  exact ⟨rfl, h2⟩

theorem vb_eq (r d u : Int) (h1 : -2147483648 ≤ r) (h2 : r ≤ 2147483647) : floatBits .add .f64 (floatOfInt .f64 r) (qd d u) = some (vb r d u) ∧ NN F (vb r d u) := by
  obtain ⟨z, e1, e2⟩ := add_some F _ (qd d u) (fin_int r (by omega) (by omega)) (qd_eq d u).2
  have : floatBits .add .f64 (floatOfInt .f64 r) (qd d u) = some z := e1
  unfold vb
  rw [this]
  exact ⟨rfl, e2⟩

/-- the least key of v 0 .. v k -/
def lo (v : Nat → Nat) : Nat → Int
  | 0 => key F (v 0)
  | k + 1 => min (lo v k) (key F (v (k + 1)))
end Go.Proofs.Ybulkmmc.Flt
