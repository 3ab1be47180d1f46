/-
  The two laws' walks.
-/
import Derived.Test.YbulkmogMod
namespace Go.Proofs.Ybulkmog
open Go.RowKit

/-- BUILD, in both cases -/
theorem build_any (B pg : Nat) (isNil : Bool) (a : Option Addr) (n c : Nat) (any : Bool) (z : Nat → Int) (w : World) (hn : n ≤ 1024) (hp : PoolAt w B pg) (hi : IsIdx w a n z) :
    Calls Yba.prog 6 #[.slice (some ⟨pg, 0, none⟩) 4 4, .bool isNil, .slice a n c, .bool any] w fun e w' => ∃ x v, e = .returned (.tuple #[x, v]) ∧ IsAcc w' x (Plain.shift B (Plain.built isNil (ks z n) any)) ∧ RowI w' v (Plain.keys isNil (ks z n)) ∧ Below w.heap.size w w' := by
  cases isNil
  · refine (build_some B pg a n c any z w hn hp hi).mono ?_
    rintro e w' ⟨b, v, rfl, ⟨va, hacc⟩, hr, hb⟩
    exact ⟨_, v, rfl, .inr ⟨b, va, _, any, rfl, rfl, hacc⟩, hr, hb⟩
  · refine (build_nil _ a n c any w).mono ?_
    rintro e w' ⟨rfl, rfl⟩
    exact ⟨_, _, rfl, .inl ⟨rfl, rfl⟩, rowI_nil _, Below.refl _ _⟩

theorem IsAcc.below {w w' : World} {v : Value} {x : Plain.Acc} {B : Nat} (h : IsAcc w v x) (hb : Below B w w') (hB : w.heap.size ≤ B) : IsAcc w' v x := by
  rcases h with h | ⟨b, v, E, any, h1, h2, h3⟩
  · exact .inl h
  · exact .inr ⟨b, v, E, any, h1, h2, h3.below hb hB⟩

theorem refl_big (a0 : Bool) (a1 : Option Addr) (n c : Nat) (a2 : Bool) (w : World) (h : 1024 < n) :
    Calls Yba.prog 4 #[.bool a0, .slice a1 n c, .bool a2] w fun e w' => e = .returned (.bool true) ∧ Below w.heap.size w w' := by
  have t1 : decide ((1024 : Int) < (n : Int)) = true := by simp; omega
  go_enter Yba.func4, Yba.ntmps4
  go_wp2_with fail
  go_ret
  exact ⟨rfl, Below.refl _ _⟩

theorem refl_main (a0 : Bool) (a1 : Option Addr) (n c : Nat) (a2 : Bool) (z : Nat → Int) (w : World) (h : n ≤ 1024) (hi : IsIdx w a1 n z) :
    Calls Yba.prog 4 #[.bool a0, .slice a1 n c, .bool a2] w fun e w' => e = .returned (.bool true) ∧ Below w.heap.size w w' := by
  have t1 : decide ((1024 : Int) < (n : Int)) = false := by simp; omega
  have HX : Hid (IsIdx w a1 n z) := hi
  clear hi
  go_enter Yba.func4, Yba.ntmps4
  go_wp2_with fail
  refine (pool_any w).mono ?_
  rintro e w' ⟨rfl, rfl⟩
  have HB : Hid (Below w.heap.size w (poolW w)) := poolW_below w
  have HC : Hid (Calls Yba.prog 6 #[.slice (some ⟨w.heap.size + 4, 0, none⟩) 4 4, .bool a0, .slice a1 n c, .bool a2] (poolW w) fun e w' => ∃ x v, e = .returned (.tuple #[x, v]) ∧ IsAcc w' x (Plain.shift w.heap.size (Plain.built a0 (ks z n) a2)) ∧ RowI w' v (Plain.keys a0 (ks z n)) ∧ Below (poolW w).heap.size (poolW w) w') :=
    build_any w.heap.size (w.heap.size + 4) a0 a1 n c a2 z (poolW w) h (poolAt w) (HX.out.below (poolW_below w) (Nat.le_refl _))
  have hsz : w.heap.size ≤ (poolW w).heap.size := (poolW_below w).size
  have HZ : Hid (w.heap.size ≤ (poolW w).heap.size) := hsz
  clear hsz
  generalize poolW w = wp at *
  go_wp2_with fail
  refine HC.out.mono ?_
  rintro e w1 ⟨x, v, rfl, hacc, _, hb1⟩
  have HB1 : Hid (Below w.heap.size w w1) := HB.out.trans (hb1.mono HZ.out)
  have HP : Hid (Calls Yba.prog 7 #[x, x] w1 fun e w' => e = .returned (.bool (Plain.perm (Plain.shift w.heap.size (Plain.built a0 (ks z n) a2)) (Plain.shift w.heap.size (Plain.built a0 (ks z n) a2)))) ∧ Below w1.heap.size w1 w') := permits_any x x _ _ w1 hacc hacc
  rw [Plain.perm_refl] at HP
  clear hacc hb1 HC
  go_wp2_with fail
  refine HP.out.mono ?_
  rintro e w2 ⟨rfl, hb2⟩
  have HB2 : Hid (Below w.heap.size w w2) := HB1.out.trans (hb2.mono HB1.out.size)
  clear hb2
  go_wp2_with fail
  go_ret
  exact ⟨rfl, HB2.out⟩
theorem model_big1 (a0 : Bool) (a1 : Option Addr) (n1 c1 : Nat) (a2 a3 : Bool) (a4 : Option Addr) (n2 c2 : Nat) (a5 : Bool) (w : World) (h : 1024 < n1) :
    Calls Yba.prog 3 #[.bool a0, .slice a1 n1 c1, .bool a2, .bool a3, .slice a4 n2 c2, .bool a5] w fun e w' => e = .returned (.bool true) ∧ Below w.heap.size w w' := by
  have t1 : decide ((1024 : Int) < (n1 : Int)) = true := by simp; omega
  go_enter Yba.func3, Yba.ntmps3
  go_wp2_with fail
  go_ret
  exact ⟨rfl, Below.refl _ _⟩
theorem model_big2 (a0 : Bool) (a1 : Option Addr) (n1 c1 : Nat) (a2 a3 : Bool) (a4 : Option Addr) (n2 c2 : Nat) (a5 : Bool) (w : World) (h1 : n1 ≤ 1024) (h : 1024 < n2) :
    Calls Yba.prog 3 #[.bool a0, .slice a1 n1 c1, .bool a2, .bool a3, .slice a4 n2 c2, .bool a5] w fun e w' => e = .returned (.bool true) ∧ Below w.heap.size w w' := by
  have t1 : decide ((1024 : Int) < (n1 : Int)) = false := by simp; omega
  have t2 : decide ((1024 : Int) < (n2 : Int)) = true := by simp; omega
  go_enter Yba.func3, Yba.ntmps3
  go_wp2_with fail
  go_ret
  exact ⟨rfl, Below.refl _ _⟩

theorem model_main (a0 : Bool) (a1 : Option Addr) (n1 c1 : Nat) (a2 a3 : Bool) (a4 : Option Addr) (n2 c2 : Nat) (a5 : Bool) (z1 z2 : Nat → Int) (w : World) (h1 : n1 ≤ 1024) (h2 : n2 ≤ 1024) (hi1 : IsIdx w a1 n1 z1) (hi2 : IsIdx w a4 n2 z2) :
    Calls Yba.prog 3 #[.bool a0, .slice a1 n1 c1, .bool a2, .bool a3, .slice a4 n2 c2, .bool a5] w fun e w' => e = .returned (.bool true) ∧ Below w.heap.size w w' := by
  have t1 : decide ((1024 : Int) < (n1 : Int)) = false := by simp; omega
  have t2 : decide ((1024 : Int) < (n2 : Int)) = false := by simp; omega
  have HX1 : Hid (IsIdx w a1 n1 z1) := hi1
  have HX2 : Hid (IsIdx w a4 n2 z2) := hi2
  clear hi1 hi2
  go_enter Yba.func3, Yba.ntmps3
  go_wp2_with fail
  refine (pool_any w).mono ?_
  rintro e w' ⟨rfl, rfl⟩
  obtain ⟨wp, hwp⟩ : ∃ wp, wp = poolW w := ⟨_, rfl⟩
  have HB : Hid (Below w.heap.size w wp) := by rw [hwp]; exact poolW_below w
  have HPA : Hid (PoolAt wp w.heap.size (w.heap.size + 4)) := by rw [hwp]; exact poolAt w
  rw [← hwp]
  clear hwp
  have HC : Hid (Calls Yba.prog 6 #[.slice (some ⟨w.heap.size + 4, 0, none⟩) 4 4, .bool a0, .slice a1 n1 c1, .bool a2] wp fun e w' => ∃ x v, e = .returned (.tuple #[x, v]) ∧ IsAcc w' x (Plain.shift w.heap.size (Plain.built a0 (ks z1 n1) a2)) ∧ RowI w' v (Plain.keys a0 (ks z1 n1)) ∧ Below wp.heap.size wp w') :=
    build_any w.heap.size (w.heap.size + 4) a0 a1 n1 c1 a2 z1 wp h1 HPA.out (HX1.out.below HB.out (Nat.le_refl _))
  go_wp2_with fail
  refine HC.out.mono ?_
  rintro e w1 ⟨x1, v1, rfl, hacc1, hr1, hb1⟩
  have HB1 : Hid (Below w.heap.size w w1) := HB.out.trans (hb1.mono HB.out.size)
  have HA1 : Hid (IsAcc w1 x1 (Plain.shift w.heap.size (Plain.built a0 (ks z1 n1) a2))) := hacc1
  have HR1 : Hid (RowI w1 v1 (Plain.keys a0 (ks z1 n1))) := hr1
  have HD : Hid (Calls Yba.prog 6 #[.slice (some ⟨w.heap.size + 4, 0, none⟩) 4 4, .bool a3, .slice a4 n2 c2, .bool a5] w1 fun e w' => ∃ x v, e = .returned (.tuple #[x, v]) ∧ IsAcc w' x (Plain.shift w.heap.size (Plain.built a3 (ks z2 n2) a5)) ∧ RowI w' v (Plain.keys a3 (ks z2 n2)) ∧ Below w1.heap.size w1 w') :=
    build_any w.heap.size (w.heap.size + 4) a3 a4 n2 c2 a5 z2 w1 h2 (HPA.out.below hb1 (Nat.le_refl _)) (HX2.out.below HB1.out (Nat.le_refl _))
  clear hacc1 hr1 hb1 HC
  go_wp2_with fail
  refine HD.out.mono ?_
  rintro e w2 ⟨x2, v2, rfl, hacc2, hr2, hb2⟩
  have HB2 : Hid (Below w.heap.size w w2) := HB1.out.trans (hb2.mono HB1.out.size)
  have HP : Hid (Calls Yba.prog 7 #[x1, x2] w2 fun e w' => e = .returned (.bool (Plain.perm (Plain.shift w.heap.size (Plain.built a0 (ks z1 n1) a2)) (Plain.shift w.heap.size (Plain.built a3 (ks z2 n2) a5)))) ∧ Below w2.heap.size w2 w') := permits_any x1 x2 _ _ w2 (HA1.out.below hb2 (Nat.le_refl _)) hacc2
  have HR1' : Hid (RowI w2 v1 (Plain.keys a0 (ks z1 n1))) := HR1.out.below hb2 (Nat.le_refl _)
  have HR2 : Hid (RowI w2 v2 (Plain.keys a3 (ks z2 n2))) := hr2
  rw [Plain.perm_shift, ← Plain.model_eq] at HP
  clear hacc2 hr2 hb2 HD HA1 HR1
  go_wp2_with fail
  refine HP.out.mono ?_
  rintro e w3 ⟨rfl, hb3⟩
  have HB3 : Hid (Below w.heap.size w w3) := HB2.out.trans (hb3.mono HB2.out.size)
  have HM : Hid (Calls Yba.prog 8 #[.bool a0, v1, .bool a2, .bool a3, v2, .bool a5] w3 fun e w' => e = .returned (.bool (Plain.model a0 (Plain.keys a0 (ks z1 n1)) a2 a3 (Plain.keys a3 (ks z2 n2)) a5)) ∧ w3 = w') :=
    model_all a0 a2 a3 a5 v1 v2 _ _ w3 (HR1'.out.below hb3 (Nat.le_refl _)) (HR2.out.below hb3 (Nat.le_refl _))
  clear hb3 HP
  generalize Plain.model a0 (Plain.keys a0 (ks z1 n1)) a2 a3 (Plain.keys a3 (ks z2 n2)) a5 = r at *
  go_wp2_with fail
  refine HM.out.mono ?_
  rintro e w4 ⟨rfl, rfl⟩
  have hrr : (r == r) = true := by simp
  go_wp2_with fail
  go_ret
  exact ⟨ret_eq (by simp), HB3.out⟩
end Go.Proofs.Ybulkmog
