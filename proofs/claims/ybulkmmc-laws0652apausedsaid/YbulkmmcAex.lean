/-
  LawS0652AExact and LawS0652APaused: the walks.
-/
import Derived.Test.YbulkmmcChg
namespace Go.Proofs.Ybulkmmc
open Go.RowKit

theorem ret_bool {b : Bool} (h : b = true) : Ending.returned (.bool b) = .returned (.bool true) := by rw [h]

/-- the law's own bound: 2^40 -/
abbrev InB (x : Int) : Prop := -1099511627776 ≤ x ∧ x ≤ 1099511627776

theorem ain_yes (x : Int) (w : World) (h1 : -1099511627776 ≤ x) (h2 : x ≤ 1099511627776) :
    Calls Yba.prog 6 #[.int .i64 x] w fun e w' => e = .returned (.bool true) ∧ w = w' := by
  have t1 : decide (-1099511627776 ≤ x) = true := by simpa using h1
  have t2 : decide (x ≤ 1099511627776) = true := by simpa using h2
  go_enter Yba.func6, Yba.ntmps6
  go_wp2
  go_ret
  exact ⟨rfl, rfl⟩
theorem ain_no (x : Int) (w : World) (h : x < -1099511627776 ∨ 1099511627776 < x) :
    Calls Yba.prog 6 #[.int .i64 x] w fun e w' => e = .returned (.bool false) ∧ w = w' := by
  rcases h with h | h
  · have t1 : decide (-1099511627776 ≤ x) = false := by simp; omega
    go_enter Yba.func6, Yba.ntmps6
    go_wp2
    go_ret
    exact ⟨rfl, rfl⟩
  · have t1 : decide (-1099511627776 ≤ x) = true := by simp; omega
    have t2 : decide (x ≤ 1099511627776) = false := by simp; omega
    go_enter Yba.func6, Yba.ntmps6
    go_wp2
    go_ret
    exact ⟨rfl, rfl⟩

theorem out_of {x : Int} (h : ¬ InB x) : x < -1099511627776 ∨ 1099511627776 < x := by unfold InB at h; omega

theorem aex_out0 (a0 a1 a2 a3 a4 : Int) (w : World) (h0 : ¬ InB a0) :
    Calls Yba.prog 3 #[.int .i64 a0, .int .i64 a1, .int .i64 a2, .int .i64 a3, .int .i64 a4] w fun e w' => e = .returned (.bool true) ∧ w' = w := by
  have h := out_of h0
  clear h0
  go_enter Yba.func3, Yba.ntmps3
  go_wp2_with fail
  refine (ain_no a0 _ h).mono ?_
  rintro e w' ⟨rfl, rfl⟩
  go_wp2_with fail
  go_ret
  exact ⟨rfl, rfl⟩

theorem aex_out1 (a0 a1 a2 a3 a4 : Int) (w : World) (h0 : InB a0) (h1 : ¬ InB a1) :
    Calls Yba.prog 3 #[.int .i64 a0, .int .i64 a1, .int .i64 a2, .int .i64 a3, .int .i64 a4] w fun e w' => e = .returned (.bool true) ∧ w' = w := by
  have h := out_of h1
  clear h1
  obtain ⟨l0, r0⟩ := h0
  go_enter Yba.func3, Yba.ntmps3
  go_wp2_with fail
  refine (ain_yes a0 _ l0 r0).mono ?_
  rintro e w' ⟨rfl, rfl⟩
  go_wp2_with fail
  refine (ain_no a1 _ h).mono ?_
  rintro e w' ⟨rfl, rfl⟩
  go_wp2_with fail
  go_ret
  exact ⟨rfl, rfl⟩

theorem aex_out2 (a0 a1 a2 a3 a4 : Int) (w : World) (h0 : InB a0) (h1 : InB a1) (h2 : ¬ InB a2) :
    Calls Yba.prog 3 #[.int .i64 a0, .int .i64 a1, .int .i64 a2, .int .i64 a3, .int .i64 a4] w fun e w' => e = .returned (.bool true) ∧ w' = w := by
  have h := out_of h2
  clear h2
  obtain ⟨l0, r0⟩ := h0
  obtain ⟨l1, r1⟩ := h1
  go_enter Yba.func3, Yba.ntmps3
  go_wp2_with fail
  refine (ain_yes a0 _ l0 r0).mono ?_
  rintro e w' ⟨rfl, rfl⟩
  go_wp2_with fail
  refine (ain_yes a1 _ l1 r1).mono ?_
  rintro e w' ⟨rfl, rfl⟩
  go_wp2_with fail
  refine (ain_no a2 _ h).mono ?_
  rintro e w' ⟨rfl, rfl⟩
  go_wp2_with fail
  go_ret
  exact ⟨rfl, rfl⟩

theorem aex_out3 (a0 a1 a2 a3 a4 : Int) (w : World) (h0 : InB a0) (h1 : InB a1) (h2 : InB a2) (h3 : ¬ InB a3) :
    Calls Yba.prog 3 #[.int .i64 a0, .int .i64 a1, .int .i64 a2, .int .i64 a3, .int .i64 a4] w fun e w' => e = .returned (.bool true) ∧ w' = w := by
  have h := out_of h3
  clear h3
  obtain ⟨l0, r0⟩ := h0
  obtain ⟨l1, r1⟩ := h1
  obtain ⟨l2, r2⟩ := h2
  go_enter Yba.func3, Yba.ntmps3
  go_wp2_with fail
  refine (ain_yes a0 _ l0 r0).mono ?_
  rintro e w' ⟨rfl, rfl⟩
  go_wp2_with fail
  refine (ain_yes a1 _ l1 r1).mono ?_
  rintro e w' ⟨rfl, rfl⟩
  go_wp2_with fail
  refine (ain_yes a2 _ l2 r2).mono ?_
  rintro e w' ⟨rfl, rfl⟩
  go_wp2_with fail
  refine (ain_no a3 _ h).mono ?_
  rintro e w' ⟨rfl, rfl⟩
  go_wp2_with fail
  go_ret
  exact ⟨rfl, rfl⟩

theorem aex_out4 (a0 a1 a2 a3 a4 : Int) (w : World) (h0 : InB a0) (h1 : InB a1) (h2 : InB a2) (h3 : InB a3) (h4 : ¬ InB a4) :
    Calls Yba.prog 3 #[.int .i64 a0, .int .i64 a1, .int .i64 a2, .int .i64 a3, .int .i64 a4] w fun e w' => e = .returned (.bool true) ∧ w' = w := by
  have h := out_of h4
  clear h4
  obtain ⟨l0, r0⟩ := h0
  obtain ⟨l1, r1⟩ := h1
  obtain ⟨l2, r2⟩ := h2
  obtain ⟨l3, r3⟩ := h3
  go_enter Yba.func3, Yba.ntmps3
  go_wp2_with fail
  refine (ain_yes a0 _ l0 r0).mono ?_
  rintro e w' ⟨rfl, rfl⟩
  go_wp2_with fail
  refine (ain_yes a1 _ l1 r1).mono ?_
  rintro e w' ⟨rfl, rfl⟩
  go_wp2_with fail
  refine (ain_yes a2 _ l2 r2).mono ?_
  rintro e w' ⟨rfl, rfl⟩
  go_wp2_with fail
  refine (ain_yes a3 _ l3 r3).mono ?_
  rintro e w' ⟨rfl, rfl⟩
  go_wp2_with fail
  refine (ain_no a4 _ h).mono ?_
  rintro e w' ⟨rfl, rfl⟩
  go_wp2_with fail
  go_ret
  exact ⟨rfl, rfl⟩

set_option maxHeartbeats 1000000 in
theorem aex_no (a0 a1 a2 a3 a4 : Int) (w : World) (h0 : InB a0) (h1 : InB a1) (h2 : InB a2) (h3 : InB a3) (h4 : InB a4) (hx : a1 ≤ 0) :
    Calls Yba.prog 3 #[.int .i64 a0, .int .i64 a1, .int .i64 a2, .int .i64 a3, .int .i64 a4] w fun e w' => e = .returned (.bool true) ∧ ∃ l p f, w' = w.alloc (bud l p f) := by
  obtain ⟨l0, r0⟩ := h0
  obtain ⟨l1, r1⟩ := h1
  obtain ⟨l2, r2⟩ := h2
  obtain ⟨l3, r3⟩ := h3
  obtain ⟨l4, r4⟩ := h4
  go_enter Yba.func3, Yba.ntmps3
  go_wp2_with fail
  refine (ain_yes a0 _ l0 r0).mono ?_
  rintro e w' ⟨rfl, rfl⟩
  go_wp2_with fail
  refine (ain_yes a1 _ l1 r1).mono ?_
  rintro e w' ⟨rfl, rfl⟩
  go_wp2_with fail
  refine (ain_yes a2 _ l2 r2).mono ?_
  rintro e w' ⟨rfl, rfl⟩
  go_wp2_with fail
  refine (ain_yes a3 _ l3 r3).mono ?_
  rintro e w' ⟨rfl, rfl⟩
  go_wp2_with fail
  refine (ain_yes a4 _ l4 r4).mono ?_
  rintro e w' ⟨rfl, rfl⟩
  go_wp2_with fail
  refine (store_any w.heap.size 1 a4 (.int .i64 0) _ (by simp) (by simp)).mono ?_
  rintro e w' ⟨rfl, rfl⟩
  go_wp2_with fail
  refine (charge_no a3 a4 a2 a0 (a0 + 250000 + a1) w (by omega) (by omega)).mono ?_
  rintro e w' ⟨rfl, rfl⟩
  go_wp2_with (go_at_call 9; refine (load_any w.heap.size 1 a4 _ (by simp)).mono ?_; rintro e w' ⟨rfl, rfl⟩)
  all_goals (go_ret; exact ⟨rfl, _, _, _, rfl⟩)

set_option maxHeartbeats 1000000 in
theorem aex_less1 (a0 a1 a2 a3 a4 : Int) (w : World) (h0 : InB a0) (h1 : InB a1) (h2 : InB a2) (h3 : InB a3) (h4 : InB a4) (hx : 0 < a1) (hb : a2 < a0 + 250000 + a1) (hl : a1 ≤ a3) :
    Calls Yba.prog 3 #[.int .i64 a0, .int .i64 a1, .int .i64 a2, .int .i64 a3, .int .i64 a4] w fun e w' => e = .returned (.bool true) ∧ ∃ l p f, w' = w.alloc (bud l p f) := by
  obtain ⟨l0, r0⟩ := h0
  obtain ⟨l1, r1⟩ := h1
  obtain ⟨l2, r2⟩ := h2
  obtain ⟨l3, r3⟩ := h3
  obtain ⟨l4, r4⟩ := h4
  go_enter Yba.func3, Yba.ntmps3
  go_wp2_with fail
  refine (ain_yes a0 _ l0 r0).mono ?_
  rintro e w' ⟨rfl, rfl⟩
  go_wp2_with fail
  refine (ain_yes a1 _ l1 r1).mono ?_
  rintro e w' ⟨rfl, rfl⟩
  go_wp2_with fail
  refine (ain_yes a2 _ l2 r2).mono ?_
  rintro e w' ⟨rfl, rfl⟩
  go_wp2_with fail
  refine (ain_yes a3 _ l3 r3).mono ?_
  rintro e w' ⟨rfl, rfl⟩
  go_wp2_with fail
  refine (ain_yes a4 _ l4 r4).mono ?_
  rintro e w' ⟨rfl, rfl⟩
  go_wp2_with fail
  refine (store_any w.heap.size 1 a4 (.int .i64 0) _ (by simp) (by simp)).mono ?_
  rintro e w' ⟨rfl, rfl⟩
  go_wp2_with fail
  refine (charge_more a3 a4 a2 a0 (a0 + 250000 + a1) (a0 + 250000 + a1) w (by omega) (by omega) (by omega) (by omega) (by omega) (by omega) (by omega) (by omega)).mono ?_
  rintro e w' ⟨rfl, rfl⟩
  go_wp2_with (go_at_call 9; refine (load_any w.heap.size 1 a4 _ (by simp)).mono ?_; rintro e w' ⟨rfl, rfl⟩)
  all_goals (go_ret; exact ⟨rfl, _, _, _, rfl⟩)

set_option maxHeartbeats 1000000 in
theorem aex_past1 (a0 a1 a2 a3 a4 : Int) (w : World) (h0 : InB a0) (h1 : InB a1) (h2 : InB a2) (h3 : InB a3) (h4 : InB a4) (hx : 0 < a1) (hb : a2 < a0 + 250000 + a1) (hl : a3 < a1) :
    Calls Yba.prog 3 #[.int .i64 a0, .int .i64 a1, .int .i64 a2, .int .i64 a3, .int .i64 a4] w fun e w' => e = .returned (.bool true) ∧ ∃ l p f, w' = w.alloc (bud l p f) := by
  obtain ⟨l0, r0⟩ := h0
  obtain ⟨l1, r1⟩ := h1
  obtain ⟨l2, r2⟩ := h2
  obtain ⟨l3, r3⟩ := h3
  obtain ⟨l4, r4⟩ := h4
  go_enter Yba.func3, Yba.ntmps3
  go_wp2_with fail
  refine (ain_yes a0 _ l0 r0).mono ?_
  rintro e w' ⟨rfl, rfl⟩
  go_wp2_with fail
  refine (ain_yes a1 _ l1 r1).mono ?_
  rintro e w' ⟨rfl, rfl⟩
  go_wp2_with fail
  refine (ain_yes a2 _ l2 r2).mono ?_
  rintro e w' ⟨rfl, rfl⟩
  go_wp2_with fail
  refine (ain_yes a3 _ l3 r3).mono ?_
  rintro e w' ⟨rfl, rfl⟩
  go_wp2_with fail
  refine (ain_yes a4 _ l4 r4).mono ?_
  rintro e w' ⟨rfl, rfl⟩
  go_wp2_with fail
  refine (store_any w.heap.size 1 a4 (.int .i64 0) _ (by simp) (by simp)).mono ?_
  rintro e w' ⟨rfl, rfl⟩
  go_wp2_with fail
  refine (charge_past a3 a4 a2 a0 (a0 + 250000 + a1) (a0 + 250000 + a1) w (by omega) (by omega) (by omega) (by omega) (by omega) (by omega) (by omega) (by omega)).mono ?_
  rintro e w' ⟨rfl, rfl⟩
  go_wp2_with (go_at_call 9; refine (load_any w.heap.size 1 ((a0 + 250000 + a1) + ((a0 + 250000 + a1) + ((a0 + 250000 + a1) - a0 - 250000) * 4 - (a0 + 250000 + a1)) / 4 * 256) _ (by simp)).mono ?_; rintro e w' ⟨rfl, rfl⟩)
  all_goals (go_ret; exact ⟨ret_bool (beq_iff_eq.2 (by omega)), _, _, _, rfl⟩)

set_option maxHeartbeats 1000000 in
theorem aex_less2 (a0 a1 a2 a3 a4 : Int) (w : World) (h0 : InB a0) (h1 : InB a1) (h2 : InB a2) (h3 : InB a3) (h4 : InB a4) (hx : 0 < a1) (hb : a0 + 250000 + a1 ≤ a2) (hl : (a2 - (a0 + 250000 + a1)) / 4 + a1 ≤ a3) :
    Calls Yba.prog 3 #[.int .i64 a0, .int .i64 a1, .int .i64 a2, .int .i64 a3, .int .i64 a4] w fun e w' => e = .returned (.bool true) ∧ ∃ l p f, w' = w.alloc (bud l p f) := by
  obtain ⟨l0, r0⟩ := h0
  obtain ⟨l1, r1⟩ := h1
  obtain ⟨l2, r2⟩ := h2
  obtain ⟨l3, r3⟩ := h3
  obtain ⟨l4, r4⟩ := h4
  go_enter Yba.func3, Yba.ntmps3
  go_wp2_with fail
  refine (ain_yes a0 _ l0 r0).mono ?_
  rintro e w' ⟨rfl, rfl⟩
  go_wp2_with fail
  refine (ain_yes a1 _ l1 r1).mono ?_
  rintro e w' ⟨rfl, rfl⟩
  go_wp2_with fail
  refine (ain_yes a2 _ l2 r2).mono ?_
  rintro e w' ⟨rfl, rfl⟩
  go_wp2_with fail
  refine (ain_yes a3 _ l3 r3).mono ?_
  rintro e w' ⟨rfl, rfl⟩
  go_wp2_with fail
  refine (ain_yes a4 _ l4 r4).mono ?_
  rintro e w' ⟨rfl, rfl⟩
  go_wp2_with fail
  refine (store_any w.heap.size 1 a4 (.int .i64 0) _ (by simp) (by simp)).mono ?_
  rintro e w' ⟨rfl, rfl⟩
  go_wp2_with fail
  refine (charge_more a3 a4 a2 a0 (a0 + 250000 + a1) a2 w (by omega) (by omega) (by omega) (by omega) (by omega) (by omega) (by omega) (by omega)).mono ?_
  rintro e w' ⟨rfl, rfl⟩
  go_wp2_with (go_at_call 9; refine (load_any w.heap.size 1 a4 _ (by simp)).mono ?_; rintro e w' ⟨rfl, rfl⟩)
  all_goals (go_ret; exact ⟨rfl, _, _, _, rfl⟩)

set_option maxHeartbeats 1000000 in
theorem aex_past2 (a0 a1 a2 a3 a4 : Int) (w : World) (h0 : InB a0) (h1 : InB a1) (h2 : InB a2) (h3 : InB a3) (h4 : InB a4) (hx : 0 < a1) (hb : a0 + 250000 + a1 ≤ a2) (hl : a3 < (a2 - (a0 + 250000 + a1)) / 4 + a1) :
    Calls Yba.prog 3 #[.int .i64 a0, .int .i64 a1, .int .i64 a2, .int .i64 a3, .int .i64 a4] w fun e w' => e = .returned (.bool true) ∧ ∃ l p f, w' = w.alloc (bud l p f) := by
  obtain ⟨l0, r0⟩ := h0
  obtain ⟨l1, r1⟩ := h1
  obtain ⟨l2, r2⟩ := h2
  obtain ⟨l3, r3⟩ := h3
  obtain ⟨l4, r4⟩ := h4
  go_enter Yba.func3, Yba.ntmps3
  go_wp2_with fail
  refine (ain_yes a0 _ l0 r0).mono ?_
  rintro e w' ⟨rfl, rfl⟩
  go_wp2_with fail
  refine (ain_yes a1 _ l1 r1).mono ?_
  rintro e w' ⟨rfl, rfl⟩
  go_wp2_with fail
  refine (ain_yes a2 _ l2 r2).mono ?_
  rintro e w' ⟨rfl, rfl⟩
  go_wp2_with fail
  refine (ain_yes a3 _ l3 r3).mono ?_
  rintro e w' ⟨rfl, rfl⟩
  go_wp2_with fail
  refine (ain_yes a4 _ l4 r4).mono ?_
  rintro e w' ⟨rfl, rfl⟩
  go_wp2_with fail
  refine (store_any w.heap.size 1 a4 (.int .i64 0) _ (by simp) (by simp)).mono ?_
  rintro e w' ⟨rfl, rfl⟩
  go_wp2_with fail
  refine (charge_past a3 a4 a2 a0 (a0 + 250000 + a1) a2 w (by omega) (by omega) (by omega) (by omega) (by omega) (by omega) (by omega) (by omega)).mono ?_
  rintro e w' ⟨rfl, rfl⟩
  go_wp2_with (go_at_call 9; refine (load_any w.heap.size 1 ((a0 + 250000 + a1) + (a2 + ((a0 + 250000 + a1) - a0 - 250000) * 4 - (a0 + 250000 + a1)) / 4 * 256) _ (by simp)).mono ?_; rintro e w' ⟨rfl, rfl⟩)
  all_goals (go_ret; exact ⟨ret_bool (beq_iff_eq.2 (by omega)), _, _, _, rfl⟩)

theorem apa_out0 (a0 a1 a2 a3 : Int) (w : World) (h0 : ¬ InB a0) :
    Calls Yba.prog 4 #[.int .i64 a0, .int .i64 a1, .int .i64 a2, .int .i64 a3] w fun e w' => e = .returned (.bool true) ∧ w' = w := by
  have h := out_of h0
  clear h0
  go_enter Yba.func4, Yba.ntmps4
  go_wp2_with fail
  refine (ain_no a0 _ h).mono ?_
  rintro e w' ⟨rfl, rfl⟩
  go_wp2_with fail
  go_ret
  exact ⟨rfl, rfl⟩

theorem apa_out1 (a0 a1 a2 a3 : Int) (w : World) (h0 : InB a0) (h1 : ¬ InB a1) :
    Calls Yba.prog 4 #[.int .i64 a0, .int .i64 a1, .int .i64 a2, .int .i64 a3] w fun e w' => e = .returned (.bool true) ∧ w' = w := by
  have h := out_of h1
  clear h1
  obtain ⟨l0, r0⟩ := h0
  go_enter Yba.func4, Yba.ntmps4
  go_wp2_with fail
  refine (ain_yes a0 _ l0 r0).mono ?_
  rintro e w' ⟨rfl, rfl⟩
  go_wp2_with fail
  refine (ain_no a1 _ h).mono ?_
  rintro e w' ⟨rfl, rfl⟩
  go_wp2_with fail
  go_ret
  exact ⟨rfl, rfl⟩

theorem apa_out2 (a0 a1 a2 a3 : Int) (w : World) (h0 : InB a0) (h1 : InB a1) (h2 : ¬ InB a2) :
    Calls Yba.prog 4 #[.int .i64 a0, .int .i64 a1, .int .i64 a2, .int .i64 a3] w fun e w' => e = .returned (.bool true) ∧ w' = w := by
  have h := out_of h2
  clear h2
  obtain ⟨l0, r0⟩ := h0
  obtain ⟨l1, r1⟩ := h1
  go_enter Yba.func4, Yba.ntmps4
  go_wp2_with fail
  refine (ain_yes a0 _ l0 r0).mono ?_
  rintro e w' ⟨rfl, rfl⟩
  go_wp2_with fail
  refine (ain_yes a1 _ l1 r1).mono ?_
  rintro e w' ⟨rfl, rfl⟩
  go_wp2_with fail
  refine (ain_no a2 _ h).mono ?_
  rintro e w' ⟨rfl, rfl⟩
  go_wp2_with fail
  go_ret
  exact ⟨rfl, rfl⟩

theorem apa_out3 (a0 a1 a2 a3 : Int) (w : World) (h0 : InB a0) (h1 : InB a1) (h2 : InB a2) (h3 : ¬ InB a3) :
    Calls Yba.prog 4 #[.int .i64 a0, .int .i64 a1, .int .i64 a2, .int .i64 a3] w fun e w' => e = .returned (.bool true) ∧ w' = w := by
  have h := out_of h3
  clear h3
  obtain ⟨l0, r0⟩ := h0
  obtain ⟨l1, r1⟩ := h1
  obtain ⟨l2, r2⟩ := h2
  go_enter Yba.func4, Yba.ntmps4
  go_wp2_with fail
  refine (ain_yes a0 _ l0 r0).mono ?_
  rintro e w' ⟨rfl, rfl⟩
  go_wp2_with fail
  refine (ain_yes a1 _ l1 r1).mono ?_
  rintro e w' ⟨rfl, rfl⟩
  go_wp2_with fail
  refine (ain_yes a2 _ l2 r2).mono ?_
  rintro e w' ⟨rfl, rfl⟩
  go_wp2_with fail
  refine (ain_no a3 _ h).mono ?_
  rintro e w' ⟨rfl, rfl⟩
  go_wp2_with fail
  go_ret
  exact ⟨rfl, rfl⟩

theorem paused_any (b : Nat) (now x : Int) (w : World) (hc : w.cell? ⟨b, 1, none⟩ = some (.int .i64 x)) :
    Calls Yba.prog 10 #[.pointer (some ⟨b, 0, none⟩), .int .i64 now] w fun e w' => e = .returned (.bool (decide (now < x))) ∧ w' = w := by
  go_enter Yba.func10, Yba.ntmps10
  go_wp2_with (go_at_call 9; refine (load_any b 1 x _ hc).mono ?_; rintro e w' ⟨rfl, rfl⟩)
  go_ret
  exact ⟨rfl, rfl⟩

set_option maxHeartbeats 1000000 in
theorem apa_no (a0 a1 a2 a3 : Int) (w : World) (h0 : InB a0) (h1 : InB a1) (h2 : InB a2) (h3 : InB a3) (hx : a1 ≤ 0) :
    Calls Yba.prog 4 #[.int .i64 a0, .int .i64 a1, .int .i64 a2, .int .i64 a3] w fun e w' => e = .returned (.bool true) ∧ ∃ l p f, w' = w.alloc (bud l p f) := by
  obtain ⟨l0, r0⟩ := h0
  obtain ⟨l1, r1⟩ := h1
  obtain ⟨l2, r2⟩ := h2
  obtain ⟨l3, r3⟩ := h3
  go_enter Yba.func4, Yba.ntmps4
  go_wp2_with fail
  refine (ain_yes a0 _ l0 r0).mono ?_
  rintro e w' ⟨rfl, rfl⟩
  go_wp2_with fail
  refine (ain_yes a1 _ l1 r1).mono ?_
  rintro e w' ⟨rfl, rfl⟩
  go_wp2_with fail
  refine (ain_yes a2 _ l2 r2).mono ?_
  rintro e w' ⟨rfl, rfl⟩
  go_wp2_with fail
  refine (ain_yes a3 _ l3 r3).mono ?_
  rintro e w' ⟨rfl, rfl⟩
  go_wp2_with fail
  refine (store_any w.heap.size 1 (-9223372036854775808) (.int .i64 0) _ (by simp) (by simp)).mono ?_
  rintro e w' ⟨rfl, rfl⟩
  go_wp2_with fail
  refine (charge_no a3 (-9223372036854775808) a2 a0 (a0 + 250000 + a1) w (by omega) (by omega)).mono ?_
  rintro e w' ⟨rfl, rfl⟩
  go_wp2_with (go_at_call 10; refine (paused_any w.heap.size _ (-9223372036854775808) _ (by simp)).mono ?_; rintro e w' ⟨rfl, rfl⟩)
  all_goals (go_ret; refine ⟨ret_bool ?_, _, _, _, rfl⟩; simp; try omega)

set_option maxHeartbeats 1000000 in
theorem apa_less1 (a0 a1 a2 a3 : Int) (w : World) (h0 : InB a0) (h1 : InB a1) (h2 : InB a2) (h3 : InB a3) (hx : 0 < a1) (hb : a2 < a0 + 250000 + a1) (hl : a1 ≤ a3) :
    Calls Yba.prog 4 #[.int .i64 a0, .int .i64 a1, .int .i64 a2, .int .i64 a3] w fun e w' => e = .returned (.bool true) ∧ ∃ l p f, w' = w.alloc (bud l p f) := by
  obtain ⟨l0, r0⟩ := h0
  obtain ⟨l1, r1⟩ := h1
  obtain ⟨l2, r2⟩ := h2
  obtain ⟨l3, r3⟩ := h3
  go_enter Yba.func4, Yba.ntmps4
  go_wp2_with fail
  refine (ain_yes a0 _ l0 r0).mono ?_
  rintro e w' ⟨rfl, rfl⟩
  go_wp2_with fail
  refine (ain_yes a1 _ l1 r1).mono ?_
  rintro e w' ⟨rfl, rfl⟩
  go_wp2_with fail
  refine (ain_yes a2 _ l2 r2).mono ?_
  rintro e w' ⟨rfl, rfl⟩
  go_wp2_with fail
  refine (ain_yes a3 _ l3 r3).mono ?_
  rintro e w' ⟨rfl, rfl⟩
  go_wp2_with fail
  refine (store_any w.heap.size 1 (-9223372036854775808) (.int .i64 0) _ (by simp) (by simp)).mono ?_
  rintro e w' ⟨rfl, rfl⟩
  go_wp2_with fail
  refine (charge_more a3 (-9223372036854775808) a2 a0 (a0 + 250000 + a1) (a0 + 250000 + a1) w (by omega) (by omega) (by omega) (by omega) (by omega) (by omega) (by omega) (by omega)).mono ?_
  rintro e w' ⟨rfl, rfl⟩
  go_wp2_with (go_at_call 10; refine (paused_any w.heap.size _ (-9223372036854775808) _ (by simp)).mono ?_; rintro e w' ⟨rfl, rfl⟩)
  all_goals (go_ret; refine ⟨ret_bool ?_, _, _, _, rfl⟩; simp; try omega)

set_option maxHeartbeats 1000000 in
theorem apa_past1 (a0 a1 a2 a3 : Int) (w : World) (h0 : InB a0) (h1 : InB a1) (h2 : InB a2) (h3 : InB a3) (hx : 0 < a1) (hb : a2 < a0 + 250000 + a1) (hl : a3 < a1) :
    Calls Yba.prog 4 #[.int .i64 a0, .int .i64 a1, .int .i64 a2, .int .i64 a3] w fun e w' => e = .returned (.bool true) ∧ ∃ l p f, w' = w.alloc (bud l p f) := by
  obtain ⟨l0, r0⟩ := h0
  obtain ⟨l1, r1⟩ := h1
  obtain ⟨l2, r2⟩ := h2
  obtain ⟨l3, r3⟩ := h3
  go_enter Yba.func4, Yba.ntmps4
  go_wp2_with fail
  refine (ain_yes a0 _ l0 r0).mono ?_
  rintro e w' ⟨rfl, rfl⟩
  go_wp2_with fail
  refine (ain_yes a1 _ l1 r1).mono ?_
  rintro e w' ⟨rfl, rfl⟩
  go_wp2_with fail
  refine (ain_yes a2 _ l2 r2).mono ?_
  rintro e w' ⟨rfl, rfl⟩
  go_wp2_with fail
  refine (ain_yes a3 _ l3 r3).mono ?_
  rintro e w' ⟨rfl, rfl⟩
  go_wp2_with fail
  refine (store_any w.heap.size 1 (-9223372036854775808) (.int .i64 0) _ (by simp) (by simp)).mono ?_
  rintro e w' ⟨rfl, rfl⟩
  go_wp2_with fail
  refine (charge_past a3 (-9223372036854775808) a2 a0 (a0 + 250000 + a1) (a0 + 250000 + a1) w (by omega) (by omega) (by omega) (by omega) (by omega) (by omega) (by omega) (by omega)).mono ?_
  rintro e w' ⟨rfl, rfl⟩
  go_wp2_with (go_at_call 10; refine (paused_any w.heap.size _ ((a0 + 250000 + a1) + ((a0 + 250000 + a1) + ((a0 + 250000 + a1) - a0 - 250000) * 4 - (a0 + 250000 + a1)) / 4 * 256) _ (by simp)).mono ?_; rintro e w' ⟨rfl, rfl⟩)
  all_goals (go_ret; refine ⟨ret_bool ?_, _, _, _, rfl⟩; simp; try omega)

set_option maxHeartbeats 1000000 in
theorem apa_less2 (a0 a1 a2 a3 : Int) (w : World) (h0 : InB a0) (h1 : InB a1) (h2 : InB a2) (h3 : InB a3) (hx : 0 < a1) (hb : a0 + 250000 + a1 ≤ a2) (hl : (a2 - (a0 + 250000 + a1)) / 4 + a1 ≤ a3) :
    Calls Yba.prog 4 #[.int .i64 a0, .int .i64 a1, .int .i64 a2, .int .i64 a3] w fun e w' => e = .returned (.bool true) ∧ ∃ l p f, w' = w.alloc (bud l p f) := by
  obtain ⟨l0, r0⟩ := h0
  obtain ⟨l1, r1⟩ := h1
  obtain ⟨l2, r2⟩ := h2
  obtain ⟨l3, r3⟩ := h3
  go_enter Yba.func4, Yba.ntmps4
  go_wp2_with fail
  refine (ain_yes a0 _ l0 r0).mono ?_
  rintro e w' ⟨rfl, rfl⟩
  go_wp2_with fail
  refine (ain_yes a1 _ l1 r1).mono ?_
  rintro e w' ⟨rfl, rfl⟩
  go_wp2_with fail
  refine (ain_yes a2 _ l2 r2).mono ?_
  rintro e w' ⟨rfl, rfl⟩
  go_wp2_with fail
  refine (ain_yes a3 _ l3 r3).mono ?_
  rintro e w' ⟨rfl, rfl⟩
  go_wp2_with fail
  refine (store_any w.heap.size 1 (-9223372036854775808) (.int .i64 0) _ (by simp) (by simp)).mono ?_
  rintro e w' ⟨rfl, rfl⟩
  go_wp2_with fail
  refine (charge_more a3 (-9223372036854775808) a2 a0 (a0 + 250000 + a1) a2 w (by omega) (by omega) (by omega) (by omega) (by omega) (by omega) (by omega) (by omega)).mono ?_
  rintro e w' ⟨rfl, rfl⟩
  go_wp2_with (go_at_call 10; refine (paused_any w.heap.size _ (-9223372036854775808) _ (by simp)).mono ?_; rintro e w' ⟨rfl, rfl⟩)
  all_goals (go_ret; refine ⟨ret_bool ?_, _, _, _, rfl⟩; simp; try omega)

set_option maxHeartbeats 1000000 in
theorem apa_past2 (a0 a1 a2 a3 : Int) (w : World) (h0 : InB a0) (h1 : InB a1) (h2 : InB a2) (h3 : InB a3) (hx : 0 < a1) (hb : a0 + 250000 + a1 ≤ a2) (hl : a3 < (a2 - (a0 + 250000 + a1)) / 4 + a1) :
    Calls Yba.prog 4 #[.int .i64 a0, .int .i64 a1, .int .i64 a2, .int .i64 a3] w fun e w' => e = .returned (.bool true) ∧ ∃ l p f, w' = w.alloc (bud l p f) := by
  obtain ⟨l0, r0⟩ := h0
  obtain ⟨l1, r1⟩ := h1
  obtain ⟨l2, r2⟩ := h2
  obtain ⟨l3, r3⟩ := h3
  go_enter Yba.func4, Yba.ntmps4
  go_wp2_with fail
  refine (ain_yes a0 _ l0 r0).mono ?_
  rintro e w' ⟨rfl, rfl⟩
  go_wp2_with fail
  refine (ain_yes a1 _ l1 r1).mono ?_
  rintro e w' ⟨rfl, rfl⟩
  go_wp2_with fail
  refine (ain_yes a2 _ l2 r2).mono ?_
  rintro e w' ⟨rfl, rfl⟩
  go_wp2_with fail
  refine (ain_yes a3 _ l3 r3).mono ?_
  rintro e w' ⟨rfl, rfl⟩
  go_wp2_with fail
  refine (store_any w.heap.size 1 (-9223372036854775808) (.int .i64 0) _ (by simp) (by simp)).mono ?_
  rintro e w' ⟨rfl, rfl⟩
  go_wp2_with fail
  refine (charge_past a3 (-9223372036854775808) a2 a0 (a0 + 250000 + a1) a2 w (by omega) (by omega) (by omega) (by omega) (by omega) (by omega) (by omega) (by omega)).mono ?_
  rintro e w' ⟨rfl, rfl⟩
  go_wp2_with (go_at_call 10; refine (paused_any w.heap.size _ ((a0 + 250000 + a1) + (a2 + ((a0 + 250000 + a1) - a0 - 250000) * 4 - (a0 + 250000 + a1)) / 4 * 256) _ (by simp)).mono ?_; rintro e w' ⟨rfl, rfl⟩)
  all_goals (go_ret; refine ⟨ret_bool ?_, _, _, _, rfl⟩; simp; try omega)

end Go.Proofs.Ybulkmmc
