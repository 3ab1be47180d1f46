/-
  The budget's charge, by its contract, over a budget that the caller has just made.
-/
import Derived.Test.YbulkmmcAtom
import Derived.Test.YbulkmmcLocks
import Derived.Conc.MuLone
namespace Go.Proofs.Ybulkmmc
open Go.RowKit Go.MuLone

/-- the budget's block: leeway, pausedUntil, the lock (two cells), freeAt -/
abbrev bud (l p f : Int) : Obj := .cells #[.int .i64 l, .int .i64 p, .int .i32 0, .int .u32 0, .int .i64 f] 36

theorem charge_no (l p f fr bk : Int) (w : World) (h3 : -4611686018427387904 ≤ bk - fr) (h4 : bk - fr ≤ 250000) :
    Calls Yba.prog 8 #[.pointer (some ⟨w.heap.size, 0, none⟩), .int .i64 fr, .int .i64 bk] (w.alloc (bud l p f)) fun e w' => e = .returned (.tuple #[]) ∧ w' = w.alloc (bud l p f) := by
  go_enter_defers Yba.func8, Yba.ntmps8
  go_wp2_with fail
  exact ⟨_, results_none rfl _ _ _, rfl, rfl⟩

theorem charge_more (l p f fr bk M : Int) (w : World) (h1 : -2000000000000 ≤ fr) (h2 : fr ≤ 2000000000000) (h3 : 250000 < bk - fr) (h4 : bk - fr ≤ 2000000000000) (h5 : -2000000000000 ≤ f) (h6 : f ≤ 2000000000000) (hM : (f < bk ∧ M = bk) ∨ (bk ≤ f ∧ M = f))
    (hl : (M + (bk - fr - 250000) * 4 - bk) / 4 ≤ l) :
    Calls Yba.prog 8 #[.pointer (some ⟨w.heap.size, 0, none⟩), .int .i64 fr, .int .i64 bk] (w.alloc (bud l p f)) fun e w' => e = .returned (.tuple #[]) ∧ w' = w.alloc (bud l p (M + (bk - fr - 250000) * 4)) := by
  rcases hM with ⟨hf, rfl⟩ | ⟨hf, rfl⟩
  · go_enter_defers Yba.func8, Yba.ntmps8
    go_wp2_with (go_at_call 15; refine (lock_free muLib ⟨w.heap.size, 2, none⟩ _ (by simp) (by simp)).mono ?_; rintro e w' ⟨rfl, rfl⟩)
    refine leaves_cons (f := 16) (args := #[.pointer (some ⟨w.heap.size, 2, none⟩)]) (by simp) (by simp [go_sem]) ?_
    refine (unlock_deferred muLib ⟨w.heap.size, 2, none⟩ .returning _ ?_ ?_).mono ?_
    · simp
    · simp
    rintro e u' w'' ⟨rfl, rfl, rfl⟩
    refine ⟨_, results_none rfl _ _ _, rfl, ?_⟩
    simp [go_sem]
  · go_enter_defers Yba.func8, Yba.ntmps8
    go_wp2_with (go_at_call 15; refine (lock_free muLib ⟨w.heap.size, 2, none⟩ _ (by simp) (by simp)).mono ?_; rintro e w' ⟨rfl, rfl⟩)
    refine leaves_cons (f := 16) (args := #[.pointer (some ⟨w.heap.size, 2, none⟩)]) (by simp) (by simp [go_sem]) ?_
    refine (unlock_deferred muLib ⟨w.heap.size, 2, none⟩ .returning _ ?_ ?_).mono ?_
    · simp
    · simp
    rintro e u' w'' ⟨rfl, rfl, rfl⟩
    refine ⟨_, results_none rfl _ _ _, rfl, ?_⟩
    simp [go_sem]
theorem charge_past (l p f fr bk M : Int) (w : World) (h1 : -2000000000000 ≤ fr) (h2 : fr ≤ 2000000000000) (h3 : 250000 < bk - fr) (h4 : bk - fr ≤ 2000000000000) (h5 : -2000000000000 ≤ f) (h6 : f ≤ 2000000000000) (hM : (f < bk ∧ M = bk) ∨ (bk ≤ f ∧ M = f))
    (hl : l < (M + (bk - fr - 250000) * 4 - bk) / 4) :
    Calls Yba.prog 8 #[.pointer (some ⟨w.heap.size, 0, none⟩), .int .i64 fr, .int .i64 bk] (w.alloc (bud l p f)) fun e w' => e = .returned (.tuple #[]) ∧ w' = w.alloc (bud l (bk + (M + (bk - fr - 250000) * 4 - bk) / 4 * 256) (M + (bk - fr - 250000) * 4)) := by
  rcases hM with ⟨hf, rfl⟩ | ⟨hf, rfl⟩
  · go_enter_defers Yba.func8, Yba.ntmps8
    go_wp2_with (first | (go_at_call 15; refine (lock_free muLib ⟨w.heap.size, 2, none⟩ _ (by simp) (by simp)).mono ?_; rintro e w' ⟨rfl, rfl⟩) | (go_at_call 7; refine (store_any w.heap.size 1 _ (.int .i64 p) _ (by simp) (by simp)).mono ?_; rintro e w' ⟨rfl, rfl⟩))
    refine leaves_cons (f := 16) (args := #[.pointer (some ⟨w.heap.size, 2, none⟩)]) (by simp) (by simp [go_sem]) ?_
    refine (unlock_deferred muLib ⟨w.heap.size, 2, none⟩ .returning _ ?_ ?_).mono ?_
    · simp
    · simp
    rintro e u' w'' ⟨rfl, rfl, rfl⟩
    refine ⟨_, results_none rfl _ _ _, rfl, ?_⟩
    simp [go_sem]
  · go_enter_defers Yba.func8, Yba.ntmps8
    go_wp2_with (first | (go_at_call 15; refine (lock_free muLib ⟨w.heap.size, 2, none⟩ _ (by simp) (by simp)).mono ?_; rintro e w' ⟨rfl, rfl⟩) | (go_at_call 7; refine (store_any w.heap.size 1 _ (.int .i64 p) _ (by simp) (by simp)).mono ?_; rintro e w' ⟨rfl, rfl⟩))
    refine leaves_cons (f := 16) (args := #[.pointer (some ⟨w.heap.size, 2, none⟩)]) (by simp) (by simp [go_sem]) ?_
    refine (unlock_deferred muLib ⟨w.heap.size, 2, none⟩ .returning _ ?_ ?_).mono ?_
    · simp
    · simp
    rintro e u' w'' ⟨rfl, rfl, rfl⟩
    refine ⟨_, results_none rfl _ _ _, rfl, ?_⟩
    simp [go_sem]
end Go.Proofs.Ybulkmmc
