/-
  The virtual runtime of a group at a clock.
-/
import Derived.Test.YbulkmmcAtom
import Derived.Deep.RegionHeld3
import Derived.Deep.DrawnRows
namespace Go.Proofs.Ybulkmmc
open Go.RowKit
attribute [local go_sem ↓] Go.wp_at_zero Go.wp_at_succ

theorem vrt_any (b : Nat) (r s u now : Int) (hr1 : -2147483648 ≤ r) (hr2 : r ≤ 2147483647) (w : World) (hv : w.cell? ⟨b, 14, none⟩ = some (.float .f64 (floatOfInt .f64 r)))
    (hs : w.cell? ⟨b, 3, none⟩ = some (.int .i64 s)) (hw : w.cell? ⟨b, 2, none⟩ = some (.float .f64 (Flt.wt u))) :
    Calls Yba.prog 18 #[.pointer (some ⟨b, 0, none⟩), .int .i64 now] w fun e w' => e = .returned (.float .f64 (Flt.vb r (IntKind.i64.wrap (now - s)) u)) ∧ w' = w.drew := by
  have k1 := fun (w : World) => run_float_arith (P := Yba.prog) w .quo 65 .f64 _ _ _ (Flt.qd_eq (IntKind.i64.wrap (now - s)) u).1
  have k2 := fun (w : World) => run_float_arith (P := Yba.prog) w .add 65 .f64 _ _ _ (Flt.vb_eq r (IntKind.i64.wrap (now - s)) u hr1 hr2).1
  go_enter Yba.func18, Yba.ntmps18
  go_wp2
  go_region_held3 (fun w' => w'.cell? ⟨b, 14, none⟩ = some (.float .f64 (floatOfInt .f64 r)) ∧ w'.cell? ⟨b, 3, none⟩ = some (.int .i64 s) ∧ w'.cell? ⟨b, 2, none⟩ = some (.float .f64 (Flt.wt u))) (go_keep)
    (first | (go_at_call 9; refine (load_any b 3 s _ ?_).mono ?_; (simp [*]); rintro e w' ⟨rfl, rfl⟩))
  go_wp2
  go_ret
  exact ⟨rfl, rfl⟩
end Go.Proofs.Ybulkmmc
