/-
  Contracts of the leaf functions of the seat: atomic Store and Load, the group's making, the weight.
-/
import Derived.Test.YbulkmmcRows
import Derived.Test.YbulkmmcVal
import Derived.WalkKit
import Derived.WalkSpells
import Derived.WalkLawsBesides
import Derived.Laws.LoneSync
namespace Go.Proofs.Ybulkmmc
open Go.RowKit

theorem store_any (b o : Nat) (x : Int) (v : Value) (w : World) (hc : w.cell? ⟨b, o, none⟩ = some v) (hz : w.frozen? ⟨b, o, none⟩ = false) :
    Calls Yba.prog 7 #[.pointer (some ⟨b, o, none⟩), .int .i64 x] w fun e w' => e = .returned (.tuple #[]) ∧ w' = w.setCell ⟨b, o, none⟩ (.int .i64 x) := by
  have hs := run_call_store (P := Yba.prog) Yba.func14 (by kernel_rfl) (by kernel_rfl) (by kernel_rfl) (by kernel_rfl) (k := .i64) (y := x) hc hz
  go_enter Yba.func7, Yba.ntmps7
  go_wp2
  go_end0
  exact ⟨rfl, rfl⟩

theorem load_any (b o : Nat) (x : Int) (w : World) (hc : w.cell? ⟨b, o, none⟩ = some (.int .i64 x)) :
    Calls Yba.prog 9 #[.pointer (some ⟨b, o, none⟩)] w fun e w' => e = .returned (.int .i64 x) ∧ w' = w := by
  have hl := run_call_load (P := Yba.prog) Yba.func17 (by kernel_rfl) (by kernel_rfl) (by kernel_rfl) .i64 (by kernel_rfl) hc
  go_enter Yba.func9, Yba.ntmps9
  go_wp2
  go_ret
  exact ⟨rfl, rfl⟩

theorem weight_any (u : Int) (h0 : 0 ≤ u) (w : World) :
    Calls Yba.prog 12 #[.int .u8 u] w fun e w' => e = .returned (.float .f64 (Flt.wt u)) ∧ w' = w := by
  have e : u.tmod 8 = u % 8 := Int.tmod_eq_emod_of_nonneg h0
  have k1 := fun (w : World) => run_float_arith (P := Yba.prog) w .quo 65 .f64 _ _ _ (Flt.wt_facts u).1
  have k2 := fun (w : World) => run_float_arith (P := Yba.prog) w .add 65 .f64 _ _ _ (Flt.wt_facts u).2.1
  unfold Flt.two at k1
  unfold Flt.half at k2
  go_enter Yba.func12, Yba.ntmps12
  go_wp2
  go_ret
  exact ⟨rfl, rfl⟩

/-- the cells of a group as the law makes it -/
def gcells (vr wt : Nat) (s ix : Int) : Array Value := #[.pointer none, .chan none, .float .f64 wt, .int .i64 s, .int .i64 0, .int .i64 0, .int .u32 0, .string { data := #[] }, .chan none, .int .i64 0, .bool false, .int .i32 0, .int .u64 0, .int .i64 ix, .float .f64 vr, .int .u64 0]

theorem group_any (vr wt : Nat) (s : Int) (w : World) :
    Calls Yba.prog 11 #[.float .f64 vr, .int .i64 s, .float .f64 wt] w fun e w' => e = .returned (.pointer (some ⟨w.heap.size, 0, none⟩)) ∧ w' = w.alloc (.cells (gcells vr wt s 0) 75) := by
  go_enter Yba.func11, Yba.ntmps11
  go_wp2_with fail
  refine (store_any w.heap.size 3 s (.int .i64 0) _ (by simp) (by simp)).mono ?_
  rintro e w' ⟨rfl, rfl⟩
  go_wp2
  go_ret
  exact ⟨rfl, rfl⟩
end Go.Proofs.Ybulkmmc
