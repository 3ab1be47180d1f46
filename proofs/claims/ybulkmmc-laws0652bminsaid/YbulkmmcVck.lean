/-
  The front of the queue; the virtual clock.
-/
import Derived.Test.YbulkmmcVrt
import Derived.Deep.Draws
namespace Go.Proofs.Ybulkmmc
open Go.RowKit

theorem front_nil (b o : Nat) (a : Option Addr) (c : Nat) (w : World) (h : w.cell? ⟨b, o, none⟩ = some (.slice a 0 c)) :
    Calls Yba.prog 19 #[.pointer (some ⟨b, o, none⟩)] w fun e w' => e = .returned (.pointer none) ∧ w' = w := by
  go_enter Yba.func19, Yba.ntmps19
  go_wp2
  go_ret
  exact ⟨rfl, rfl⟩

theorem front_some (b o : Nat) (g n c : Nat) (p : Value) (w : World) (hn : 0 < n) (h : w.cell? ⟨b, o, none⟩ = some (.slice (some ⟨g, 0, none⟩) n c)) (hp : w.cell? ⟨g, 0, none⟩ = some p) :
    Calls Yba.prog 19 #[.pointer (some ⟨b, o, none⟩)] w fun e w' => e = .returned p ∧ w' = w := by
  have h0 : ((n : Int) == 0) = false := by simp; omega
  go_enter Yba.func19, Yba.ntmps19
  go_wp2
  go_ret
  exact ⟨rfl, rfl⟩
end Go.Proofs.Ybulkmmc
