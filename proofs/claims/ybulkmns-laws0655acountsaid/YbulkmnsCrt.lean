/-
  Orderer.certifiedHeld, where no proposal is held.
-/
import Derived.Test.YbulkmnsRem
namespace Go.Proofs.Ybulkmns
open Go.RowKit
set_option linter.unusedSimpArgs false
set_option linter.unusedVariables false

def ldS (t : TypeId) (v : Value) : Sem Value := Instr.loadAt t v
theorem ld45 (v : Value) : Instr.loadAt 45 v = ldS 45 v := rfl
theorem ld48 (v : Value) : Instr.loadAt 48 v = ldS 48 v := rfl
theorem ld66 (v : Value) : Instr.loadAt 66 v = ldS 66 v := rfl
theorem ld71 (v : Value) : Instr.loadAt 71 v = ldS 71 v := rfl
def lkS (t : TypeId) (x i : Value) (c : Bool) : Sem Value := Instr.lookup t x i c
theorem lk_eq (t : TypeId) (x i : Value) (c : Bool) : Instr.lookup t x i c = lkS t x i c := rfl
attribute [local go_sem ↓] ld45 ld48 ld66 ld71 lk_eq

theorem size45 : (Yba.prog.info? 45).map (·.size) = some 32 := by kernel_rfl
theorem size71 : (Yba.prog.info? 71).map (·.size) = some 33 := by kernel_rfl
theorem size48 : (Yba.prog.info? 48).map (·.size) = some 34 := by kernel_rfl
theorem ldS45 (b o p : Nat) (w : World) (h : w.rangeAt b o (ic p)) : (ldS 45 (.pointer (some ⟨b, o, none⟩))).run Yba.prog w = .ok (iv p) w :=
  run_loadAt_mid w b o 45 (ic p) _ h Yba.underlying45 rfl (by rw [ic_len]; exact size45)
theorem ldS71 (b o v p : Nat) (w : World) (h : w.rangeAt b o (kc v p)) : (ldS 71 (.pointer (some ⟨b, o, none⟩))).run Yba.prog w = .ok (kv v p) w :=
  run_loadAt_mid w b o 71 (kc v p) _ h Yba.underlying71 rfl (by rw [kc_len]; exact size71)
theorem ldS66 (b o i : Nat) (w : World) (h : w.rangeAt b o (sc i)) : (ldS 66 (.pointer (some ⟨b, o, none⟩))).run Yba.prog w = .ok (sv i) w :=
  run_loadAt_mid w b o 66 (sc i) _ h Yba.underlying66 rfl (by rw [sc_len]; exact size66)

theorem look50 (p : Nat) (hp : p < 256) (w : World) : (lkS 50 (.map none) (iv p) false).run Yba.prog w = .ok (.pointer none) w := by
  obtain ⟨l, hl⟩ := key45 p hp
  have z : ∀ w : World, (zeroValue 89).run Yba.prog w = .ok (.pointer none) w := fun w => by kernel_rfl
  have hf : (Instr.findKey 45 (iv p) []).run Yba.prog w = .ok none w := by
    rcases law45.find w hl [] (by simp) with ⟨h, _⟩ | ⟨j, e, _, h, _⟩
    · exact h
    · simp at h
  unfold lkS
  simp [Instr.lookup, run_underlying Yba.underlying50, law45.check w _ hl, hf, Result.andThen, z]

theorem wpList_box {ops : Array Oper} {rest : List Oper} {o : Oper} {a : Act} {w : World} {Q : Exit → Act → World → Prop} (hgd : o.guard = none) (t : TypeId) (x : Operand) (cs : Array Value)
    (ho : o.op = .box t x) (hx : a.eval x = .agg cs) (h : wpList Yba.prog ops Q rest (a.put o.dst (.pointer (some ⟨w.heap.size, 0, none⟩))) (w.alloc (.cells cs t))) : wpList Yba.prog ops Q (o :: rest) a w :=
  wpList_plain hgd fun _ hK => by
    unfold Oper.wp execOp
    simp only [ho, hx]
    exact hK _ _ h

theorem range_new (w : World) (t : TypeId) (C : List Value) : (w.alloc (.cells C.toArray t)).rangeAt w.heap.size 0 C :=
  fun j v hv => cell_of (A := C.toArray) (t := t) (by show (w.heap.push _)[w.heap.size]? = _; simp) _ v (by simpa using hv)

theorem Chg.drewN {S : List Nat} {a w : World} (h : Chg S a w) : ∀ n : Nat, Chg S a (w.drewN n) := fun n => by
  have e : (w.drewN n).os = w.os ∧ (w.drewN n).tape = w.tape ∧ (w.drewN n).output = w.output ∧ (w.drewN n).heap = w.heap := by
    first
    | exact ⟨rfl, rfl, rfl, rfl⟩
    | (induction n generalizing w with
       | zero => exact ⟨rfl, rfl, rfl, rfl⟩
       | succ n ih => exact ih h.drew)
  exact ⟨e.1.trans h.os, e.2.1.trans h.tape, e.2.2.1.trans h.output, by rw [e.2.2.2]; exact h.size, by rw [e.2.2.2]; exact h.block⟩

set_option maxRecDepth 100000 in
set_option maxHeartbeats 1000000 in
theorem held_none (O p : Nat) (hp : p < 256) (w : World) (hO : O < w.heap.size) (hc : w.cell? ⟨O, 47, none⟩ = some (.map none)) :
    Calls Yba.prog 12 #[.pointer (some ⟨O, 0, none⟩), iv p] w fun e w' => e = .returned (.tuple #[]) ∧ Chg [] w w' := by
  have hl : ∀ w : World, (lkS 50 (.map none) (.agg (ic p).toArray) false).run Yba.prog w = .ok (.pointer none) w := look50 p hp
  have hq : ∀ w : World, (binOp .eql 89 (.pointer none) (.pointer none)).run Yba.prog w = .ok (.bool true) w := fun w => by kernel_rfl
  have hu := Yba.underlying45
  have hsz : (Yba.prog.info? 45).map (·.size) = some (ic p).length := by rw [ic_len]; exact size45
  have hil := ic_len p
  have hr := range_new w 45 (ic p)
  have hld := ldS45 w.heap.size 0 p
  have hc' : (w.alloc (.cells (ic p).toArray 45)).cell? ⟨O, 47, none⟩ = some (.map none) := by rw [World.cell?_alloc_past _ _ _ hO]; exact hc
  have HA : Hid (Chg [] w (w.alloc (.cells (ic p).toArray 45))) := (Chg.refl _ w).alloc _
  go_enter Yba.func12, Yba.ntmps12
  go_wp2_with (first | refine wpList_box rfl 45 (.tmp 1) (ic p).toArray rfl rfl ?_)
  generalize w.alloc (.cells (ic p).toArray 45) = w1 at *
  go_region_held3 (fun w' => w'.cell? ⟨O, 47, none⟩ = some (.map none) ∧ w'.rangeAt w.heap.size 0 (ic p)) (first | (go_keep_ranges; done)) (fail)
  go_wp2_with fail
  go_quiet (fail)
  go_wp2_with fail
  exact bodyPost_ret (results_none rfl _ _ _) rfl ⟨rfl, HA.out.drew.drewN _⟩
end Go.Proofs.Ybulkmns
