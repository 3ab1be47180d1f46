/-
  The source of entries, one call of it.
-/
import Derived.Test.YbulkmpiSame
import Derived.Deep.Upon
namespace Go.Proofs.Ybulkmpi
open Go.RowKit

/-- the cells of the zero entry -/
def Z : List Value := List.replicate 32 (.int .u8 0) ++ [.int .u64 0]
theorem Z_ec : Ec Z := ⟨by simp [Z], fun i hi => ⟨0, by unfold Z; rw [List.getElem?_append_left (by rw [List.length_replicate]; exact hi), List.getElem?_replicate, if_pos hi]⟩, ⟨0, by unfold Z; rw [List.getElem?_append_right (by rw [List.length_replicate]; exact Nat.le_refl _), List.length_replicate]; rfl⟩⟩

theorem wpList_alloc31 {ops : Array Oper} {rest : List Oper} {o : Oper} {a : Act} {w : World} {Q : Exit → Act → World → Prop} (hgd : o.guard = none) (ho : o.op = .alloc 31)
    (h : wpList Yba.prog ops Q rest (a.put o.dst (.pointer (some ⟨w.heap.size, 0, none⟩))) (w.alloc (.cells Z.toArray 31))) : wpList Yba.prog ops Q (o :: rest) a w := by
  have hr : (Instr.alloc 31 true (.tuple #[])).run Yba.prog w = .ok (.pointer (some ⟨w.heap.size, 0, none⟩)) (w.alloc (.cells Z.toArray 31)) := by kernel_rfl
  refine wpList_plain hgd fun _ hK => ?_
  unfold Oper.wp execOp
  simp only [ho, Sem.run_bind, hr, Result.andThen_ok, Sem.run_pure]
  exact hK _ _ h

theorem build31 (w : World) : (Instr.build 31 #[]).run Yba.prog w = .ok (.agg Z.toArray) w := by kernel_rfl

theorem wpList_build31 {ops : Array Oper} {rest : List Oper} {o : Oper} {a : Act} {w : World} {Q : Exit → Act → World → Prop} (hgd : o.guard = none) (ho : o.op = .build 31 #[])
    (h : wpList Yba.prog ops Q rest (a.put o.dst (.agg Z.toArray)) w) : wpList Yba.prog ops Q (o :: rest) a w := by
  refine wpList_plain hgd fun _ hK => ?_
  unfold Oper.wp execOp
  simp only [ho, List.map_toArray, List.map_nil, Sem.run_bind, build31, Result.andThen_ok, Sem.run_pure]
  exact hK _ _ h

theorem setCells_alloc (w : World) (t : TypeId) : ∀ (C : List Value) (o : Nat) (A : Array Value), A.size = o + C.length → (w.alloc (.cells A t)).setCells w.heap.size o C = w.alloc (.cells (A.toList.take o ++ C).toArray t)
  | [], o, A, h => by
    rw [World.setCells, List.append_nil, List.take_of_length_le (by simpa using Nat.le_of_eq h)]
  | v :: r, o, A, h => by
    simp only [List.length_cons] at h
    rw [World.setCells, World.setCell_alloc_at _ _ _ _ _ rfl, setCells_alloc w t r (o + 1) (A.setIfInBounds o v) (by simp; omega)]
    congr 3
    have hlt : o < A.toList.length := by simp; omega
    rw [Array.toList_setIfInBounds, List.take_succ_eq_append_getElem (by simpa using hlt)]
    simp [List.take_set_of_le]

theorem setCells_new (w : World) (t : TypeId) (C : List Value) (A : Array Value) (h : A.size = C.length) : (w.alloc (.cells A t)).setCells w.heap.size 0 C = w.alloc (.cells C.toArray t) := by
  rw [setCells_alloc w t C 0 A (by omega)]
  simp

theorem there_new (w : World) (t : TypeId) (A : Array Value) : (w.alloc (.cells A t)).there w.heap.size 0 A.size := fun j hj => by
  rw [World.cell?_alloc_at _ _ _ _ rfl, World.frozen?_alloc_at _ _ _ _ rfl]
  simp [hj]

/-- a whole entry stored into a block of entries that was just laid -/
theorem wpList_store31 {ops : Array Oper} {rest : List Oper} {o : Oper} {a : Act} {W : World} {Q : Exit → Act → World → Prop} (hgd : o.guard = none) (x y : Operand) (ho : o.op = .store 31 x y) (w : World) (B : Nat) (A C : List Value) (hA : A.length = 33) (hC : Ec C)
    (hx : a.eval x = .pointer (some ⟨B, 0, none⟩)) (hy : a.eval y = .agg C.toArray) (hB : w.heap.size = B) (hW : W = w.alloc (.cells A.toArray 31))
    (h : wpList Yba.prog ops Q rest (a.put o.dst undef) (w.alloc (.cells C.toArray 31))) : wpList Yba.prog ops Q (o :: rest) a W := by
  subst hB
  subst hW
  have hl := hC.len
  refine wpList_store_mid hgd 31 x y ho w.heap.size 0 C.toArray hx hy ?_ (by rw [Yba.size31]; simp [hl]) (all_oneCell_toArray hC.one) ?_
  · have hs : C.toArray.size = A.toArray.size := by simp [hA, hl]
    rw [hs]
    exact there_new w 31 A.toArray
  · rw [setCells_new w 31 C A.toArray (by simp [hA, hl])]
    exact h

theorem range_new (w : World) (t : TypeId) (C : List Value) : (w.alloc (.cells C.toArray t)).rangeAt w.heap.size 0 C :=
  range_of_block (cs := C.toArray) (t := t) (fr := (0, 0)) (by show (w.heap.push _)[w.heap.size]? = _; simp) C 0 (fun j v hv => by simpa using hv)

theorem res8 (w : World) (b : Nat) (C : List Value) (x y : Value) (tmps : Array Value) (h1 : tmps.getD 1 undef = .pointer (some ⟨b, 0, none⟩)) (h2 : tmps.getD 2 undef = x) (h3 : tmps.getD 3 undef = y) (hr : w.rangeAt b 0 C) (hC : C.length = 33) :
    (results Yba.f8 tmps).run Yba.prog w = .ok (.tuple #[.agg C.toArray, x, y]) w := by
  have hl := run_loadVar_mid (P := Yba.prog) w b 0 31 C _ hr Yba.underlying31 rfl (by rw [hC]; exact Yba.size31)
  simp only [Array.getD_eq_getD_getElem?] at h1 h2 h3
  simp [results, Yba.results8, h1, h2, h3, asAddr, hl]

/-- the source is at its end -/
theorem next_none (p : Nat) (a : Option Addr) (c : Nat) (w : World) (hp : p < w.heap.size) (hc : w.cell? ⟨p, 0, none⟩ = some (.slice a 0 c)) :
    Calls Yba.prog 8 #[.pointer (some ⟨p, 0, none⟩)] w fun e w' => e = .returned (.tuple #[.agg Z.toArray, .bool false, .nilIface]) ∧ w' = w.alloc (.cells Z.toArray 31) := by
  have hz := Z_ec
  have HZ : Hid (Ec Z) := hz
  clear hz
  go_enter Yba.func8, Yba.ntmps8
  go_wp2_with (first | refine wpList_alloc31 rfl rfl ?_ | refine wpList_build31 rfl rfl ?_ | (refine wpList_store31 rfl _ _ rfl w w.heap.size Z Z HZ.out.len HZ.out rfl rfl rfl ?_ ?_; (exact rfl)))
  exact bodyPost_ret (res8 _ w.heap.size Z _ _ _ rfl rfl rfl (range_new w 31 Z) HZ.out.len) rfl ⟨rfl, rfl⟩
theorem setCells_alloc_past (o' : Obj) (b : Nat) : ∀ (C : List Value) (o : Nat) (w : World), b < w.heap.size → (w.alloc o').setCells b o C = (w.setCells b o C).alloc o'
  | [], _, _, _ => rfl
  | v :: r, o, w, h => by
    rw [World.setCells, World.setCells, World.setCell_alloc_past _ _ _ _ h, setCells_alloc_past o' b r (o + 1) _ (by simpa [World.setCell] using h)]

/-- a whole entry stored into the last block but one -/
theorem wpList_store31b {ops : Array Oper} {rest : List Oper} {o : Oper} {a : Act} {W : World} {Q : Exit → Act → World → Prop} (hgd : o.guard = none) (x y : Operand) (ho : o.op = .store 31 x y) (w : World) (B : Nat) (A C : List Value) (D : Obj) (hA : A.length = 33) (hC : Ec C)
    (hx : a.eval x = .pointer (some ⟨B, 0, none⟩)) (hy : a.eval y = .agg C.toArray) (hB : w.heap.size = B) (hW : W = (w.alloc (.cells A.toArray 31)).alloc D)
    (h : wpList Yba.prog ops Q rest (a.put o.dst undef) ((w.alloc (.cells C.toArray 31)).alloc D)) : wpList Yba.prog ops Q (o :: rest) a W := by
  subst hB
  subst hW
  have hl := hC.len
  refine wpList_store_mid hgd 31 x y ho w.heap.size 0 C.toArray hx hy ?_ (by rw [Yba.size31]; simp [hl]) (all_oneCell_toArray hC.one) ?_
  · have hs : C.toArray.size = A.toArray.size := by simp [hA, hl]
    rw [hs]
    intro j hj
    have ht := there_new w 31 A.toArray j hj
    rw [World.cell?_alloc_past _ _ _ (by simp), World.frozen?_alloc_past _ _ _ (by simp)]
    exact ht
  · rw [setCells_alloc_past _ _ _ _ _ (by simp), setCells_new w 31 C A.toArray (by simp [hA, hl])]
    exact h

theorem wpList_load31 {ops : Array Oper} {rest : List Oper} {o : Oper} {a : Act} {w : World} {Q : Exit → Act → World → Prop} (hgd : o.guard = none) (x : Operand) (ho : o.op = .load 31 x) (b off : Nat) (C : List Value) (hC : C.length = 33) (hr : w.rangeAt b off C)
    (hx : a.eval x = .pointer (some ⟨b, off, none⟩)) (h : wpList Yba.prog ops Q rest (a.put o.dst (.agg C.toArray)) w) : wpList Yba.prog ops Q (o :: rest) a w :=
  wpList_load_mid hgd 31 x ho b off hx C _ hr Yba.underlying31 rfl (by rw [hC]; exact Yba.size31) h

/-- the slice behind the first element -/
def rest (g o m c : Nat) : Value := if c = 1 then .slice (some ⟨g, o, none⟩) (m - 1) 0 else .slice (some ⟨g, o + 33, none⟩) (m - 1) (c - 1)

theorem range_alloc {w : World} {b o : Nat} {C : List Value} (h : w.rangeAt b o C) (hb : b < w.heap.size) (x : Obj) : (w.alloc x).rangeAt b o C := fun j v hv => by
  rw [World.cell?_alloc_past _ _ _ hb]; exact h j v hv

theorem range_setCell {w : World} {b o p : Nat} {C : List Value} (h : w.rangeAt b o C) (hb : b ≠ p) (x : Value) : (w.setCell ⟨p, 0, none⟩ x).rangeAt b o C := fun j v hv => by
  rw [World.cell?_setCell_other _ _ _ _ (fun e => hb (congrArg Addr.block e).symm)]; exact h j v hv

/-- the source gives its next entry -/
theorem next_some (p g o m c : Nat) (C : List Value) (w : World) (hp : p < w.heap.size) (hg : g < w.heap.size) (hm : 0 < m) (hmc : m ≤ c) (hc : w.cell? ⟨p, 0, none⟩ = some (.slice (some ⟨g, o, none⟩) m c)) (hf : w.frozen? ⟨p, 0, none⟩ = false)
    (hC : Ec C) (hr : w.rangeAt g o C) :
    Calls Yba.prog 8 #[.pointer (some ⟨p, 0, none⟩)] w fun e w' => e = .returned (.tuple #[.agg C.toArray, .bool true, .nilIface]) ∧ w' = ((w.setCell ⟨p, 0, none⟩ (rest g o m c)).alloc (.cells C.toArray 31)).alloc (.cells C.toArray 31) := by
  have HZ : Hid (Ec Z) := Z_ec
  have HC : Hid (Ec C) := hC
  have h0 : ((m : Int) == 0) = false := by simp; omega
  have hp1 : p < w.heap.size + 1 := by omega
  have HR : Hid ((w.alloc (.cells Z.toArray 31)).rangeAt g o C) := range_alloc hr hg _
  have hm' : (0 : Int) < (m : Int) := by omega
  have HR2 : Hid (∀ x : Value, (((w.setCell ⟨p, 0, none⟩ x).alloc (.cells Z.toArray 31)).alloc (.cells C.toArray 31)).rangeAt (w.heap.size + 1) 0 C) := fun x => by
    have := range_new ((w.setCell ⟨p, 0, none⟩ x).alloc (.cells Z.toArray 31)) 31 C
    have e : ((w.setCell ⟨p, 0, none⟩ x).alloc (.cells Z.toArray 31)).heap.size = w.heap.size + 1 := by simp [World.setCell]
    rwa [e] at this
  have HR3 : Hid (∀ x : Value, (((w.setCell ⟨p, 0, none⟩ x).alloc (.cells C.toArray 31)).alloc (.cells C.toArray 31)).rangeAt w.heap.size 0 C) := fun x => by
    have := range_new (w.setCell ⟨p, 0, none⟩ x) 31 C
    have e : (w.setCell ⟨p, 0, none⟩ x).heap.size = w.heap.size := by simp [World.setCell]
    rw [e] at this
    exact range_alloc this (by simp [World.setCell]) _
  have HS : Hid (∀ x : Value, (w.setCell ⟨p, 0, none⟩ x).heap.size = w.heap.size) := fun x => by simp [World.setCell]
  unfold rest
  clear hC hr
  by_cases hc1 : c = 1
  · subst hc1
    obtain rfl : m = 1 := by omega
    go_enter Yba.func8, Yba.ntmps8
    go_wp2_with (first | refine wpList_alloc31 rfl rfl ?_ | (refine wpList_load31 rfl (.tmp 10) rfl g o C HC.out.len ?_ rfl ?_; (exact HR.out)) | (refine wpList_store31 rfl (.tmp 4) (.tmp 11) rfl (w.alloc (.cells Z.toArray 31)) _ Z C HZ.out.len HC.out rfl rfl ?_ ?_ ?_; (first | rfl | simp); (exact rfl)) | (refine wpList_load31 rfl (.tmp 4) rfl (w.heap.size + 1) 0 C HC.out.len ?_ rfl ?_; (exact HR2.out _)) | (refine wpList_store31b rfl (.tmp 1) (.tmp 14) rfl (w.setCell ⟨p, 0, none⟩ (.slice (some ⟨g, o, none⟩) 0 0)) w.heap.size Z C (.cells C.toArray 31) HZ.out.len HC.out rfl rfl ?_ ?_ ?_; (exact HS.out _); (exact rfl)))
    exact bodyPost_ret (v := .tuple #[.agg C.toArray, .bool true, .nilIface]) (res8 _ w.heap.size C _ _ _ rfl rfl rfl (HR3.out _) HC.out.len) rfl ⟨rfl, rfl⟩
  · have hmc' : ¬ (m : Int) = 0 := by omega
    go_enter Yba.func8, Yba.ntmps8
    go_wp2_with (first | refine wpList_alloc31 rfl rfl ?_ | (refine wpList_load31 rfl (.tmp 10) rfl g o C HC.out.len ?_ rfl ?_; (exact HR.out)) | (refine wpList_store31 rfl (.tmp 4) (.tmp 11) rfl (w.alloc (.cells Z.toArray 31)) _ Z C HZ.out.len HC.out rfl rfl ?_ ?_ ?_; (first | rfl | simp); (exact rfl)) | (refine wpList_load31 rfl (.tmp 4) rfl (w.heap.size + 1) 0 C HC.out.len ?_ rfl ?_; (exact HR2.out _)) | (refine wpList_store31b rfl (.tmp 1) (.tmp 14) rfl (w.setCell ⟨p, 0, none⟩ (.slice (some ⟨g, o + 33, none⟩) (m - 1) (c - 1))) w.heap.size Z C (.cells C.toArray 31) HZ.out.len HC.out rfl rfl ?_ ?_ ?_; (exact HS.out _); (exact rfl)))
    exact bodyPost_ret (v := .tuple #[.agg C.toArray, .bool true, .nilIface]) (res8 _ w.heap.size C _ _ _ rfl rfl rfl (HR3.out _) HC.out.len) rfl ⟨rfl, rfl⟩
end Go.Proofs.Ybulkmpi
