/-
  Orderer.certify.
-/
import Derived.Test.YbulkmnsCrt
namespace Go.Proofs.Ybulkmns
open Go.RowKit Go.MapKept
open Go.ChangeMaps (setBlock heap_setBlock_same heap_setBlock_other)
set_option linter.unusedSimpArgs false
set_option linter.unusedVariables false
attribute [local go_sem ↓] ld45 ld48 ld66 ld71 lk_eq

def muS (t : TypeId) (m k v : Value) : Sem Unit := Instr.mapUpdate t m k v
theorem mu_eq (t : TypeId) (m k v : Value) : Instr.mapUpdate t m k v = muS t m k v := rfl
def stS (t : TypeId) (p v : Value) : Sem Unit := Instr.storeAt t p v
theorem st48 (p v : Value) : Instr.storeAt 48 p v = stS 48 p v := rfl
theorem st71 (p v : Value) : Instr.storeAt 71 p v = stS 71 p v := rfl
attribute [local go_sem ↓] mu_eq st48 st71

/-- the map of certified proposals: whatever it holds, it can be written -/
def CMap (w : World) (b : Nat) : Prop := ∃ es clock, w.heap[b]? = some (.map es clock) ∧ ∀ e ∈ es.toList, ∃ l, keyOf Yba.prog 45 e.key = some l

theorem CMap.put {w : World} {b : Nat} (M : CMap w b) (p : Nat) (hp : p < 256) (x : Value) :
    ∃ es clock, (muS 39 (.map (some b)) (iv p) x).run Yba.prog w = .ok () (setBlock w b (.map es clock)) ∧ CMap (setBlock w b (.map es clock)) b := by
  obtain ⟨es, clock, hb, hk⟩ := M
  obtain ⟨l, hl⟩ := key45 p hp
  rcases law45.find w hl es.toList hk with ⟨h1, _⟩ | ⟨j, e0, h1, h2, h3⟩
  · refine ⟨es.push ⟨iv p, x, clock⟩, clock + 1, ?_, _, _, heap_setBlock_same hb _, fun e he => ?_⟩
    · simp [muS, Instr.mapUpdate, run_underlying Yba.underlying39, MapKept.run_getObj_map hb, law45.check w _ hl, h1, Result.andThen, MapKept.run_setObj_map _ hb, setBlock]
    · rcases (by simpa using he : e ∈ es.toList ∨ e = ⟨iv p, x, clock⟩) with h | h
      · exact hk e h
      · rw [h]; exact ⟨l, hl⟩
  · have hj : es[j]? = some e0 := by simpa using h2
    refine ⟨es.modify j (fun e => { e with key := iv p, val := x }), clock, ?_, _, _, heap_setBlock_same hb _, fun e he => ?_⟩
    · simp [muS, Instr.mapUpdate, run_underlying Yba.underlying39, MapKept.run_getObj_map hb, law45.check w _ hl, h1, hj, h3, law45.stays w hl, Result.andThen, MapKept.run_setObj_map _ hb, setBlock]
    · obtain ⟨i, hi⟩ := List.getElem?_of_mem he
      rw [Array.toList_modify, List.getElem?_modify] at hi
      rcases hx : es.toList[i]? with _ | y
      · rw [hx] at hi; simp at hi
      · rw [hx] at hi
        simp at hi
        by_cases hji : j = i
        · rw [if_pos hji] at hi; rw [← hi]; exact ⟨l, hl⟩
        · rw [if_neg hji] at hi; rw [← hi]; exact hk y (List.mem_of_getElem? hx)

theorem Chg.setBlock {S : List Nat} {a w : World} (h : Chg S a w) (b : Nat) (hb : b ∈ S) {es : Array MapEntry} {clock : Nat} (hm : w.heap[b]? = some (.map es clock)) (o : Obj) : Chg S a (setBlock w b o) :=
  h.trans ⟨rfl, rfl, rfl, by simp [ChangeMaps.setBlock], fun k _ hk => heap_setBlock_other hm o (fun e => hk (by rw [e]; exact hb))⟩

def qc (v p : Nat) (X : Value) : List Value := .int .u64 v :: (ic p ++ [X])
theorem qc_len (v p : Nat) (X : Value) : (qc v p X).length = 34 := by simp [qc, ic_len]
theorem qc_id (v p : Nat) (X : Value) {w : World} {b o : Nat} (h : w.rangeAt b o (qc v p X)) : w.rangeAt b (o + 1) (ic p) := fun j x hj => by
  have := h (j + 1) x (by
    have hl : j < 32 := by have := (List.getElem?_eq_some_iff.1 hj).1; rwa [ic_len] at this
    unfold qc
    rw [List.getElem?_cons_succ, List.getElem?_append_left (by rw [ic_len]; exact hl)]
    exact hj)
  rwa [show o + (j + 1) = o + 1 + j by omega] at this
theorem ldS48 (b o v p : Nat) (X : Value) (w : World) (h : w.rangeAt b o (qc v p X)) : (ldS 48 (.pointer (some ⟨b, o, none⟩))).run Yba.prog w = .ok (.agg (qc v p X).toArray) w :=
  run_loadAt_mid w b o 48 (qc v p X) _ h Yba.underlying48 rfl (by rw [qc_len]; exact size48)

theorem wpList_store48 {ops : Array Oper} {rest : List Oper} {o : Oper} {a : Act} {w : World} {Q : Exit → Act → World → Prop} (hgd : o.guard = none) (x y : Operand) (ho : o.op = .store 48 x y) (B off v p : Nat) (X : Value)
    (hx : a.eval x = .pointer (some ⟨B, off, none⟩)) (hy : a.eval y = .agg (qc v p X).toArray) (ht : w.there B off (qc v p X).toArray.size) (h1 : ∀ u ∈ qc v p X, u.oneCell' = true)
    (h : wpList Yba.prog ops Q rest (a.put o.dst undef) (w.setCells B off (qc v p X))) : wpList Yba.prog ops Q (o :: rest) a w :=
  wpList_store_mid hgd 48 x y ho B off (qc v p X).toArray hx hy ht (by rw [List.size_toArray, qc_len]; exact size48) (all_oneCell_toArray h1) h

theorem wpList_load48 {ops : Array Oper} {rest : List Oper} {o : Oper} {a : Act} {w : World} {Q : Exit → Act → World → Prop} (hgd : o.guard = none) (x : Operand) (ho : o.op = .load 48 x) (b off v p : Nat) (X : Value) (hr : w.rangeAt b off (qc v p X))
    (hx : a.eval x = .pointer (some ⟨b, off, none⟩)) (h : wpList Yba.prog ops Q rest (a.put o.dst (.agg (qc v p X).toArray)) w) : wpList Yba.prog ops Q (o :: rest) a w :=
  wpList_load_mid hgd 48 x ho b off hx (qc v p X) _ hr Yba.underlying48 rfl (by rw [qc_len]; exact size48) h

theorem splice_get (A A' : Array Value) (Q : List Value) (hA : A.size = 102) (hQ : Q.length = 34) (e3 : A'.toList = A.toList.take 10 ++ Q ++ A.toList.drop (10 + Q.length)) :
    (∀ j, j < 10 ∨ 44 ≤ j → A'[j]? = A[j]?) ∧ A'[10]? = Q[0]? := by
  have hAl : A.toList.length = 102 := by simpa using hA
  have ht : (A.toList.take 10).length = 10 := by rw [List.length_take, hAl]; rfl
  have key : ∀ j, A'[j]? = (A.toList.take 10 ++ Q ++ A.toList.drop (10 + Q.length))[j]? := fun j => by rw [← Array.getElem?_toList, e3]
  refine ⟨fun j hj => ?_, ?_⟩
  · rw [key, ← Array.getElem?_toList]
    rcases hj with hj | hj
    · rw [List.append_assoc, List.getElem?_append_left (by rw [ht]; exact hj), List.getElem?_take, if_pos hj]
    · have hl : (A.toList.take 10 ++ Q).length = 44 := by rw [List.length_append, ht, hQ]
      rw [List.getElem?_append_right (by rw [hl]; exact hj), hl, List.getElem?_drop, hQ, show 10 + 34 + (j - 44) = j by omega]
  · rw [key, List.append_assoc, List.getElem?_append_right (by rw [ht]; exact Nat.le_refl _), ht, List.getElem?_append_left (by rw [hQ]; omega)]

set_option maxRecDepth 100000 in
set_option maxHeartbeats 400000 in
theorem certify_at (O Cm v p h : Nat) (X : Value) (hX : X.oneCell' = true) (A : Array Value) (w : World) (hp : p < 256) (hO : w.heap[O]? = some (.cells A 59 (0, 0))) (hA : A.size = 102)
    (h48 : A[48]? = some (.map (some Cm))) (h47 : A[47]? = some (.map none)) (h10 : A[10]? = some (.int .u64 h)) (M : CMap w Cm) :
    Calls Yba.prog 8 #[.pointer (some ⟨O, 0, none⟩), .agg (qc v p X).toArray] w fun e w' => e = .returned (.tuple #[]) ∧ Chg [O, Cm] w w' ∧ CMap w' Cm ∧
      ∃ A' : Array Value, w'.heap[O]? = some (.cells A' 59 (0, 0)) ∧ A'.size = 102 ∧ (∀ j, j < 10 ∨ 44 ≤ j → A'[j]? = A[j]?) ∧ ∃ h' : Nat, A'[10]? = some (.int .u64 h') := by
  have hOl : O < w.heap.size := (Array.getElem?_eq_some_iff.1 hO).1
  have hCl : Cm < w.heap.size := by obtain ⟨_, _, hm, _⟩ := M; exact (Array.getElem?_eq_some_iff.1 hm).1
  have hOC : O ≠ Cm := fun e => by obtain ⟨_, _, hm, _⟩ := M; rw [← e, hO] at hm; cases hm
  have hch : Chg [O, Cm] w (w.alloc (.cells (qc v p X).toArray 48)) := (Chg.refl _ w).alloc _
  have hr : (w.alloc (.cells (qc v p X).toArray 48)).rangeAt w.heap.size 0 (qc v p X) := range_new w 48 _
  have hO1 : (w.alloc (.cells (qc v p X).toArray 48)).heap[O]? = some (.cells A 59 (0, 0)) := (Below.heap_alloc w _ O hOl).trans hO
  have M1 : CMap (w.alloc (.cells (qc v p X).toArray 48)).drew Cm := by
    obtain ⟨es, clock, hm, hk⟩ := M
    exact ⟨es, clock, (Below.heap_alloc w _ Cm hCl).trans hm, hk⟩
  have hs1 : (w.alloc (.cells (qc v p X).toArray 48)).heap.size = w.heap.size + 1 := by simp
  obtain ⟨bx, hbx⟩ : ∃ bx, bx = w.heap.size := ⟨_, rfl⟩
  obtain ⟨es2, cl2, hrun, M2⟩ := M1.put p hp (.int .u64 v)
  have HCH : Hid (Chg [O, Cm] w (w.alloc (.cells (qc v p X).toArray 48))) := hch
  rw [← hbx] at hr hs1
  go_enter Yba.func8, Yba.ntmps8
  go_wp2_with (first | refine wpList_box rfl 48 (.tmp 1) (qc v p X).toArray rfl rfl ?_)
  rw [← hbx]
  generalize w.alloc (.cells (qc v p X).toArray 48) = w1 at *
  have c48 : w1.cell? ⟨O, 48, none⟩ = some (.map (some Cm)) := cell_of hO1 48 _ h48
  have hid : w1.rangeAt bx 1 (ic p) := qc_id v p X hr
  have c0 : w1.cell? ⟨bx, 0, none⟩ = some (.int .u64 v) := hr 0 _ rfl
  have hld : ∀ w' : World, w'.rangeAt bx 1 (ic p) → (ldS 45 (.pointer (some ⟨bx, 1, none⟩))).run Yba.prog w' = .ok (.agg (ic p).toArray) w' := ldS45 bx 1 p
  have hmu : (muS 39 (.map (some Cm)) (.agg (ic p).toArray) (.int .u64 v)).run Yba.prog w1.drew = .ok () (setBlock w1.drew Cm (.map es2 cl2)) := hrun
  have hu := Yba.underlying45
  have hsz : (Yba.prog.info? 45).map (·.size) = some (ic p).length := by rw [ic_len]; exact size45
  have hil := ic_len p
  generalize hW2 : setBlock w1.drew Cm (.map es2 cl2) = w2 at *
  obtain ⟨esM, clM, hmM, _⟩ := M1
  have hbC : bx ≠ Cm := by omega
  have hr2 : w2.rangeAt bx 0 (qc v p X) := fun j x hx => by
    rw [← hW2, World.cell?_of_block (w := w1) (heap_setBlock_other (w := w1.drew) (b := Cm) hmM _ hbC)]
    exact hr j x hx
  have hO2 : w2.heap[O]? = some (.cells A 59 (0, 0)) := by
    rw [← hW2, heap_setBlock_other (w := w1.drew) (b := Cm) hmM _ hOC]
    exact hO1
  have hch2 : Chg [O, Cm] w w2 := by
    rw [← hW2]
    exact hch.drew.setBlock Cm (by simp) hmM _
  have hs2 : w2.heap.size = bx + 1 := by rw [← hW2]; simp only [setBlock, Array.size_setIfInBounds]; exact hs1
  have HR2 : Hid (w2.rangeAt bx 0 (qc v p X)) := hr2
  have HO2 : Hid (w2.heap[O]? = some (.cells A 59 (0, 0))) := hO2
  have HC2 : Hid (Chg [O, Cm] w w2) := hch2
  have HM2 : Hid (CMap w2 Cm) := M2
  have HS2 : Hid (w2.heap.size = bx + 1) := hs2
  have HBX : Hid (bx = w.heap.size) := hbx
  clear hr hO1 hmM hO M hch hW2 hr2 hO2 hch2 M2 hs1 hs2 hbx hrun
  go_wp2_with fail
  have k48 : w2.cell? ⟨O, 48, none⟩ = some (.map (some Cm)) := cell_of HO2.out 48 _ h48
  have kid : w2.rangeAt bx 1 (ic p) := qc_id v p X HR2.out
  have k0 : w2.cell? ⟨bx, 0, none⟩ = some (.int .u64 v) := HR2.out 0 _ rfl
  go_region_held3 (fun w' => w'.cell? ⟨O, 48, none⟩ = some (.map (some Cm)) ∧ w'.rangeAt bx 1 (ic p) ∧ w'.cell? ⟨bx, 0, none⟩ = some (.int .u64 v)) (first | exact ⟨k48, kid, k0⟩ | (go_keep_ranges; done)) (fail)
  clear k48 kid k0 hmu hid c48 c0 hld
  have c0 : w2.cell? ⟨bx, 0, none⟩ = some (.int .u64 v) := HR2.out 0 _ rfl
  have c10 : w2.cell? ⟨O, 10, none⟩ = some (.int .u64 h) := cell_of HO2.out 10 _ h10
  go_wp2_with fail
  go_region_held3 (fun w' => w'.cell? ⟨O, 10, none⟩ = some (.int .u64 h) ∧ w'.cell? ⟨bx, 0, none⟩ = some (.int .u64 v)) (go_keep) (fail)
  clear c0 c10
  have hlO : O < w2.heap.size := by have := HS2.out; have := HBX.out; omega
  by_cases hvh : h < v
  · have t1 : decide ((h : Int) < (v : Int)) = true := by simp; omega
    have ht : w2.drew.there O 10 (qc v p X).toArray.size := fun j hj => by
      have hj' : j < 34 := by simpa [qc_len] using hj
      refine ⟨?_, frozen_of (w := w2) HO2.out (10 + j)⟩
      have : 10 + j < A.size := by omega
      have e := cell_of (w := w2) HO2.out (10 + j) A[10 + j] (by simp [this])
      show (w2.cell? _).isSome = true
      rw [e]
      rfl
    have HT : Hid (w2.drew.there O 10 (qc v p X).toArray.size) := ht
    have HQ : Hid (∀ u ∈ qc v p X, u.oneCell' = true) := by
      intro u hu
      rcases List.mem_cons.1 hu with rfl | h
      · rfl
      · rcases List.mem_append.1 h with h | h
        · rcases List.mem_cons.1 h with rfl | h
          · rfl
          · rw [List.eq_of_mem_replicate h]; rfl
        · rw [List.mem_singleton.1 h]; exact hX
    obtain ⟨A', e1, e2, e3⟩ := setCells_heap 59 O (qc v p X) 10 w2.drew A HO2.out (by rw [qc_len]; omega)
    have hbO : bx ≠ O := by have := HBX.out; omega
    have hr3 : (w2.drew.setCells O 10 (qc v p X)).rangeAt bx 1 (ic p) := fun j x hx => by
      rw [World.cell?_of_block (w := w2) (heap_setCells_other O _ _ w2.drew bx hbO)]
      exact qc_id v p X HR2.out j x hx
    have hs3 : (w2.drew.setCells O 10 (qc v p X)).heap.size = w2.heap.size := size_setCells O _ _ w2.drew
    have hC3 : Chg [O, Cm] w (w2.drew.setCells O 10 (qc v p X)) := HC2.out.drew.setCells O 10 (by simp) _
    have hM3 : CMap (w2.drew.setCells O 10 (qc v p X)) Cm := by
      obtain ⟨es, cl, hm, hk⟩ := HM2.out
      exact ⟨es, cl, (heap_setCells_other O _ _ w2.drew Cm (Ne.symm hOC)).trans hm, hk⟩
    have L45 : Hid ((ldS 45 (.pointer (some ⟨bx, 1, none⟩))).run Yba.prog (w2.drew.setCells O 10 (qc v p X)) = .ok (.agg (ic p).toArray) (w2.drew.setCells O 10 (qc v p X))) := ldS45 bx 1 p _ hr3
    have HF : Hid (Chg [O, Cm] w (w2.drew.setCells O 10 (qc v p X)) ∧ CMap (w2.drew.setCells O 10 (qc v p X)) Cm ∧ (w2.drew.setCells O 10 (qc v p X)).heap.size = w2.heap.size ∧ (w2.drew.setCells O 10 (qc v p X)).heap[O]? = some (.cells A' 59 (0, 0)) ∧ A'.size = 102 ∧ (∀ j, j < 10 ∨ 44 ≤ j → A'[j]? = A[j]?) ∧ A'[10]? = some (.int .u64 v)) := by
      have hsp := splice_get A A' (qc v p X) hA (qc_len v p X) e3
      exact ⟨hC3, hM3, hs3, e1, e2.trans hA, hsp.1, hsp.2⟩
    have hst : (stS 48 (.pointer (some ⟨O, 10, none⟩)) (.agg (qc v p X).toArray)).run Yba.prog w2.drew = .ok () (w2.drew.setCells O 10 (qc v p X)) :=
      run_storeAt_mid w2.drew O 10 48 (qc v p X).toArray HT.out (by rw [List.size_toArray, qc_len]; exact size48) (all_oneCell_toArray HQ.out)
    have l48 : (ldS 48 (.pointer (some ⟨bx, 0, none⟩))).run Yba.prog w2.drew = .ok (.agg (qc v p X).toArray) w2.drew := ldS48 bx 0 v p X w2.drew HR2.out
    clear ht e1 e2 e3 hr3 hs3 hC3 hM3 hbO HT HQ
    generalize w2.drew.setCells O 10 (qc v p X) = w3 at *
    have l45 := L45.out
    go_wp2_with fail
    have hlO3 : O < w3.heap.size := by have := HF.out.2.2.1; omega
    have c47 : w3.cell? ⟨O, 47, none⟩ = some (.map none) := cell_of HF.out.2.2.2.1 47 _ ((HF.out.2.2.2.2.2.1 47 (by omega)).trans h47)
    refine (held_none O p hp w3 hlO3 c47).mono ?_
    rintro e w4 ⟨rfl, hc4⟩
    have HF4 : Hid (Chg [O, Cm] w w4 ∧ CMap w4 Cm ∧ w4.heap[O]? = some (.cells A' 59 (0, 0))) := by
      refine ⟨HF.out.1.trans (hc4.mono (by simp)), ?_, (hc4.block O hlO3 (by simp)).trans HF.out.2.2.2.1⟩
      obtain ⟨es, cl, hm, hk⟩ := HF.out.2.1
      exact ⟨es, cl, (hc4.block Cm (Array.getElem?_eq_some_iff.1 hm).1 (by simp)).trans hm, hk⟩
    clear hc4 hst l48 l45 c47
    go_wp2_with fail
    go_end0
    exact ⟨rfl, HF4.out.1, HF4.out.2.1, A', HF4.out.2.2, HF.out.2.2.2.2.1, HF.out.2.2.2.2.2.1, v, HF.out.2.2.2.2.2.2⟩
  · have t1 : decide ((h : Int) < (v : Int)) = false := by simp; omega
    have l45 : (ldS 45 (.pointer (some ⟨bx, 1, none⟩))).run Yba.prog w2.drew = .ok (.agg (ic p).toArray) w2.drew := ldS45 bx 1 p w2.drew (qc_id v p X HR2.out)
    go_wp2_with fail
    refine (held_none O p hp w2.drew hlO (cell_of (w := w2) HO2.out 47 _ h47)).mono ?_
    rintro e w4 ⟨rfl, hc4⟩
    have HF4 : Hid (Chg [O, Cm] w w4 ∧ CMap w4 Cm ∧ w4.heap[O]? = some (.cells A 59 (0, 0))) := by
      refine ⟨HC2.out.trans ((Chg.refl _ w2).drew.trans (hc4.mono (by simp))), ?_, (hc4.block O hlO (by simp)).trans HO2.out⟩
      obtain ⟨es, cl, hm, hk⟩ := HM2.out
      exact ⟨es, cl, (hc4.block Cm (Array.getElem?_eq_some_iff.1 hm).1 (by simp)).trans hm, hk⟩
    clear hc4
    go_wp2_with fail
    go_end0
    exact ⟨rfl, HF4.out.1, HF4.out.2.1, A, HF4.out.2.2, hA, fun _ _ => rfl, h, h10⟩
end Go.Proofs.Ybulkmns
