/-
  ballot.remove.
-/
import Derived.Test.YbulkmnsVot
import Derived.Laws.Unary
import Derived.Laws.Slices
namespace Go.Proofs.Ybulkmns
open Go.RowKit
set_option linter.unusedSimpArgs false
set_option linter.unusedVariables false

theorem size66 : (Yba.prog.info? 66).map (·.size) = some 65 := by kernel_rfl
theorem info66 : (Yba.prog.info? 66).map (fun i => (i.zero, i.size, i.bytes)) = some (some (.agg (sc 0).toArray), 65, 72) := by kernel_rfl

theorem wpList_alloc66 {ops : Array Oper} {rest : List Oper} {o : Oper} {a : Act} {w : World} {Q : Exit → Act → World → Prop} (hgd : o.guard = none) (ho : o.op = .alloc 66)
    (h : wpList Yba.prog ops Q rest (a.put o.dst (.pointer (some ⟨w.heap.size, 0, none⟩))) (w.alloc (.cells (sc 0).toArray 66))) : wpList Yba.prog ops Q (o :: rest) a w := by
  have hr : (Instr.alloc 66 true (.tuple #[])).run Yba.prog w = .ok (.pointer (some ⟨w.heap.size, 0, none⟩)) (w.alloc (.cells (sc 0).toArray 66)) := by kernel_rfl
  refine wpList_plain hgd fun _ hK => ?_
  unfold Oper.wp execOp
  simp only [ho, Sem.run_bind, hr, Result.andThen_ok, Sem.run_pure]
  exact hK _ _ h

theorem setCells_alloc (w : World) (t : TypeId) : ∀ (C : List Value) (o : Nat) (A : Array Value), A.size = o + C.length → (w.alloc (.cells A t)).setCells w.heap.size o C = w.alloc (.cells (A.toList.take o ++ C).toArray t)
  | [], o, A, h => by
    rw [World.setCells, List.append_nil, List.take_of_length_le (by simpa using Nat.le_of_eq h)]
  | v :: r, o, A, h => by
    simp only [List.length_cons] at h
    rw [World.setCells, World.setCell_alloc_at _ _ _ _ _ rfl, setCells_alloc w t r (o + 1) (A.setIfInBounds o v) (by simp; omega)]
    congr 3
    have hlt : o < A.toList.length := by simp; omega
    rw [Array.toList_setIfInBounds, List.take_succ_eq_append_getElem (by simpa using hlt)]
    simp [List.take_set_of_le]
theorem setCells_new (w : World) (t : TypeId) (C : List Value) (A : Array Value) (h : A.size = C.length) : (w.alloc (.cells A t)).setCells w.heap.size 0 C = w.alloc (.cells C.toArray t) := by
  rw [setCells_alloc w t C 0 A (by omega)]
  simp
theorem there_new (w : World) (t : TypeId) (A : Array Value) : (w.alloc (.cells A t)).there w.heap.size 0 A.size := fun j hj => by
  rw [World.cell?_alloc_at _ _ _ _ rfl, World.frozen?_alloc_at _ _ _ _ rfl]
  simp [hj]
/-- a whole aggregate stored into a block that was just laid -/
theorem wpList_storeNew {ops : Array Oper} {rest : List Oper} {o : Oper} {a : Act} {W : World} {Q : Exit → Act → World → Prop} (t : TypeId) (hgd : o.guard = none) (x y : Operand) (ho : o.op = .store t x y) (w : World) (B : Nat) (A C : List Value)
    (hsz : (Yba.prog.info? t).map (·.size) = some C.length) (hA : A.length = C.length) (h1 : ∀ u ∈ C, u.oneCell' = true)
    (hx : a.eval x = .pointer (some ⟨B, 0, none⟩)) (hy : a.eval y = .agg C.toArray) (hB : w.heap.size = B) (hW : W = w.alloc (.cells A.toArray t))
    (h : wpList Yba.prog ops Q rest (a.put o.dst undef) (w.alloc (.cells C.toArray t))) : wpList Yba.prog ops Q (o :: rest) a W := by
  subst hB
  subst hW
  refine wpList_store_mid hgd t x y ho w.heap.size 0 C.toArray hx hy ?_ (by rw [hsz]; simp) (all_oneCell_toArray h1) ?_
  · have hs : C.toArray.size = A.toArray.size := by simp [hA]
    rw [hs]
    exact there_new w t A.toArray
  · rw [setCells_new w t C A.toArray (by simp [hA])]
    exact h
theorem wpList_load66 {ops : Array Oper} {rest : List Oper} {o : Oper} {a : Act} {w : World} {Q : Exit → Act → World → Prop} (hgd : o.guard = none) (x : Operand) (ho : o.op = .load 66 x) (b off i : Nat) (hr : w.rangeAt b off (sc i))
    (hx : a.eval x = .pointer (some ⟨b, off, none⟩)) (h : wpList Yba.prog ops Q rest (a.put o.dst (.agg (sc i).toArray)) w) : wpList Yba.prog ops Q (o :: rest) a w :=
  wpList_load_mid hgd 66 x ho b off hx (sc i) _ hr Yba.underlying66 rfl (by rw [sc_len]; exact size66) h

theorem heap_setCells_other (b : Nat) : ∀ (news : List Value) (o : Nat) (w : World) (k : Nat), k ≠ b → (w.setCells b o news).heap[k]? = w.heap[k]?
  | [], _, _, _, _ => rfl
  | v :: r, o, w, k, h => by rw [World.setCells, heap_setCells_other b r (o + 1) _ k h, heap_setCell_other _ _ _ _ h]
theorem size_setCells (b : Nat) : ∀ (news : List Value) (o : Nat) (w : World), (w.setCells b o news).heap.size = w.heap.size
  | [], _, _ => rfl
  | v :: r, o, w => by rw [World.setCells, size_setCells b r (o + 1)]; simp [World.setCell]
theorem os_setCells (b : Nat) : ∀ (news : List Value) (o : Nat) (w : World), (w.setCells b o news).os = w.os ∧ (w.setCells b o news).tape = w.tape ∧ (w.setCells b o news).output = w.output
  | [], _, _ => ⟨rfl, rfl, rfl⟩
  | v :: r, o, w => by rw [World.setCells]; exact os_setCells b r (o + 1) (w.setCell ⟨b, o, none⟩ v)
theorem setCells_drew (b : Nat) : ∀ (news : List Value) (o : Nat) (w : World), (w.drew.setCells b o news).heap[b]? = (w.setCells b o news).heap[b]?
  | [], _, _ => rfl
  | v :: r, o, w => by
    rw [World.setCells, World.setCells, ← setCells_drew b r (o + 1) (w.setCell ⟨b, o, none⟩ v)]
    rfl
theorem Chg.setCells {S : List Nat} {a w : World} (h : Chg S a w) (b o : Nat) (hb : b ∈ S) (news : List Value) : Chg S a (w.setCells b o news) :=
  h.trans ⟨(os_setCells b news o w).1, (os_setCells b news o w).2.1, (os_setCells b news o w).2.2, by rw [size_setCells]; exact Nat.le_refl _, fun k _ hk => heap_setCells_other b news o w k (fun e => hk (by rw [e]; exact hb))⟩

set_option maxRecDepth 100000 in
set_option maxHeartbeats 1000000 in
theorem bremove_unset (B C G gv nv cg : Nat) (st : Nat → Nat) (T m s i : Nat) (X : Value) (w : World) (hi : i < nv) (hnv : nv ≤ 4)
    (hB : w.heap[B]? = some (tb C s X)) (hC : w.heap[C]? = some (tc m)) (hb : bits .and .u64 (m : Int) (p2 i) = 0) :
    Calls Yba.prog 5 #[.pointer (some ⟨B, 0, none⟩), .pointer (some ⟨G, 0, none⟩), .int .i64 i] w fun e w' => e = .returned (.tuple #[]) ∧ w' = w.drew := by
  have HT : Hid (Calls Yba.prog 10 #[.pointer (some ⟨B, 0, none⟩), .pointer (some ⟨G, 0, none⟩), .int .i64 i] w fun e w' => e = .returned (.bool false) ∧ w' = w.drew) := tremove_unset B C G gv nv cg st T m s i X w hi hnv hB hC hb
  clear hB hC hb
  go_enter Yba.func5, Yba.ntmps5
  go_wp2_with fail
  refine HT.out.mono ?_
  rintro e w' ⟨rfl, rfl⟩
  go_wp2_with fail
  exact bodyPost_ret (results_none rfl _ _ _) rfl ⟨rfl, rfl⟩

set_option maxRecDepth 100000 in
set_option maxHeartbeats 2000000 in
theorem bremove_set (B C V G gv nv cg cap : Nat) (st : Nat → Nat) (T m m' s i : Nat) (l1 l2 : List Nat) (w : World) (hi : i < nv) (hnv : nv ≤ 4) (gen : Gen w G gv nv cg st T)
    (hB : w.heap[B]? = some (tb C s (.slice (some ⟨V, 0, none⟩) (l1 ++ i :: l2).length cap))) (hC : w.heap[C]? = some (tc m)) (hV : Vt w V cap (l1 ++ i :: l2)) (hl1 : ∀ x ∈ l1, x ≠ i) (hsm : (l1 ++ i :: l2).length ≤ 4)
    (hGB : G ≠ B) (hGC : G ≠ C) (hvB : gv ≠ B) (hvC : gv ≠ C) (hb : bits .and .u64 (m : Int) (p2 i) = p2 i) (hm' : bits .andNot .u64 (m : Int) (p2 i) = m') (hs : st i ≤ s) (hs2 : s < 2 ^ 16) :
    Calls Yba.prog 5 #[.pointer (some ⟨B, 0, none⟩), .pointer (some ⟨G, 0, none⟩), .int .i64 i] w fun e w' => e = .returned (.tuple #[]) ∧
      Chg [B, C, V] w w' ∧ w'.heap[B]? = some (tb C (s - st i) (.slice (some ⟨V, 0, none⟩) (l1 ++ l2).length cap)) ∧ w'.heap[C]? = some (tc m') ∧ Vt w' V cap (l1 ++ l2) := by
  have hBV : B ≠ V := fun e => by obtain ⟨_, _, cur, h, _⟩ := hV; rw [e, h] at hB; cases hB
  have hCV : C ≠ V := fun e => by obtain ⟨_, _, cur, h, _⟩ := hV; rw [e, h] at hC; cases hC
  have hVl : V < w.heap.size := by obtain ⟨_, _, cur, h, _⟩ := hV; exact (Array.getElem?_eq_some_iff.1 h).1
  have HT : Hid (Calls Yba.prog 10 #[.pointer (some ⟨B, 0, none⟩), .pointer (some ⟨G, 0, none⟩), .int .i64 i] w fun e w' => e = .returned (.bool true) ∧
      Chg [B, C] w w' ∧ w'.heap.size = w.heap.size ∧ w'.heap[B]? = some (tb C (s - st i) (.slice (some ⟨V, 0, none⟩) (l1 ++ i :: l2).length cap)) ∧ w'.heap[C]? = some (tc m')) :=
    tremove_set B C G gv nv cg st T m m' s i _ w hi hnv gen hB hC hGB hGC hvB hvC hb hm' hs hs2
  have HV : Hid (Vt w V cap (l1 ++ i :: l2)) := hV
  have HL : Hid (∀ x ∈ l1, x ≠ i) := hl1
  clear hB hC hV gen hb hm' hl1
  generalize hn : (l1 ++ i :: l2).length = n at *
  have hnl : Hid (n = l1.length + l2.length + 1) := by show n = _; rw [← hn]; simp; omega
  have HN : Hid ((l1 ++ i :: l2).length = n) := hn
  clear hn
  go_enter Yba.func5, Yba.ntmps5
  go_wp2_with fail
  refine HT.out.mono ?_
  rintro e W ⟨rfl, hch, hsz, hB, hC⟩
  have HC : Hid (Chg [B, C, V] w W) := hch.mono (fun x hx => .inl (by simp at hx ⊢; omega))
  have HVW : Hid (Vt W V cap (l1 ++ i :: l2)) := HV.out.keep (hch.block V hVl (by simp; omega))
  have HBW : Hid (W.heap[B]? = some (tb C (s - st i) (.slice (some ⟨V, 0, none⟩) n cap))) := hB
  have HCW : Hid (W.heap[C]? = some (tc m')) := hC
  have c2 : W.cell? ⟨B, 2, none⟩ = some (.slice (some ⟨V, 0, none⟩) n cap) := cell_of hB 2 _ rfl
  clear hch hB hC HT
  go_wp2_with fail
  clear c2
  go_loopw [20] (fun v wr => ∃ k : Nat, k ≤ l1.length ∧ v = .int .i64 k ∧ Chg [] W wr) (fun v _ => n - (intOf v).toNat)
  case atStart => exact ⟨0, Nat.zero_le _, rfl, Chg.refl _ _⟩
  case round =>
    obtain ⟨k, hk, rfl, hkp⟩ := hrel
    have hBr : wr.heap[B]? = some (tb C (s - st i) (.slice (some ⟨V, 0, none⟩) n cap)) := (hkp.block B (Array.getElem?_eq_some_iff.1 HBW.out).1 (by simp)).trans HBW.out
    have hCr : wr.heap[C]? = some (tc m') := (hkp.block C (Array.getElem?_eq_some_iff.1 HCW.out).1 (by simp)).trans HCW.out
    have hVr : Vt wr V cap (l1 ++ i :: l2) := HVW.out.keep (hkp.block V (by omega) (by simp))
    have HKP : Hid (Chg [] W wr) := hkp
    have HBR : Hid (wr.heap[B]? = some (tb C (s - st i) (.slice (some ⟨V, 0, none⟩) n cap))) := hBr
    have HCR : Hid (wr.heap[C]? = some (tc m')) := hCr
    have HVR : Hid (Vt wr V cap (l1 ++ i :: l2)) := hVr
    clear hkp hBr hCr hVr
    have hkn : (k : Int) < (n : Int) := by have := hnl.out; omega
    have hk0 : (0 : Int) ≤ (k : Int) := by omega
    obtain ⟨x, hx⟩ : ∃ x, (l1 ++ i :: l2)[k]? = some x := by
      have : k < (l1 ++ i :: l2).length := by rw [HN.out]; omega
      exact ⟨_, List.getElem?_eq_getElem this⟩
    have hs0 : (sc x)[0]? = some (.int .i64 x) := rfl
    have HX : Hid (wr.rangeAt V (k * 65) (sc x)) := HVR.out.range hx
    by_cases hlt : k < l1.length
    · have hxi : ((x : Int) == (i : Int)) = false := by
        rw [List.getElem?_append_left hlt] at hx
        have := HL.out x (List.mem_of_getElem? hx)
        simp
        omega
      go_wp2_with (first | (refine wpList_load66 rfl (.tmp 23) rfl V (k * 65) x ?_ rfl ?_; (exact HX.out)) | refine wpList_alloc66 rfl rfl ?_ | (refine wpList_storeNew 66 rfl (.tmp 7) (.tmp 24) rfl wr _ (sc 0) (sc x) (by rw [sc_len]; exact size66) (by rw [sc_len, sc_len]) (sc_one x) rfl rfl ?_ ?_ ?_; (first | rfl | simp); (exact rfl)))
      have HA : Hid (Chg [] W (wr.alloc (.cells (sc x).toArray 66))) := HKP.out.alloc _
      go_roundw
      case rel => exact ⟨k + 1, by omega, by go_num, HA.out⟩
      case measure => simp [intOf]; omega
    · have hkl : Hid (k = l1.length) := by show k = _; omega
      have hxi : x = i := by
        rw [hkl.out] at hx
        simpa using hx.symm
      clear hk hlt hx
      subst hxi
      go_wp2_with (first | (refine wpList_load66 rfl (.tmp 23) rfl V (k * 65) x ?_ rfl ?_; (exact HX.out)) | refine wpList_alloc66 rfl rfl ?_ | (refine wpList_storeNew 66 rfl (.tmp 7) (.tmp 24) rfl wr _ (sc 0) (sc x) (by rw [sc_len]; exact size66) (by rw [sc_len, sc_len]) (sc_one x) rfl rfl ?_ ?_ ?_; (first | rfl | simp); (exact rfl)))
      have hch1 : Chg [] W (wr.alloc (.cells (sc x).toArray 66)) := HKP.out.alloc _
      have HB1 : Hid ((wr.alloc (.cells (sc x).toArray 66)).heap[B]? = some (tb C (s - st x) (.slice (some ⟨V, 0, none⟩) n cap))) := (hch1.block B (Array.getElem?_eq_some_iff.1 HBW.out).1 (by simp)).trans HBW.out
      have HC1 : Hid ((wr.alloc (.cells (sc x).toArray 66)).heap[C]? = some (tc m')) := (hch1.block C (Array.getElem?_eq_some_iff.1 HCW.out).1 (by simp)).trans HCW.out
      have HV1 : Hid (Vt (wr.alloc (.cells (sc x).toArray 66)) V cap (l1 ++ x :: l2)) := HVW.out.keep (hch1.block V (by omega) (by simp))
      have HK1 : Hid (Chg [] W (wr.alloc (.cells (sc x).toArray 66))) := hch1
      clear hch1 HBR HCR HVR HKP HX
      generalize wr.alloc (.cells (sc x).toArray 66) = w1 at *
      obtain ⟨i0, hi0, hz0, hz1, hz2⟩ := info_parts info66
      have hle : n ≤ cap := by have := HV1.out.le; rwa [HN.out] at this
      have h2 : ∀ j u, (scs l2)[j]? = some u → w1.cell? ⟨V, (k + 1) * 65 + j, none⟩ = some u := fun j u hu => by
        refine HV1.out.cell ?_
        unfold scs at hu ⊢
        have e1 := scs_len l1
        unfold scs at e1
        rw [List.flatMap_append, List.getElem?_append_right (by rw [e1, ← hkl.out]; omega), List.flatMap_cons, List.getElem?_append_right (by rw [e1, ← hkl.out, sc_len]; omega), e1, ← hkl.out, sc_len, ← hu]
        congr 1
        omega
      have hll : l2.length = n - (k + 1) := by have := hnl.out; have := hkl.out; omega
      obtain ⟨A, hA, hnews⟩ : ∃ A : Addr, (if cap = k + 1 then some (⟨V, 0, none⟩ : Addr) else some ⟨V, (k + 1) * 65, none⟩) = some A ∧ Hid (∀ j u, (scs l2)[j]? = some u → w1.drew.cell? (A.add j) = some u) := by
        by_cases h : cap = k + 1
        · refine ⟨⟨V, 0, none⟩, by simp [h], fun j u hu => ?_⟩
          have h0 : (scs l2).length = 0 := by rw [scs_len, hll]; omega
          rw [List.length_eq_zero_iff.1 h0] at hu
          simp at hu
        · refine ⟨⟨V, (k + 1) * 65, none⟩, by simp [h], fun j u hu => ?_⟩
          rw [Addr.add_lit]
          exact h2 j u hu
      have s1 : Hid ((scs l2).length = (n - (k + 1)) * 65) := by show _ = _; rw [scs_len, hll]
      have s2 : Hid (∀ u ∈ scs l2, u.oneCell' = true) := scs_one l2
      have s3 : Hid (∀ j, j < (scs l2).length → (w1.drew.cell? ⟨V, 0 + k * 65 + j, none⟩).isSome = true ∧ w1.drew.frozen? ⟨V, 0 + k * 65 + j, none⟩ = false) := by
        intro j hj
        rw [scs_len, hll] at hj
        exact HV1.out.spare (0 + k * 65 + j) (by omega)
      have hic : k ≤ cap := by have := hnl.out; have := hkl.out; omega
      have hm : cap ≤ 9223372036854775807 := HV1.out.max
      have hici : (k : Int) ≤ (cap : Int) := by omega
      have hwr : IntKind.i64.wrap ((k : Int) + 1) = (k : Int) + 1 := by rw [IntKind.wrap_i64]; omega
      have hp0 : (0 : Int) ≤ (k : Int) + 1 := by omega
      have hp1 : (k : Int) + 1 ≤ (n : Int) := by omega
      have hp2 : ((k : Int) + 1).toNat = k + 1 := by omega
      have c2 : w1.cell? ⟨B, 2, none⟩ = some (.slice (some ⟨V, 0, none⟩) n cap) := cell_of HB1.out 2 _ rfl
      have f2 : w1.frozen? ⟨B, 2, none⟩ = false := frozen_of HB1.out 2
      have k0 : (w1.drew.setCells V (k * 65) (scs l2)).cell? ⟨B, 2, none⟩ = some (.slice (some ⟨V, 0, none⟩) n cap) := by
        rw [World.cell?_setCells_out V _ _ _ _ (fun e => absurd e hBV)]; exact c2
      have e0 : (w1.drew.setCells V (k * 65) (scs l2)).frozen? ⟨B, 2, none⟩ = false := (World.frozen?_setCells V _ _ _ _).trans f2
      clear h2 hll
      go_region_law (refine step_append_room rfl (.tmp 35) (.tmp 42) 46 rfl 66 i0 65 Yba.underlying46 hi0 hz1 V 0 k cap (by simp [Act.eval, Act.put]) A (n - (k + 1)) (cap - (k + 1)) (scs l2) (by simp [Act.eval, Act.put]) s1.out hnews.out s2.out (by omega) s3.out ?_)
      all_goals go_wp2_with fail
      all_goals
        have hsC : (w1.drew.setCells V (k * 65) (scs l2)).heap[B]? = some (tb C (s - st x) (.slice (some ⟨V, 0, none⟩) n cap)) := (heap_setCells_other V _ _ w1.drew B hBV).trans HB1.out
        have e1 := heap_setCell_same _ B 2 _ 79 (.slice (some ⟨V, 0, none⟩) (k + (n - (k + 1))) cap) hsC
        have hlen : (l1 ++ l2).length = k + (n - (k + 1)) := by have := hnl.out; have := hkl.out; simp; omega
        refine bodyPost_ret (results_none rfl _ _ _) rfl ⟨rfl, ?_, ?_, ?_, ?_⟩
        · exact HC.out.trans ((HK1.out.mono (fun x hx => by simp at hx)).trans (((Chg.refl _ w1).drew.setCells V (k * 65) (by simp) _).setCell B 2 (by simp) _))
        · rw [hlen]; exact e1
        · rw [heap_setCell_other _ ⟨B, 2, none⟩ C _ (fun e => by have h1 := HB1.out; have h2 := HC1.out; rw [e] at h2; rw [h2] at h1; cases h1), heap_setCells_other V _ _ w1.drew C hCV]
          exact HC1.out
        · have h3 := HV1.out.erase
          rw [← hkl.out] at h3
          refine Vt.keep (w := w1.setCells V (k * 65) (scs l2)) h3 ?_
          rw [heap_setCell_other _ ⟨B, 2, none⟩ V _ (Ne.symm hBV)]
          exact setCells_drew V _ _ w1
end Go.Proofs.Ybulkmns
