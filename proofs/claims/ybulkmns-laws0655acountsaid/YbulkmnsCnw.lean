/-
  Orderer.count: a newer vote.
-/
import Derived.Test.YbulkmnsOde
import Derived.Deep.RegionLaw
namespace Go.Proofs.Ybulkmns
open Go.RowKit Go.MapKept
open Go.ChangeMaps (setBlock heap_setBlock_same heap_setBlock_other)
set_option linter.unusedSimpArgs false
set_option linter.unusedVariables false
def enS (x : Value) : Sem Value := Instr.entry x
theorem en_eq (x : Value) : Instr.entry x = enS x := rfl
attribute [local go_sem ↓] ld45 ld48 ld66 ld71 lk_eq mu_eq st48 st71 rg_eq nx_eq al71 bd71 al48 bd48 bs46 en_eq
theorem build71 (s p : Nat) (w : World) : (bdS 71 #[(0, .int .u64 s), (1, .agg (ic p).toArray)]).run Yba.prog w = .ok (.agg (kc s p).toArray) w := by kernel_rfl
theorem alloc71 (w : World) : (alS 71 true (.tuple #[])).run Yba.prog w = .ok (.pointer (some ⟨w.heap.size, 0, none⟩)) (w.alloc (.cells (kc 0 0).toArray 71)) := by kernel_rfl
theorem kc_one (v p : Nat) : ∀ u ∈ kc v p, u.oneCell' = true := by
  intro u hu
  rcases List.mem_cons.1 hu with rfl | h
  · rfl
  · rcases List.mem_cons.1 h with rfl | h
    · rfl
    · rw [List.eq_of_mem_replicate h]; rfl
theorem store71 (s p : Nat) (w : World) : (stS 71 (.pointer (some ⟨w.heap.size, 0, none⟩)) (.agg (kc s p).toArray)).run Yba.prog (w.alloc (.cells (kc 0 0).toArray 71)) = .ok () (w.alloc (.cells (kc s p).toArray 71)) := by
  have := run_storeAt_mid (P := Yba.prog) (w.alloc (.cells (kc 0 0).toArray 71)) w.heap.size 0 71 (kc s p).toArray (by
    have h := there_new w 71 (kc 0 0).toArray
    have e : (kc 0 0).toArray.size = (kc s p).toArray.size := by simp [kc_len]
    rwa [e] at h) (by rw [List.size_toArray, kc_len]; exact size71) (all_oneCell_toArray (kc_one s p))
  rw [setCells_new w 71 (kc s p).toArray.toList (kc 0 0).toArray (by simp [kc_len])] at this
  unfold stS
  simpa using this

/-- the state, whatever its ballots' blocks -/
def Sts (w : World) (E : Env) (lv lp : Nat → Nat) (cnt : Nat → Bool) : Prop := ∃ es clock cb vb cp vs, St w E lv lp cnt es clock cb vb cp vs ∧ Full es vs
/-- what a newer vote leaves -/
def Post (E : Env) (lo : Nat) (lv lp : Nat → Nat) (cnt : Nat → Bool) (view : Nat) (ext : Value) (s p i : Nat) (w w' : World) : Prop :=
  Fr lo w w' ∧ ∃ l : List Nat, l.Nodup ∧ (∀ j, j ∈ l ↔ j < E.nv ∧ upd cnt i true j = true ∧ upd lv i s j = s ∧ upd lp i p j = p) ∧
    ((decide (2 * E.T < 3 * tot E.st l) = false ∧ Ord w' E view ext ∧ Sts w' E (upd lv i s) (upd lp i p) (upd cnt i true)) ∨
     (decide (2 * E.T < 3 * tot E.st l) = true ∧ ∃ Q V cap, Ord w' E (if view ≤ s then (s + 1) % 2 ^ 64 else view) (.pointer (some ⟨Q, 0, none⟩)) ∧
        Sts w' E (upd lv i s) (upd lp i p) (fun j => upd cnt i true j && decide (s < upd lv i s j)) ∧ w'.heap[Q]? = some (.cells (qc s p (.slice (some ⟨V, 0, none⟩) l.length cap)).toArray 48 (0, 0)) ∧ Vt w' V cap l))
theorem upd_upd {α : Type} (f : Nat → α) (i : Nat) (x y : α) : upd (upd f i x) i y = upd f i y := funext fun j => by
  by_cases hj : j = i
  · subst hj; rw [upd_same, upd_same]
  · rw [upd_other _ _ _ hj, upd_other _ _ _ hj, upd_other _ _ _ hj]

/-- behind the first half of 'count': the vote of i is in no ballot -/
def Mid1 (E : Env) (lo : Nat) (lv lp : Nat → Nat) (cnt : Nat → Bool) (view : Nat) (ext : Value) (Vb s p i : Nat) (w w' : World) : Prop :=
  Fr lo w w' ∧ Ord w' E view ext ∧ VoteAt w' Vb s p i ∧ ∃ es clock cb vb cp vs, St w' E lv lp (upd cnt i false) es clock cb vb cp vs ∧ Full es vs

theorem step_delete {ops : Array Oper} {o : Oper} {a : Act} {w : World} {K : Act → World → Prop} {Q : Exit → Act → World → Prop} {F : Prop}
    (hg : o.guard = none) (m k : Operand) (hop : o.op = Op.call { callee := Callee.builtin Builtin.delete, args := #[m, k], argTypes := #[40, 71] })
    (b : Nat) (key : Value) (hm : a.eval m = .map (some b)) (hk : a.eval k = key) (w' : World) (hrun : ∀ ty, (Builtin.delete_ #[40, 71] ty #[.map (some b), key]).run Yba.prog w = .ok (.tuple #[]) w')
    (hK : K (a.put o.dst (.tuple #[])) w') :
    if Region.wanted o (yielded ops a.tmps) = true then Oper.wp Yba.prog o a w K Q else F := by
  have hw : Region.wanted o (yielded ops a.tmps) = true := by simp [Region.wanted, hg]
  rw [if_pos hw]
  have hr := hrun o.type
  unfold Oper.wp
  simp [execOp, hop, resolve, invoke, builtin, hm, hk, hr, Result.andThen]
  exact hK

theorem len_tot : ∀ l : List Nat, l.Nodup → (∀ x ∈ l, x < 4) → l.length = tot (fun _ => 1) l
  | [], _, _ => rfl
  | x :: r, hn, hl => by
    obtain ⟨h1, h2⟩ := List.nodup_cons.1 hn
    have ih := len_tot r h2 (fun y hy => hl y (by simp [hy]))
    have := tot_add (st := fun _ => 1) (vs := r) (vs' := x :: r) (hl x (by simp)) h1 ⟨by simp, fun j hj => by simp [hj]⟩
    rw [this, List.length_cons, ih]
theorem len_le4 (l : List Nat) (hn : l.Nodup) (hl : ∀ x ∈ l, x < 4) : l.length ≤ 4 := by
  rw [len_tot l hn hl]
  unfold tot sum4 bit
  dsimp only
  split <;> split <;> split <;> split <;> omega

section
variable {E : Env} {lv lp : Nat → Nat} {cnt : Nat → Bool} {es : Array MapEntry} {clock : Nat} {cb vb cp : Nat → Nat} {vs : Nat → List Nat}

theorem neqNil (b : Nat) (w : World) : (binOp .neq 74 (.pointer (some ⟨b, 0, none⟩)) (.pointer none)).run Yba.prog w = .ok (.bool true) w := by kernel_rfl
theorem neqNil' (w : World) : (binOp .neq 74 (.pointer none) (.pointer none)).run Yba.prog w = .ok (.bool false) w := by kernel_rfl

theorem egNeq (b : Nat) (w : World) : (eqGuard .neq 74 (.tmp 39) (.const (.pointer none)) (.pointer (some ⟨b, 0, none⟩)) (.pointer none)).run Yba.prog w = .ok () w := by kernel_rfl
theorem egNeq' (w : World) : (eqGuard .neq 74 (.tmp 39) (.const (.pointer none)) (.pointer none) (.pointer none)).run Yba.prog w = .ok () w := by kernel_rfl

theorem eqNil (b : Nat) (w : World) : (binOp .eql 74 (.pointer (some ⟨b, 0, none⟩)) (.pointer none)).run Yba.prog w = .ok (.bool false) w := by kernel_rfl
theorem eqNil' (w : World) : (binOp .eql 74 (.pointer none) (.pointer none)).run Yba.prog w = .ok (.bool true) w := by kernel_rfl
theorem egEq (b : Nat) (w : World) : (eqGuard .eql 74 (.tmp 83) (.const (.pointer none)) (.pointer (some ⟨b, 0, none⟩)) (.pointer none)).run Yba.prog w = .ok () w := by kernel_rfl
theorem egEq' (w : World) : (eqGuard .eql 74 (.tmp 83) (.const (.pointer none)) (.pointer none) (.pointer none)).run Yba.prog w = .ok () w := by kernel_rfl
theorem build79 (w : World) : (Instr.build 79 #[]).run Yba.prog w = .ok (.agg #[.slice none 0 0, .int .u64 0, .slice none 0 0]) w := by kernel_rfl
/-- the second look-up: hit or miss -/
theorem look_two {w : World} (h : St w E lv lp cnt es clock cb vb cp vs) (s p : Nat) (hs : s < 2 ^ 64) (hp : p < 256) : ∃ (r : Value) (bb : Bool), ((bb = false ∧ ∃ e0 ∈ es.toList, vw e0 = s ∧ pr e0 = p ∧ r = ptr (bk e0)) ∨ (bb = true ∧ (∀ e ∈ es.toList, ¬ (vw e = s ∧ pr e = p)) ∧ r = .pointer none)) ∧
    (∀ w' : World, w'.heap[E.Bm]? = some (.map es clock) → (lkS 40 (.map (some E.Bm)) (.agg (kc s p).toArray) false).run Yba.prog w' = .ok r w') ∧ (∀ w' : World, (binOp .eql 74 r (.pointer none)).run Yba.prog w' = .ok (.bool bb) w') ∧
    (∀ w' : World, (eqGuard .eql 74 (.tmp 83) (.const (.pointer none)) r (.pointer none)).run Yba.prog w' = .ok () w') := by
  by_cases hx : ∃ e0 ∈ es.toList, vw e0 = s ∧ pr e0 = p
  · obtain ⟨e0, he0, x1, x2⟩ := hx
    refine ⟨ptr (bk e0), false, .inl ⟨rfl, e0, he0, x1, x2, rfl⟩, fun w' hw' => ?_, eqNil (bk e0), egEq (bk e0)⟩
    have := (BMap.mk (w := w') (b := E.Bm) hw' h.bm.st h.bm.good).hit he0
    rw [(h.bm.good e0 he0).key, (h.bm.good e0 he0).val, x1, x2] at this
    exact this
  · refine ⟨.pointer none, true, .inr ⟨rfl, fun e he hh => hx ⟨e, he, hh⟩, rfl⟩, fun w' hw' => ?_, eqNil', egEq'⟩
    exact (BMap.mk (w := w') (b := E.Bm) hw' h.bm.st h.bm.good).miss hs hp (fun e he hk => hx ⟨e, he, by
      rw [(h.bm.good e he).key] at hk
      exact kv_inj hk⟩)

set_option maxRecDepth 100000 in
set_option maxHeartbeats 8000000 in
theorem count_new (ok : E.Ok) (lo : Nat) (hlo : Lo E lo) (w : World) (h : St w E lv lp cnt es clock cb vb cp vs) (full : Full es vs) (view : Nat) (ext : Value) (ord : Ord w E view ext) (Vb s p i : Nat) (now : Int) (hV : VoteAt w Vb s p i) (hi : i < E.nv) (hnew : lv i < s) (hs : s < 2 ^ 64) (hp : p < 256) :
    Calls Yba.prog 4 #[.pointer (some ⟨E.O, 0, none⟩), .int .i64 now, .pointer (some ⟨Vb, 0, none⟩)] w fun e w' => e = .returned (.tuple #[]) ∧ Post E lo lv lp cnt view ext s p i w w' := by
  have hord := ord
  obtain ⟨A, hO, _, _, _, _, _, _, _, _, h54, h55, _⟩ := ord
  have c55 : w.cell? ⟨E.O, 55, none⟩ = some (.slice (some ⟨E.LV, 0, none⟩) E.nv E.nv) := cell_of hO 55 _ h55
  have c54 : w.cell? ⟨E.O, 54, none⟩ = some (.map (some E.Bm)) := cell_of hO 54 _ h54
  have v33 := hV.who
  have v0 := hV.view
  have l0 : w.cell? ⟨E.LV, i * 33, none⟩ = some (.int .u64 (lv i)) := h.lvat.range hi 0 _ rfl
  have lr : w.rangeAt E.LV (i * 33) (kc (lv i) (lp i)) := h.lvat.range hi
  have hbm : w.heap[E.Bm]? = some (.map es clock) := h.bm.at_
  have hi' : (i : Int) < (E.nv : Int) := by omega
  have hi0 : (0 : Int) ≤ (i : Int) := by omega
  have t1 : decide ((s : Int) ≤ (lv i : Int)) = false := by simp; omega
  obtain ⟨r, hr, hlk⟩ : ∃ r : Value, ((∃ e0 ∈ es.toList, vw e0 = lv i ∧ pr e0 = lp i ∧ r = ptr (bk e0)) ∨ ((∀ e ∈ es.toList, ¬ (vw e = lv i ∧ pr e = lp i)) ∧ r = .pointer none)) ∧
      ∀ w' : World, w'.heap[E.Bm]? = some (.map es clock) → (lkS 40 (.map (some E.Bm)) (.agg (kc (lv i) (lp i)).toArray) false).run Yba.prog w' = .ok r w' := by
    by_cases hx : ∃ e0 ∈ es.toList, vw e0 = lv i ∧ pr e0 = lp i
    · obtain ⟨e0, he0, x1, x2⟩ := hx
      refine ⟨ptr (bk e0), .inl ⟨e0, he0, x1, x2, rfl⟩, fun w' hw' => ?_⟩
      have := (BMap.mk (w := w') (b := E.Bm) hw' h.bm.st h.bm.good).hit he0
      rw [(h.bm.good e0 he0).key, (h.bm.good e0 he0).val, x1, x2] at this
      exact this
    · refine ⟨.pointer none, .inr ⟨fun e he hh => hx ⟨e, he, hh⟩, rfl⟩, fun w' hw' => ?_⟩
      exact (BMap.mk (w := w') (b := E.Bm) hw' h.bm.st h.bm.good).miss (h.bnd i hi).1 (h.bnd i hi).2 (fun e he hk => hx ⟨e, he, by
        rw [(h.bm.good e he).key] at hk
        exact kv_inj hk⟩)
  have HH : Hid (St w E lv lp cnt es clock cb vb cp vs) := h
  have HO : Hid (Ord w E view ext) := hord
  have HV : Hid (VoteAt w Vb s p i) := hV
  have HR : Hid ((∃ e0 ∈ es.toList, vw e0 = lv i ∧ pr e0 = lp i ∧ r = ptr (bk e0)) ∨ ((∀ e ∈ es.toList, ¬ (vw e = lv i ∧ pr e = lp i)) ∧ r = .pointer none)) := hr
  have hld : ∀ w' : World, w'.rangeAt E.LV (i * 33) (kc (lv i) (lp i)) → (ldS 71 (.pointer (some ⟨E.LV, i * 33, none⟩))).run Yba.prog w' = .ok (.agg (kc (lv i) (lp i)).toArray) w' := ldS71 E.LV (i * 33) (lv i) (lp i)
  have HF : Hid (Full es vs) := full
  clear h hV hO h55 h54 hord hr full
  go_enter Yba.func4, Yba.ntmps4
  go_wp2_with fail
  go_region_held3 (fun w' => w'.cell? ⟨E.O, 55, none⟩ = some (.slice (some ⟨E.LV, 0, none⟩) E.nv E.nv) ∧ w'.cell? ⟨Vb, 33, none⟩ = some (.int .i64 i)) (go_keep) (fail)
  go_wp2_with fail
  go_region_held3 (fun w' => w'.cell? ⟨Vb, 0, none⟩ = some (.int .u64 s) ∧ w'.cell? ⟨E.LV, i * 33, none⟩ = some (.int .u64 (lv i))) (go_keep) (fail)
  go_wp2_with fail
  go_region_held3 (fun w' => w'.cell? ⟨E.O, 54, none⟩ = some (.map (some E.Bm)) ∧ w'.rangeAt E.LV (i * 33) (kc (lv i) (lp i)) ∧ w'.heap[E.Bm]? = some (.map es clock)) (first | (go_keep_ranges; done) | exact ⟨c54, lr, hbm⟩) (fail)
  have h1 : St w.drew.drew.drew E lv lp cnt es clock cb vb cp vs := HH.out.keep ok [] (Chg.refl _ w).drew.drew.drew (by simp)
  have HH1 : Hid (St w.drew.drew.drew E lv lp cnt es clock cb vb cp vs) := h1
  have HO1 : Hid (Ord w.drew.drew.drew E view ext) := HO.out.keep rfl
  have HV1 : Hid (VoteAt w.drew.drew.drew Vb s p i) := HV.out.keep rfl
  have HFr : Hid (Fr lo w w.drew.drew.drew) := (Chg.refl [] w).drew.drew.drew.fr (by simp)
  obtain ⟨bb, hbb, hne⟩ : ∃ bb : Bool, ((bb = true ∧ ∃ e0 ∈ es.toList, vw e0 = lv i ∧ pr e0 = lp i ∧ r = ptr (bk e0)) ∨ (bb = false ∧ ∀ e ∈ es.toList, ¬ (vw e = lv i ∧ pr e = lp i))) ∧ ∀ w' : World, (binOp .neq 74 r (.pointer none)).run Yba.prog w' = .ok (.bool bb) w' := by
    rcases HR.out with ⟨e0, he0, x1, x2, x3⟩ | ⟨x1, x2⟩
    · exact ⟨true, .inl ⟨rfl, e0, he0, x1, x2, x3⟩, fun w' => by rw [x3]; exact neqNil (bk e0) w'⟩
    · exact ⟨false, .inr ⟨rfl, x1⟩, fun w' => by rw [x2]; exact neqNil' w'⟩
  have HBB : Hid ((bb = true ∧ ∃ e0 ∈ es.toList, vw e0 = lv i ∧ pr e0 = lp i ∧ r = ptr (bk e0)) ∨ (bb = false ∧ ∀ e ∈ es.toList, ¬ (vw e = lv i ∧ pr e = lp i))) := hbb
  have heg : ∀ w' : World, (eqGuard .neq 74 (.tmp 39) (.const (.pointer none)) r (.pointer none)).run Yba.prog w' = .ok () w' := by
    rcases HR.out with ⟨e0, he0, x1, x2, x3⟩ | ⟨x1, x2⟩
    · intro w'; rw [x3]; exact egNeq (bk e0) w'
    · intro w'; rw [x2]; exact egNeq' w'
  clear hbb HR
  clear h1 c55 c54 v33 v0 l0 lr hbm hld hlk t1 HH HO HV
  generalize w.drew.drew.drew = w1 at *
  go_upto_if 40 with fail
  go_cut [] (fun wc => Mid1 E lo lv lp cnt view ext Vb s p i w wc)
  case first =>
    rcases HBB.out with ⟨rfl, e0, he0, x1, x2, rfl⟩ | ⟨rfl, hno⟩
    · have hO1 := HO1.out
      obtain ⟨A, hA, _, a1, _⟩ := hO1
      have c1 : w1.cell? ⟨E.O, 1, none⟩ = some (.pointer (some ⟨E.G, 0, none⟩)) := cell_of hA 1 _ a1
      have v33 := HV1.out.who
      have hnv := ok.nv
      have hbal := HH1.out.bal e0 he0
      unfold ptr at *
      clear hA a1
      by_cases hin : i ∈ vs (bk e0)
      · obtain ⟨l1, l2, hvs⟩ := List.append_of_mem hin
        have hnd := HH1.out.nd e0 he0
        have hsame : Same (vs (bk e0)) (l1 ++ l2) i false := by rw [hvs] at hnd ⊢; exact same_rem l1 l2 i hnd
        have hl1 : ∀ x ∈ l1, x ≠ i := fun x hx e => by
          have h1 := hsame.1
          simp at h1
          exact h1.1 (e ▸ hx)
        have hlen4 : (l1 ++ i :: l2).length ≤ 4 := by
          rw [← hvs]
          exact len_le4 _ hnd (fun x hx => by have := ((HH1.out.mem e0 he0 x).1 hx).1; omega)
        have hi4 : i < 4 := by omega
        have htot := tot_rem (st := E.st) hi4 hin hsame
        have hmx := tot_le E.st (vs (bk e0)) ok.st
        have hn := HH1.out.new e0 he0
        have oG := ok.G
        have ogv := ok.gv
        have hB1 := hbal.b
        rw [hvs] at hB1
        have hV1' := hbal.v
        rw [hvs] at hV1'
        have HBR : Hid (Calls Yba.prog 5 #[.pointer (some ⟨bk e0, 0, none⟩), .pointer (some ⟨E.G, 0, none⟩), .int .i64 i] w1.drew fun e w' => e = .returned (.tuple #[]) ∧
            Chg [bk e0, cb (bk e0), vb (bk e0)] w1.drew w' ∧ w'.heap[bk e0]? = some (tb (cb (bk e0)) (tot E.st (l1 ++ i :: l2) - E.st i) (.slice (some ⟨vb (bk e0), 0, none⟩) (l1 ++ l2).length (cp (bk e0)))) ∧ w'.heap[cb (bk e0)]? = some (tc (mask (l1 ++ l2))) ∧ Vt w' (vb (bk e0)) (cp (bk e0)) (l1 ++ l2)) :=
          bremove_set (bk e0) (cb (bk e0)) (vb (bk e0)) E.G E.gv E.nv E.cg (cp (bk e0)) E.st E.T (mask (vs (bk e0))) (mask (l1 ++ l2)) (tot E.st (l1 ++ i :: l2)) i l1 l2 w1.drew hi hnv (HH1.out.keep ok [] (Chg.refl _ w1).drew (by simp)).gen hB1 hbal.c (hV1'.keep rfl) hl1 hlen4 (by omega) (by omega) (by omega) (by omega) (mask_in hi4 hin) (mask_rem hi4 hsame) (by rw [← hvs]; exact htot.1) (by rw [← hvs]; omega)
        have hOl : E.O < w1.drew.heap.size := by have := HH1.out.siz; have := ok.O; show E.O < w1.heap.size; omega
        have hVl : Vb < w1.drew.heap.size := lt_of_heap (w := w1) HV1.out
        have hOS : E.O ∉ [bk e0, cb (bk e0), vb (bk e0)] := by have := ok.O; simp; omega
        have hVS : Vb ∉ [bk e0, cb (bk e0), vb (bk e0)] := by
          obtain ⟨_, _, cur, hv, _⟩ := hbal.v
          have hv1 := HV1.out
          unfold VoteAt at hv1
          simp only [List.mem_cons, List.not_mem_nil, or_false, not_or]
          refine ⟨fun e => ?_, fun e => ?_, fun e => ?_⟩
          · rw [e, hbal.b] at hv1; cases hv1
          · rw [e, hbal.c] at hv1; cases hv1
          · rw [e, hv] at hv1; cases hv1
        have HTT : Hid (tot E.st (l1 ++ i :: l2) - E.st i = tot E.st (l1 ++ l2)) := by show _ = _; rw [← hvs]; exact htot.2.symm
        have HMY : Hid (∀ x ∈ [bk e0, cb (bk e0), vb (bk e0)], May lo w1 x) := by
          obtain ⟨_, _, cur, hv, _⟩ := hbal.v
          have hb := hlo.base
          intro x hx
          simp only [List.mem_cons, List.not_mem_nil, or_false] at hx
          rcases hx with rfl | rfl | rfl
          · exact .inr ⟨by omega, .inr ⟨_, _, _, hbal.b, by simp⟩⟩
          · exact .inr ⟨by omega, .inr ⟨_, _, _, hbal.c, by simp⟩⟩
          · exact .inr ⟨by omega, .inr ⟨_, _, _, hv, by simp⟩⟩
        have HVS : Hid (vs (bk e0) = l1 ++ i :: l2) := hvs
        clear hbal hB1 hV1' hvs hsame hnd htot hmx hl1 hlen4 hin
        go_wp2_with fail
        go_region_held3 (fun w' => w'.cell? ⟨E.O, 1, none⟩ = some (.pointer (some ⟨E.G, 0, none⟩)) ∧ w'.cell? ⟨Vb, 33, none⟩ = some (.int .i64 i)) (first | (go_keep; done) | exact ⟨(hch.cell hOl hOS).trans c1, (hch.cell hVl hVS).trans v33⟩) (first | (go_at_call 5; refine HBR.out.mono ?_; rintro e w2 ⟨rfl, hch, hB2, hC2, hV2⟩))
        have h2 : St w2 E lv lp (upd cnt i false) es clock cb vb cp (upd vs (bk e0) (l1 ++ l2)) :=
          (HH1.out.keep ok [] (Chg.refl _ w1).drew (by simp)).removed ok he0 x1.symm x2.symm HVS.out hch ⟨by rw [← HTT.out]; exact hB2, hC2, hV2⟩
        have HH2 : Hid (St w2 E lv lp (upd cnt i false) es clock cb vb cp (upd vs (bk e0) (l1 ++ l2))) := h2
        have HO2 : Hid (Ord w2 E view ext) := HO1.out.keep (hch.block E.O hOl hOS)
        have HV2 : Hid (VoteAt w2 Vb s p i) := HV1.out.keep (hch.block Vb hVl hVS)
        have HF2 : Hid (Fr lo w w2) := HFr.out.trans (((Chg.refl _ w1).drew.trans hch).fr HMY.out)
        have c2 : w2.cell? ⟨bk e0, 2, none⟩ = some (.slice (some ⟨vb (bk e0), 0, none⟩) (l1 ++ l2).length (cp (bk e0))) := cell_of hB2 2 _ rfl
        have hob : ∀ e ∈ es.toList, e ≠ e0 → bk e ≠ bk e0 := fun e he hne => Ne.symm (HH1.out.apart he he0 hne (bk e0) (by simp)).1
        have HOB : Hid (∀ e ∈ es.toList, e ≠ e0 → bk e ≠ bk e0) := hob
        clear h2 hch hB2 hC2 hV2 hOl hVl hOS hVS HBR HTT HMY c1 v33 hob
        by_cases hz : l1 ++ l2 = []
        · have t0 : (((l1 ++ l2).length : Int) == 0) = true := by rw [hz]; rfl
          obtain ⟨A2, hA2, _, _, _, _, _, _, _, _, a54, _⟩ := HO2.out
          have c54 : w2.cell? ⟨E.O, 54, none⟩ = some (.map (some E.Bm)) := cell_of hA2 54 _ a54
          have lr : w2.rangeAt E.LV (i * 33) (kc (lv i) (lp i)) := HH2.out.lvat.range hi
          have hld : ∀ w' : World, w'.rangeAt E.LV (i * 33) (kc (lv i) (lp i)) → (ldS 71 (.pointer (some ⟨E.LV, i * 33, none⟩))).run Yba.prog w' = .ok (.agg (kc (lv i) (lp i)).toArray) w' := ldS71 E.LV (i * 33) (lv i) (lp i)
          have hdr := HH2.out.keep ok [] (Chg.refl _ w2).drew (by simp)
          obtain ⟨es', hes, hrun, hbm'⟩ := hdr.bm.drop he0 0
          have hkey : e0.key = .agg (kc (lv i) (lp i)).toArray := by rw [(HH1.out.bm.good e0 he0).key, x1, x2]; rfl
          rw [hkey] at hrun
          have HRN : Hid (∀ ty, (Builtin.delete_ #[40, 71] ty #[.map (some E.Bm), .agg (kc (lv i) (lp i)).toArray]).run Yba.prog w2.drew = .ok (.tuple #[]) (setBlock w2.drew E.Bm (.map es' clock))) := fun ty => hrun
          have ap := ok.apart
          simp only [List.nodup_cons, List.mem_cons, List.not_mem_nil, or_false, not_or, List.nodup_nil, and_true] at ap
          have b3 : ∀ b, b ≠ E.Bm → (setBlock w2.drew E.Bm (.map es' clock)).heap[b]? = w2.heap[b]? := fun b hb => heap_setBlock_other (w := w2.drew) hdr.bm.at_ _ hb
          have k54 : (setBlock w2.drew E.Bm (.map es' clock)).cell? ⟨E.O, 54, none⟩ = some (.map (some E.Bm)) := by rw [World.cell?_of_block (b3 E.O ap.2.2.1.2.2.1)]; exact c54
          have klr : (setBlock w2.drew E.Bm (.map es' clock)).rangeAt E.LV (i * 33) (kc (lv i) (lp i)) := fun j v hv => by rw [World.cell?_of_block (b3 E.LV (Ne.symm ap.2.2.2.2.2.1))]; exact lr j v hv
          have hVB : Vb ≠ E.Bm := fun e => by have h1 := HV2.out; unfold VoteAt at h1; rw [e, HH2.out.bm.at_] at h1; cases h1
          have HM : Hid (Mid1 E lo lv lp cnt view ext Vb s p i w (setBlock w2.drew E.Bm (.map es' clock))) := by
            refine ⟨HF2.out.trans (((Chg.refl [E.Bm] w2).drew.setBlock E.Bm (by simp) hdr.bm.at_ _).fr (fun x hx => ?_)), HO2.out.keep (b3 E.O ap.2.2.1.2.2.1), HV2.out.keep (b3 Vb hVB), es', clock, cb, vb, cp, _, hdr.dropped ok he0 (by rw [upd_same]; exact hz) hes hbm' rfl, fun e he => ?_⟩
            · simp only [List.mem_cons, List.not_mem_nil, or_false] at hx
              subst hx
              exact .inr ⟨hlo.Bm, .inl ⟨_, _, HH2.out.bm.at_⟩⟩
            · rw [hes] at he
              obtain ⟨he1, he2⟩ := List.mem_filter.1 he
              have hee : e ≠ e0 := fun x => by rw [x] at he2; simp at he2
              rw [upd_other _ _ _ (HOB.out e he1 hee)]; exact HF.out e he1
          clear hdr hes hrun hbm' hA2 a54 b3 ap hkey
          generalize setBlock w2.drew E.Bm (.map es' clock) = w3 at *
          generalize (l1 ++ l2).length = n2 at *
          go_wp2_with fail
          go_region_held3 (fun w' => w'.cell? ⟨E.O, 54, none⟩ = some (.map (some E.Bm)) ∧ w'.rangeAt E.LV (i * 33) (kc (lv i) (lp i))) (first | exact ⟨k54, klr⟩ | (go_keep_ranges; done)) (first | (refine step_delete (by rfl) (.tmp 61) (.tmp 64) (by rfl) E.Bm (.agg (kc (lv i) (lp i)).toArray) (by rfl) (by rfl) w3 HRN.out ?_))
          go_wp2_with fail
          go_meet
          case rel => exact HM.out
        · have t0 : (((l1 ++ l2).length : Int) == 0) = false := by
            have : (l1 ++ l2).length ≠ 0 := fun e => hz (List.length_eq_zero_iff.1 e)
            simp only [beq_eq_false_iff_ne, ne_eq]
            omega
          have HM : Hid (Mid1 E lo lv lp cnt view ext Vb s p i w w2) := ⟨HF2.out, HO2.out, HV2.out, es, clock, cb, vb, cp, _, HH2.out, fun e he => by
            by_cases hee : e = e0
            · subst hee; rw [upd_same]; exact hz
            · rw [upd_other _ _ _ (HOB.out e he hee)]; exact HF.out e he⟩
          generalize (l1 ++ l2).length = n2 at *
          go_wp2_with fail
          go_meet
          case rel => exact HM.out
      · have hci : cnt i = false := by
          cases hcc : cnt i
          · rfl
          · exact absurd ((HH1.out.mem e0 he0 i).2 ⟨hi, hcc, x1.symm, x2.symm⟩) hin
        have c2 : w1.cell? ⟨bk e0, 2, none⟩ = some (.slice (some ⟨vb (bk e0), 0, none⟩) (vs (bk e0)).length (cp (bk e0))) := cell_of hbal.b 2 _ rfl
        have hln : ¬ (vs (bk e0)).length = 0 := fun e => HF.out e0 he0 (List.length_eq_zero_iff.1 e)
        have HBR : Hid (∀ w' : World, w'.heap[bk e0]? = w1.heap[bk e0]? → w'.heap[cb (bk e0)]? = w1.heap[cb (bk e0)]? → Calls Yba.prog 5 #[.pointer (some ⟨bk e0, 0, none⟩), .pointer (some ⟨E.G, 0, none⟩), .int .i64 i] w' fun e w'' => e = .returned (.tuple #[]) ∧ w'' = w'.drew) :=
          fun w' e1 e2 => bremove_unset (bk e0) (cb (bk e0)) E.G E.gv E.nv E.cg E.st E.T (mask (vs (bk e0))) (tot E.st (vs (bk e0))) i _ w' hi hnv (e1.trans hbal.b) (e2.trans hbal.c) (mask_out (by omega) hin)
        have t0 : (((vs (bk e0)).length : Int) == 0) = false := by simp; exact HF.out e0 he0
        have hcn : upd cnt i false = cnt := funext fun j => by
          by_cases hj : j = i
          · subst hj; rw [upd_same, hci]
          · rw [upd_other _ _ _ hj]
        have HM : Hid (Mid1 E lo lv lp cnt view ext Vb s p i w w1.drew.drew) := ⟨HFr.out.trans ((Chg.refl [] w1).drew.drew.fr (by simp)), HO1.out.keep rfl, HV1.out.keep rfl, es, clock, cb, vb, cp, vs, by rw [hcn]; exact HH1.out.keep ok [] (Chg.refl _ w1).drew.drew (by simp), HF.out⟩
        clear hcn
        generalize (vs (bk e0)).length = n at *
        clear hbal
        go_wp2_with fail
        go_region_held3 (fun w' => w'.cell? ⟨E.O, 1, none⟩ = some (.pointer (some ⟨E.G, 0, none⟩)) ∧ w'.cell? ⟨Vb, 33, none⟩ = some (.int .i64 i)) (go_keep) (first | (go_at_call 5; refine (HBR.out w1.drew rfl rfl).mono ?_; rintro e w' ⟨rfl, rfl⟩))
        go_wp2_with fail
        go_meet
        case rel => exact HM.out
    · have hci : cnt i = false := by
        cases hcc : cnt i
        · rfl
        · obtain ⟨e, he, y1, y2⟩ := HH1.out.has i hi hcc
          exact absurd ⟨y1, y2⟩ (hno e he)
      have hcn : upd cnt i false = cnt := funext fun j => by
        by_cases hj : j = i
        · subst hj; rw [upd_same, hci]
        · rw [upd_other _ _ _ hj]
      have HM : Hid (Mid1 E lo lv lp cnt view ext Vb s p i w w1) := ⟨HFr.out, HO1.out, HV1.out, es, clock, cb, vb, cp, vs, by rw [hcn]; exact HH1.out, HF.out⟩
      go_wp2_with fail
      go_meet
      case rel => exact HM.out
  case rest =>
    obtain ⟨hfr, hord, hvt, es1, cl1, cb1, vb1, cp1, vs1, hst1, hfl1⟩ := hcut
    have HFR : Hid (Fr lo w wc) := hfr
    have HOC : Hid (Ord wc E view ext) := hord
    have HVC : Hid (VoteAt wc Vb s p i) := hvt
    have HSC : Hid (St wc E lv lp (upd cnt i false) es1 cl1 cb1 vb1 cp1 vs1) := hst1
    have HFC : Hid (Full es1 vs1) := hfl1
    have v0 := HVC.out.view
    have vid := HVC.out.id
    have hl45 : ∀ w' : World, w'.rangeAt Vb 1 (ic p) → (ldS 45 (.pointer (some ⟨Vb, 1, none⟩))).run Yba.prog w' = .ok (.agg (ic p).toArray) w' := ldS45 Vb 1 p
    have hu := Yba.underlying45
    have hsz45 : (Yba.prog.info? 45).map (·.size) = some (ic p).length := by rw [ic_len]; exact size45
    have hil := ic_len p
    have hbd := build71 s p
    have hal := alloc71
    have hst : (stS 71 (.pointer (some ⟨wc.heap.size, 0, none⟩)) (.agg (kc s p).toArray)).run Yba.prog (wc.alloc (.cells (kc 0 0).toArray 71)).drew = .ok () (wc.alloc (.cells (kc s p).toArray 71)).drew := store71 s p wc.drew
    clear hfr hord hvt hst1 hfl1 hne heg HBB HFr HO1 HV1 HH1 HF
    have hVl : Vb < wc.heap.size := lt_of_heap HVC.out
    have q0 : ∀ o : Obj, (wc.alloc o).drew.cell? ⟨Vb, 0, none⟩ = some (.int .u64 s) := fun o => by
      show (wc.alloc o).cell? _ = _
      rw [World.cell?_alloc_past _ _ _ hVl]; exact v0
    have qid : ∀ o : Obj, (wc.alloc o).drew.rangeAt Vb 1 (ic p) := fun o j v hv => by
      show (wc.alloc o).cell? _ = _
      rw [World.cell?_alloc_past _ _ _ hVl]; exact vid j v hv
    go_wp2_with fail
    go_region_held3 (fun w' => w'.cell? ⟨Vb, 0, none⟩ = some (.int .u64 s) ∧ w'.rangeAt Vb 1 (ic p)) (first | exact ⟨q0 _, qid _⟩ | (go_keep_ranges; done)) (fail)
    clear hst hal hbd q0 qid v0 vid hl45
    have hcd : Chg [] wc (wc.alloc (.cells (kc s p).toArray 71)).drew := ((Chg.refl _ wc).alloc _).drew
    have hkb : (wc.alloc (.cells (kc s p).toArray 71)).drew.rangeAt wc.heap.size 0 (kc s p) := range_new wc 71 (kc s p)
    have HSD : Hid (St (wc.alloc (.cells (kc s p).toArray 71)).drew E lv lp (upd cnt i false) es1 cl1 cb1 vb1 cp1 vs1) := HSC.out.keep ok [] hcd (by simp)
    have HOD : Hid (Ord (wc.alloc (.cells (kc s p).toArray 71)).drew E view ext) := HOC.out.keep (hcd.block E.O (by have := HSC.out.siz; have := ok.O; omega) (by simp))
    have HVD : Hid (VoteAt (wc.alloc (.cells (kc s p).toArray 71)).drew Vb s p i) := HVC.out.keep (hcd.block Vb hVl (by simp))
    have HFD : Hid (Fr lo w (wc.alloc (.cells (kc s p).toArray 71)).drew) := HFR.out.trans (hcd.fr (by simp))
    have hszD : wc.heap.size < (wc.alloc (.cells (kc s p).toArray 71)).drew.heap.size := by show _ < (wc.alloc _).heap.size; simp
    have hkbl : E.base ≤ wc.heap.size := HSC.out.siz
    clear hcd HSC HOC HVC HFR hVl
    generalize (wc.alloc (.cells (kc s p).toArray 71)).drew = wd at *
    generalize wc.heap.size = kb at *
    have l71 : (ldS 71 (.pointer (some ⟨kb, 0, none⟩))).run Yba.prog wd = .ok (.agg (kc s p).toArray) wd := ldS71 kb 0 s p wd hkb
    have hst : (stS 71 (.pointer (some ⟨E.LV, i * 33, none⟩)) (.agg (kc s p).toArray)).run Yba.prog wd = .ok () (wd.setCells E.LV (i * 33) (kc s p)) :=
      run_storeAt_mid wd E.LV (i * 33) 71 (kc s p).toArray (by rw [List.size_toArray, kc_len]; exact HSD.out.lvat.there hi) (by rw [List.size_toArray, kc_len]; exact size71) (all_oneCell_toArray (kc_one s p))
    have hce : Chg [E.LV] wd (wd.setCells E.LV (i * 33) (kc s p)) := (Chg.refl _ wd).setCells E.LV (i * 33) (by simp) _
    have HSE : Hid (St (wd.setCells E.LV (i * 33) (kc s p)) E (upd lv i s) (upd lp i p) (upd cnt i false) es1 cl1 cb1 vb1 cp1 vs1) := HSD.out.voted ok hi (upd_same _ _ _) hs hp (HSD.out.lvat.put hi s p) hce
    have ap := ok.apart
    simp only [List.nodup_cons, List.mem_cons, List.not_mem_nil, or_false, not_or, List.nodup_nil, and_true] at ap
    have hVL : Vb ≠ E.LV := fun e => by
      have h1 := HVD.out
      unfold VoteAt at h1
      obtain ⟨L, h2, _⟩ := HSD.out.lvat
      rw [e, h2] at h1
      cases h1
    have HOE : Hid (Ord (wd.setCells E.LV (i * 33) (kc s p)) E view ext) := HOD.out.keep (heap_setCells_other E.LV _ _ wd E.O ap.2.2.1.2.2.2)
    have HVE : Hid (VoteAt (wd.setCells E.LV (i * 33) (kc s p)) Vb s p i) := HVD.out.keep (heap_setCells_other E.LV _ _ wd Vb hVL)
    have HFE : Hid (Fr lo w (wd.setCells E.LV (i * 33) (kc s p))) := HFD.out.trans (hce.fr (fun x hx => by
      simp only [List.mem_cons, List.not_mem_nil, or_false] at hx
      subst hx
      obtain ⟨L, h2, _⟩ := HSD.out.lvat
      exact .inr ⟨hlo.LV, .inr ⟨_, _, _, h2, by simp⟩⟩))
    have oL := ok.LV
    have hke : (wd.setCells E.LV (i * 33) (kc s p)).rangeAt kb 0 (kc s p) := fun j v hv => by
      rw [World.cell?_of_block (w := wd) (heap_setCells_other E.LV _ _ wd kb (by omega))]; exact hkb j v hv
    have hszE : kb < (wd.setCells E.LV (i * 33) (kc s p)).heap.size := by rw [size_setCells]; exact hszD
    clear hce HSD HOD HVD HFD hkb hszD hVL ap
    generalize wd.setCells E.LV (i * 33) (kc s p) = we at *
    go_wp2_with fail
    clear l71 hst
    obtain ⟨r2, b2, hr2, hlk2, hne2, heg2⟩ := look_two HSE.out s p hs hp
    have HR2 : Hid ((b2 = false ∧ ∃ e0 ∈ es1.toList, vw e0 = s ∧ pr e0 = p ∧ r2 = ptr (bk e0)) ∨ (b2 = true ∧ (∀ e ∈ es1.toList, ¬ (vw e = s ∧ pr e = p)) ∧ r2 = .pointer none)) := hr2
    have hbm2 : we.heap[E.Bm]? = some (.map es1 cl1) := HSE.out.bm.at_
    obtain ⟨A2, hA2, _, _, _, _, _, _, _, _, a54, _⟩ := HOE.out
    have c54 : we.cell? ⟨E.O, 54, none⟩ = some (.map (some E.Bm)) := cell_of hA2 54 _ a54
    have hld2 : ∀ w' : World, w'.rangeAt kb 0 (kc s p) → (ldS 71 (.pointer (some ⟨kb, 0, none⟩))).run Yba.prog w' = .ok (.agg (kc s p).toArray) w' := ldS71 kb 0 s p
    clear hr2 hA2 a54
    go_region_held3 (fun w' => w'.cell? ⟨E.O, 54, none⟩ = some (.map (some E.Bm)) ∧ w'.rangeAt kb 0 (kc s p) ∧ w'.heap[E.Bm]? = some (.map es1 cl1)) (first | (go_keep_ranges; done) | exact ⟨c54, hke, hbm2⟩) (fail)
    have HSF : Hid (St we.drew E (upd lv i s) (upd lp i p) (upd cnt i false) es1 cl1 cb1 vb1 cp1 vs1) := HSE.out.keep ok [] (Chg.refl _ we).drew (by simp)
    have HOF : Hid (Ord we.drew E view ext) := HOE.out.keep rfl
    have HVF : Hid (VoteAt we.drew Vb s p i) := HVE.out.keep rfl
    have HFF : Hid (Fr lo w we.drew) := HFE.out.trans ((Chg.refl [] we).drew.fr (by simp))
    have hkf : we.drew.rangeAt kb 0 (kc s p) := hke
    have cf54 : we.drew.cell? ⟨E.O, 54, none⟩ = some (.map (some E.Bm)) := c54
    have hszF : kb < we.drew.heap.size := hszE
    clear HSE HOE HVE HFE hlk2 hbm2 c54 hke hszE
    generalize we.drew = wf at *
    go_upto_if 84 with fail
    go_cut [9] (fun s9 wx => ∃ B, s9 = .pointer (some ⟨B, 0, none⟩) ∧ Mid2 E lo (upd lv i s) (upd lp i p) (upd cnt i false) view ext Vb s p i w B wx)
    case first =>
      rcases HR2.out with ⟨rfl, e1, he1, y1, y2, rfl⟩ | ⟨rfl, hno, rfl⟩
      · have HM : Hid (Mid2 E lo (upd lv i s) (upd lp i p) (upd cnt i false) view ext Vb s p i w (bk e1) wf) := ⟨HFF.out, HOF.out, HVF.out, .inl ⟨es1, cl1, cb1, vb1, cp1, vs1, e1, HSF.out, HFC.out, he1, y1, y2, rfl⟩⟩
        go_wp2_with fail
        go_meet
        case rel => exact ⟨_, rfl, HM.out⟩
      · have hb79 := build79
        have hTl : E.Bm < wf.heap.size := lt_of_heap HSF.out.bm.at_
        have hw4 : (wf.alloc tz).heap[E.Bm]? = some (.map es1 cl1) := (Below.heap_alloc wf _ E.Bm hTl).trans HSF.out.bm.at_
        have hput := (BMap.mk (w := (wf.alloc tz).drew) (b := E.Bm) hw4 HSF.out.bm.st HSF.out.bm.good).put (B := wf.heap.size) hs hp (fun e he hk => hno e he (by
          rw [(HSF.out.bm.good e he).key] at hk
          exact kv_inj hk))
        have HM : Hid (Mid2 E lo (upd lv i s) (upd lp i p) (upd cnt i false) view ext Vb s p i w wf.heap.size (setBlock (wf.alloc tz).drew E.Bm (.map (es1.push ⟨kv s p, ptr wf.heap.size, cl1⟩) (cl1 + 1)))) := by
          have ap := ok.apart
          simp only [List.nodup_cons, List.mem_cons, List.not_mem_nil, or_false, not_or, List.nodup_nil, and_true] at ap
          have oth : ∀ b, b < wf.heap.size → b ≠ E.Bm → (setBlock (wf.alloc tz).drew E.Bm (.map (es1.push ⟨kv s p, ptr wf.heap.size, cl1⟩) (cl1 + 1))).heap[b]? = wf.heap[b]? := fun b hb hn =>
            (heap_setBlock_other (w := (wf.alloc tz).drew) hw4 _ hn).trans (Below.heap_alloc wf _ b hb)
          have hVB : Vb ≠ E.Bm := fun e => by have h1 := HVF.out; unfold VoteAt at h1; rw [e, HSF.out.bm.at_] at h1; cases h1
          refine ⟨HFF.out.trans ((((Chg.refl [E.Bm] wf).alloc _).drew.setBlock E.Bm (by simp) hw4 _).fr (fun x hx => ?_)), HOF.out.keep (oth E.O (by have := HSF.out.siz; have := ok.O; omega) ap.2.2.1.2.2.1), HVF.out.keep (oth Vb (lt_of_heap HVF.out) hVB), .inr ⟨wf, es1, cl1, cb1, vb1, cp1, vs1, HSF.out, HFC.out, hno, rfl, ?_, oth, ?_, hput.2⟩⟩
          · simp only [List.mem_cons, List.not_mem_nil, or_false] at hx
            subst hx
            exact .inr ⟨hlo.Bm, .inl ⟨_, _, HSF.out.bm.at_⟩⟩
          · simp only [setBlock, Array.size_setIfInBounds]
            show (wf.alloc tz).heap.size = _
            simp
          · exact (heap_setBlock_other (w := (wf.alloc tz).drew) hw4 _ (by omega)).trans (MapKept.heap_alloc wf tz).1
        have hmu : (muS 40 (.map (some E.Bm)) (.agg (kc s p).toArray) (.pointer (some ⟨wf.heap.size, 0, none⟩))).run Yba.prog (wf.alloc tz).drew = .ok () (setBlock (wf.alloc tz).drew E.Bm (.map (es1.push ⟨kv s p, ptr wf.heap.size, cl1⟩) (cl1 + 1))) := hput.1
        have k54 : ∀ o : Obj, (wf.alloc o).drew.cell? ⟨E.O, 54, none⟩ = some (.map (some E.Bm)) := fun o => by
          show (wf.alloc o).cell? _ = _
          rw [World.cell?_alloc_past _ _ _ (by have := HSF.out.siz; have := ok.O; omega)]; exact cf54
        have kke : ∀ o : Obj, (wf.alloc o).drew.rangeAt kb 0 (kc s p) := fun o j v hv => by
          show (wf.alloc o).cell? _ = _
          rw [World.cell?_alloc_past _ _ _ hszF]; exact hkf j v hv
        have ap := ok.apart
        simp only [List.nodup_cons, List.mem_cons, List.not_mem_nil, or_false, not_or, List.nodup_nil, and_true] at ap
        have m54 : (setBlock (wf.alloc tz).drew E.Bm (.map (es1.push ⟨kv s p, ptr wf.heap.size, cl1⟩) (cl1 + 1))).cell? ⟨E.O, 54, none⟩ = some (.map (some E.Bm)) := by
          rw [World.cell?_of_block (w := (wf.alloc tz).drew) (heap_setBlock_other (w := (wf.alloc tz).drew) hw4 _ ap.2.2.1.2.2.1)]; exact k54 tz
        have mke : (setBlock (wf.alloc tz).drew E.Bm (.map (es1.push ⟨kv s p, ptr wf.heap.size, cl1⟩) (cl1 + 1))).rangeAt kb 0 (kc s p) := fun j v hv => by
          have hkB : kb ≠ E.Bm := by have := ok.Bm; omega
          rw [World.cell?_of_block (w := (wf.alloc tz).drew) (heap_setBlock_other (w := (wf.alloc tz).drew) hw4 _ hkB)]; exact kke tz j v hv
        clear hput hw4 ap
        generalize setBlock (wf.alloc tz).drew E.Bm (.map (es1.push ⟨kv s p, ptr wf.heap.size, cl1⟩) (cl1 + 1)) = wg at *
        unfold tz at hmu
        go_wp2_with (first | refine wpList_box rfl 79 (.tmp 85) #[.slice none 0 0, .int .u64 0, .slice none 0 0] rfl rfl ?_)
        go_region_held3 (fun w' => w'.cell? ⟨E.O, 54, none⟩ = some (.map (some E.Bm)) ∧ w'.rangeAt kb 0 (kc s p)) (first | exact ⟨m54, mke⟩ | exact ⟨k54 _, kke _⟩ | (go_keep_ranges; done)) (fail)
        go_wp2_with fail
        go_meet
        case rel => exact ⟨_, rfl, HM.out⟩
    case rest =>
      obtain ⟨B, rfl, hm2⟩ := hcut
      have c1 := hm2.2.1.g
      have v33 := hm2.2.2.1.who
      have HAD : Hid (Calls Yba.prog 6 #[.pointer (some ⟨B, 0, none⟩), .pointer (some ⟨E.G, 0, none⟩), .int .i64 i] wc.drew fun e w' => e = .returned (.bool true) ∧ Mid3 E lo (upd lv i s) (upd lp i p) (upd cnt i false) view ext Vb s p i w B w') := by
        obtain ⟨m1, m2, m3, m4⟩ := hm2
        have m1' : Fr lo w wc.drew := m1.trans ((Chg.refl [] wc).drew.fr (by simp))
        rcases m4 with ⟨es2, cl2, cb2, vb2, cp2, vs2, e1, st2, fl2, he1, y1, y2, rfl⟩ | ⟨w0, es2, cl2, cb2, vb2, cp2, vs2, st2, fl2, hno, rfl, hsx, hblk, hB, hbm⟩
        · have hst2 := st2.keep ok [] (Chg.refl _ wc).drew (by simp)
          exact add_old E ok lo hlo _ _ _ view ext Vb s p i w wc.drew hi (upd_same _ _ _) (upd_same _ _ _) (upd_same _ _ _) m1' (m2.keep rfl) (m3.keep rfl) hst2 fl2 he1 y1 y2 (len_le4 _ (hst2.nd e1 he1) (fun x hx => by have := ((hst2.mem e1 he1 x).1 hx).1; have := ok.nv; omega))
        · exact add_new E ok lo hlo _ _ _ view ext Vb s p i w wc.drew w0 hi (upd_same _ _ _) (upd_same _ _ _) (upd_same _ _ _) m1' (m2.keep rfl) (m3.keep rfl) st2 fl2 hno hsx hblk hB ⟨hbm.at_, hbm.st, hbm.good⟩
      clear hm2
      go_wp2_with fail
      go_region_held3 (fun w' => w'.cell? ⟨E.O, 1, none⟩ = some (.pointer (some ⟨E.G, 0, none⟩)) ∧ w'.cell? ⟨Vb, 33, none⟩ = some (.int .i64 i)) (first | (go_keep; done) | exact ⟨hm3.2.1.g, hm3.2.2.1.who⟩) (first | (go_at_call 6; refine HAD.out.mono ?_; rintro e w3 ⟨rfl, hm3⟩))
      obtain ⟨fr3, ord3, vt3, hbs3, C, X, l, hB3, hC3, hbB, hbC, own3, hl4, gen3, fin3⟩ := hm3
      have HM3 : Hid (Fr lo w w3 ∧ Ord w3 E view ext ∧ VoteAt w3 Vb s p i ∧ w3.heap[B]? = some (tb C (tot E.st (l ++ [i])) X) ∧ w3.heap[C]? = some (tc (mask (l ++ [i]))) ∧ w3.ownsRow E.base 66 65 X l.length (scs l)) := ⟨fr3, ord3, vt3, hB3, hC3, own3⟩
      have HFN : Hid (∀ (w3' : World) (V cap : Nat), Chg (B :: (X.ownBlock).toList) w3 w3' → Bal w3' E.st B C V cap (l ++ [i]) → (X.ownBlock = some V ∨ w3.heap.size ≤ V) → In E (upd lv i s) (upd lp i p) (upd cnt i false) s p i B w3' C V cap (l ++ [i])) := fin3
      clear fr3 ord3 vt3 hB3 hC3 own3 gen3 fin3 HAD c1 v33
      go_upto_region 14 with fail
      go_cut [] (fun wx => Mid4 E lo (upd lv i s) (upd lp i p) (upd cnt i false) view ext Vb s p i w B wx)
      case first =>
        have hB3 := HM3.out.2.2.2.1
        have hBl : B < w3.heap.size := lt_of_heap hB3
        have hVl : Vb < w3.heap.size := lt_of_heap HM3.out.2.2.1
        have c2 : w3.cell? ⟨B, 2, none⟩ = some X := cell_of hB3 2 _ rfl
        have f2 : w3.frozen? ⟨B, 2, none⟩ = false := frozen_of hB3 2
        have rsg : w3.rangeAt Vb 33 (sc i) := HM3.out.2.2.1.sg
        have s0 : w3.drew.rangeAt Vb 33 (sc i) := rsg
        have s1 : ∀ o : Obj, (w3.alloc o).drew.rangeAt Vb 33 (sc i) := fun o j v hv => by
          show (w3.alloc o).cell? _ = _
          rw [World.cell?_alloc_past _ _ _ hVl]; exact rsg j v hv
        have d1 : ∀ o : Obj, (w3.alloc o).drew.cell? ⟨B, 2, none⟩ = some X := fun o => by
          show (w3.alloc o).cell? _ = _
          rw [World.cell?_alloc_past _ _ _ hBl]; exact c2
        have d2 : ∀ o : Obj, (w3.alloc o).drew.frozen? ⟨B, 2, none⟩ = false := fun o => (World.frozen?_of_block (a := ⟨B, 2, none⟩) (w := w3) (w' := (w3.alloc o).drew) (Below.heap_alloc w3 o B hBl)).trans f2
        have hl66 : ∀ w' : World, w'.rangeAt Vb 33 (sc i) → (ldS 66 (.pointer (some ⟨Vb, 33, none⟩))).run Yba.prog w' = .ok (.agg (sc i).toArray) w' := ldS66 Vb 33 i
        have hbs := slice46 i
        obtain ⟨i0, hi0, hz0, hz1, hz2⟩ := info_parts info66
        have HI : Hid (Yba.prog.info? 66 = some i0 ∧ i0.zero = some (.agg (sc 0).toArray) ∧ i0.size = 65 ∧ i0.bytes = 72) := ⟨hi0, hz0, hz1, hz2⟩
        have HOW : Hid ((w3.alloc (.cells (sc i).toArray 66)).drew.ownsRow E.base 66 65 X l.length (scs l)) := HM3.out.2.2.2.2.2.alloc _
        have HNW : Hid (∀ j u, (sc i)[j]? = some u → (w3.alloc (.cells (sc i).toArray 66)).drew.cell? ((⟨w3.heap.size, 0, none⟩ : Addr).add j) = some u) := World.news_of_block (w := (w3.alloc (.cells (sc i).toArray 66)).drew) (cs := (sc i).toArray) (MapKept.heap_alloc w3 _).1
        have nB : X.ownBlock ≠ some B := fun e => by
          rcases HM3.out.2.2.2.2.2.2 with ⟨e', _⟩ | ⟨g', c', cur, e', hb, hh, _⟩
          · rw [e'] at e; cases e
          · rw [e'] at e
            simp [Value.ownBlock] at e
            subst e
            rw [hB3] at hh; cases hh
        clear hi0 hz0 hz1 hz2 hB3
        go_region_law (refine step_append_lies _ rfl (.tmp 110) (.tmp 115) 46 rfl E.base 66 i0 (.agg (sc 0).toArray) 65 72 Yba.underlying46 HI.out.1 HI.out.2.1 HI.out.2.2.1 HI.out.2.2.2 rfl (by decide) X l.length (scs l) (by simp [Act.eval, Act.put]) HOW.out ⟨w3.heap.size, 0, none⟩ 1 1 (sc i) (by simp [Act.eval, Act.put]) (by rw [sc_len]) HNW.out (sc_one i) (by decide) (by unfold maxLen; omega) (by omega) (by show E.base ≤ (w3.alloc _).heap.size; simp; omega) _ rfl ?_; intro g cap w4 ho hg hor hlt; have k4 : w4.cell? ⟨B, 2, none⟩ = some X := (hg.cell_far ⟨B, 2, none⟩ (by show B < (w3.alloc _).heap.size; simp; omega) (fun e => nB e.symm)).trans (d1 _); have e4 : w4.frozen? ⟨B, 2, none⟩ = false := (hg.frozen_far ⟨B, 2, none⟩ (by show B < (w3.alloc _).heap.size; simp; omega) (fun e => nB e.symm)).trans (d2 _))
        all_goals
          have HM4 : Hid (Mid4 E lo (upd lv i s) (upd lp i p) (upd cnt i false) view ext Vb s p i w B (w4.setCell ⟨B, 2, none⟩ (.slice (some ⟨g, 0, none⟩) (l.length + 1) cap))) :=
            app_done ok hlo _ HM3.out.1 HM3.out.2.1 HM3.out.2.2.1 HM3.out.2.2.2.1 HM3.out.2.2.2.2.1 hbB hbC HM3.out.2.2.2.2.2 hbs3 HFN.out ho hg hor
          go_wp2_with fail
          go_meet
          case rel => exact HM4.out
      case rest =>
        obtain ⟨fr5, ord5, vt5, C5, V5, cap5, l5, hin⟩ := hcut
        have hI := hin
        obtain ⟨es5, cl5, cb5, vb5, cp5, vs5, e1, st5, fl5, he1, y1, y2, z1, z2, z3, z4, z5⟩ := hin
        have hb5 := st5.bal e1 he1
        rw [← z1, ← z2, ← z3, ← z4, ← z5] at hb5
        have c1 := ord5.g
        have cs1 : wc.cell? ⟨B, 1, none⟩ = some (.int .u64 (tot E.st l5)) := cell_of hb5.b 1 _ rfl
        have hT : wc.drew.cell? ⟨E.G, 34, none⟩ = some (.int .u64 E.T) := st5.gen.tot
        have hmx := tot_le E.st l5 ok.st
        have hTm := ok.tot
        have HQ : Hid (Calls Yba.prog 7 #[.pointer (some ⟨E.G, 0, none⟩), .int .u64 (tot E.st l5)] wc.drew fun e w' => e = .returned (.bool (decide (2 * E.T < 3 * tot E.st l5))) ∧ wc.drew = w') :=
          quorum_at E.G (tot E.st l5) E.T wc.drew (by omega) (by omega) hT
        have hmem5 := st5.mem e1 he1
        have hnd5 := st5.nd e1 he1
        rw [← z1, ← z5] at hmem5 hnd5
        rw [y1, y2] at hmem5
        rw [upd_upd] at hmem5
        have HL5 : Hid (l5.Nodup ∧ ∀ j, j ∈ l5 ↔ j < E.nv ∧ upd cnt i true j = true ∧ upd lv i s j = s ∧ upd lp i p j = p) := ⟨hnd5, hmem5⟩
        have hS5 := st5
        rw [upd_upd] at hS5
        have HS5 : Hid (St wc E (upd lv i s) (upd lp i p) (upd cnt i true) es5 cl5 cb5 vb5 cp5 vs5) := hS5
        have HF5 : Hid (Full es5 vs5) := fl5
        have HB5 : Hid (Bal wc E.st B C5 V5 cap5 l5 ∧ E.base ≤ V5) := ⟨hb5, by rw [z3, z1]; exact (st5.new e1 he1).2.2⟩
        have HR5 : Hid (Fr lo w wc) := fr5
        have HO5 : Hid (Ord wc E view ext) := ord5
        have HV5 : Hid (VoteAt wc Vb s p i) := vt5
        clear hI st5 fl5 he1 y1 y2 z1 z2 z3 z4 z5 hb5 hmem5 hnd5 hS5 fr5 ord5 vt5 HFN HM3 hT hmx hTm
        generalize hq : decide (2 * E.T < 3 * tot E.st l5) = q at *
        have HQQ : Hid (decide (2 * E.T < 3 * tot E.st l5) = q) := hq
        clear hq
        generalize hT5 : tot E.st l5 = T5 at *
        have HT5 : Hid (tot E.st l5 = T5) := hT5
        clear hT5
        go_wp2_with fail
        go_region_held3 (fun w' => w'.cell? ⟨E.O, 1, none⟩ = some (.pointer (some ⟨E.G, 0, none⟩)) ∧ w'.cell? ⟨B, 1, none⟩ = some (.int .u64 T5)) (go_keep) (first | (go_at_call 7; refine HQ.out.mono ?_; rintro e w' ⟨rfl, rfl⟩))
        cases q
        · go_wp2_with fail
          exact bodyPost_ret (results_none rfl _ _ _) rfl ⟨rfl, HR5.out.trans ((Chg.refl [] wc).drew.fr (by simp)), l5, HL5.out.1, HL5.out.2, .inl ⟨by rw [HT5.out]; exact HQQ.out, HO5.out.keep rfl, _, _, _, _, _, _, HS5.out.keep ok [] (Chg.refl _ wc).drew (by simp), HF5.out⟩⟩
        · have HS6 : Hid (St wc.drew E (upd lv i s) (upd lp i p) (upd cnt i true) es5 cl5 cb5 vb5 cp5 vs5) := HS5.out.keep ok [] (Chg.refl _ wc).drew (by simp)
          have HO6 : Hid (Ord wc.drew E view ext) := HO5.out.keep rfl
          have HV6 : Hid (VoteAt wc.drew Vb s p i) := HV5.out.keep rfl
          have HR6 : Hid (Fr lo w wc.drew) := HR5.out.trans ((Chg.refl [] wc).drew.fr (by simp))
          have HB6 : Hid (Bal wc.drew E.st B C5 V5 cap5 l5 ∧ E.base ≤ V5) := ⟨HB5.out.1.keep rfl rfl rfl, HB5.out.2⟩
          clear HS5 HO5 HV5 HR5 HB5 HQ c1 cs1
          generalize wc.drew = wq at *
          have c54 := HO6.out.b
          have hrg : (rgS 40 (.map (some E.Bm))).run Yba.prog wq = .ok (.pointer (some ⟨wq.heap.size, 0, none⟩)) (wq.alloc (.mapIter (some E.Bm) cl5 #[] cl5)) := run_range_map (P := Yba.prog) wq 40 71 74 E.Bm es5 cl5 Yba.underlying40 HS6.out.bm.at_
          have HW0 : Hid (Swp s E.Bm cl5 es5 wq (wq.alloc (.mapIter (some E.Bm) cl5 #[] cl5)) #[] es5) := Swp.start HS6.out.bm
          generalize wq.alloc (.mapIter (some E.Bm) cl5 #[] cl5) = ws at *
          go_wp2_with fail
          clear hrg c54
          go_loopw [10] (fun v wr => ∃ seen es, Swp s E.Bm cl5 es5 wq wr seen es) (fun _ wr => todo es5 wq.heap.size wr)
          case atStart => exact ⟨_, _, HW0.out⟩
          case round =>
            obtain ⟨seen, es6, hsw⟩ := hrel
            have hBm : E.Bm < wq.heap.size := lt_of_heap HS6.out.bm.at_
            have hOB : E.O ≠ E.Bm := fun e => by
              obtain ⟨A, hA, _⟩ := HO6.out
              rw [e, HS6.out.bm.at_] at hA; cases hA
            have hVB : Vb ≠ E.Bm := fun e => by have h1 := HV6.out; unfold VoteAt at h1; rw [e, HS6.out.bm.at_] at h1; cases h1
            have hOl : E.O < wq.heap.size := by have := HS6.out.siz; have := ok.O; omega
            have hVl : Vb < wq.heap.size := lt_of_heap HV6.out
            have hn0 := ((stamped_iff es5 cl5).1 HS6.out.bm.st).2.1
            rcases hsw.next hBm with ⟨hn, heq⟩ | ⟨e, w2, hn, hen, hhf, huns⟩
            · have HSW : Hid (St wr E (upd lv i s) (upd lp i p) (fun j => upd cnt i true j && decide (s < upd lv i s j)) es6 cl5 cb5 vb5 cp5 vs5) := HS6.out.swept ok heq hsw.bm (by have := hsw.fr.size; omega) (fun b hb hn _ => hsw.fr.block b hb hn)
              have HFS : Hid (Full es6 vs5) := fun e he => HF5.out e (by rw [heq] at he; exact (List.mem_filter.1 he).1)
              have HOW : Hid (Ord wr E view ext) := HO6.out.keep (hsw.fr.block E.O hOl hOB)
              have HVW : Hid (VoteAt wr Vb s p i) := HV6.out.keep (hsw.fr.block Vb hVl hVB)
              have HRW : Hid (Fr lo w wr) := HR6.out.trans ((Chg.mk (S := [E.Bm]) hsw.fr.os hsw.fr.tape hsw.fr.output (by have := hsw.fr.size; omega) (fun b hb hn => hsw.fr.block b hb (by simpa using hn))).fr (fun x hx => by
                simp only [List.mem_cons, List.not_mem_nil, or_false] at hx
                subst hx
                exact .inr ⟨hlo.Bm, .inl ⟨_, _, HS6.out.bm.at_⟩⟩))
              have oB := ok.Bm
              have hBb : E.base ≤ B ∧ B < wq.heap.size := by
                refine ⟨?_, lt_of_heap HB6.out.1.b⟩
                exact hbB
              have HBW : Hid (Bal wr E.st B C5 V5 cap5 l5 ∧ E.base ≤ V5) := by
                have hV5 := HB6.out.2
                obtain ⟨_, _, cur, hv, _⟩ := HB6.out.1.v
                refine ⟨HB6.out.1.keep (hsw.fr.block B hBb.2 (by omega)) ?_ (hsw.fr.block V5 (lt_of_heap hv) (by omega)), hV5⟩
                exact hsw.fr.block C5 (lt_of_heap HB6.out.1.c) (fun e => by have h1 := HB6.out.1.c; rw [e, HS6.out.bm.at_] at h1; cases h1)
              clear hsw heq HS6 HO6 HV6 HR6 HB6 HF5 HW0
              have cv := HVW.out.view
              have vid := HVW.out.id
              have hl45 : ∀ w' : World, w'.rangeAt Vb 1 (ic p) → (ldS 45 (.pointer (some ⟨Vb, 1, none⟩))).run Yba.prog w' = .ok (.agg (ic p).toArray) w' := ldS45 Vb 1 p
              have cb2 : wr.cell? ⟨B, 2, none⟩ = some (.slice (some ⟨V5, 0, none⟩) l5.length cap5) := cell_of HBW.out.1.b 2 _ rfl
              have hbd := build48 s p ⟨V5, 0, none⟩ l5.length cap5
              have hal := alloc48
              have hst : (stS 48 (.pointer (some ⟨wr.heap.size, 0, none⟩)) (.agg (qc s p (.slice (some ⟨V5, 0, none⟩) l5.length cap5)).toArray)).run Yba.prog (wr.alloc (.cells (qc 0 0 (.slice none 0 0)).toArray 48)).drew = .ok () (wr.alloc (.cells (qc s p (.slice (some ⟨V5, 0, none⟩) l5.length cap5)).toArray 48)).drew := store48 s p ⟨V5, 0, none⟩ l5.length cap5 wr.drew
              have hVr : Vb < wr.heap.size := lt_of_heap HVW.out
              have hBr : B < wr.heap.size := lt_of_heap HBW.out.1.b
              have q0 : ∀ o : Obj, (wr.alloc o).drew.cell? ⟨Vb, 0, none⟩ = some (.int .u64 s) := fun o => by
                show (wr.alloc o).cell? _ = _
                rw [World.cell?_alloc_past _ _ _ hVr]; exact cv
              have qid : ∀ o : Obj, (wr.alloc o).drew.rangeAt Vb 1 (ic p) := fun o j v hv => by
                show (wr.alloc o).cell? _ = _
                rw [World.cell?_alloc_past _ _ _ hVr]; exact vid j v hv
              have qb2 : ∀ o : Obj, (wr.alloc o).drew.cell? ⟨B, 2, none⟩ = some (.slice (some ⟨V5, 0, none⟩) l5.length cap5) := fun o => by
                show (wr.alloc o).cell? _ = _
                rw [World.cell?_alloc_past _ _ _ hBr]; exact cb2
              go_wp2_with fail
              go_region_held3 (fun w' => w'.cell? ⟨Vb, 0, none⟩ = some (.int .u64 s) ∧ w'.rangeAt Vb 1 (ic p) ∧ w'.cell? ⟨B, 2, none⟩ = some (.slice (some ⟨V5, 0, none⟩) l5.length cap5)) (first | exact ⟨q0 _, qid _, qb2 _⟩ | exact ⟨cv, vid, cb2⟩ | (go_keep_ranges; done)) (fail)
              clear hbd hal hst q0 qid qb2 cv vid hl45 cb2 hn
              have hc7 : Chg [] wr (wr.alloc (.cells (qc s p (.slice (some ⟨V5, 0, none⟩) l5.length cap5)).toArray 48)).drew := ((Chg.refl _ wr).alloc _).drew
              have HS7 : Hid (St (wr.alloc (.cells (qc s p (.slice (some ⟨V5, 0, none⟩) l5.length cap5)).toArray 48)).drew E (upd lv i s) (upd lp i p) (fun j => upd cnt i true j && decide (s < upd lv i s j)) es6 cl5 cb5 vb5 cp5 vs5) := HSW.out.keep ok [] hc7 (by simp)
              have hsr := HSW.out.siz
              have oO := ok.O
              have HO7 : Hid (Ord (wr.alloc (.cells (qc s p (.slice (some ⟨V5, 0, none⟩) l5.length cap5)).toArray 48)).drew E view ext) := HOW.out.keep (hc7.block E.O (by omega) (by simp))
              have HV7 : Hid (VoteAt (wr.alloc (.cells (qc s p (.slice (some ⟨V5, 0, none⟩) l5.length cap5)).toArray 48)).drew Vb s p i) := HVW.out.keep (hc7.block Vb hVr (by simp))
              have HR7 : Hid (Fr lo w (wr.alloc (.cells (qc s p (.slice (some ⟨V5, 0, none⟩) l5.length cap5)).toArray 48)).drew) := HRW.out.trans (hc7.fr (by simp))
              have hVl5 : V5 < wr.heap.size := by obtain ⟨_, _, cur, hv, _⟩ := HBW.out.1.v; exact lt_of_heap hv
              have HB7 : Hid (Vt (wr.alloc (.cells (qc s p (.slice (some ⟨V5, 0, none⟩) l5.length cap5)).toArray 48)).drew V5 cap5 l5 ∧ E.base ≤ V5) := ⟨HBW.out.1.v.keep (hc7.block V5 hVl5 (by simp)), HBW.out.2⟩
              have HQ7 : Hid ((wr.alloc (.cells (qc s p (.slice (some ⟨V5, 0, none⟩) l5.length cap5)).toArray 48)).drew.heap[wr.heap.size]? = some (.cells (qc s p (.slice (some ⟨V5, 0, none⟩) l5.length cap5)).toArray 48 (0, 0))) := (MapKept.heap_alloc wr _).1
              have hls : wr.heap.size < (wr.alloc (.cells (qc s p (.slice (some ⟨V5, 0, none⟩) l5.length cap5)).toArray 48)).drew.heap.size := by show _ < (wr.alloc _).heap.size; simp
              clear hc7 HSW HOW HVW HRW HBW
              generalize (wr.alloc (.cells (qc s p (.slice (some ⟨V5, 0, none⟩) l5.length cap5)).toArray 48)).drew = w7 at *
              generalize wr.heap.size = Q at *
              obtain ⟨x56, c56⟩ := HO7.out.spare 56 (by decide)
              obtain ⟨x57, c57⟩ := HO7.out.spare 57 (by decide)
              have f56 := HO7.out.soft 56
              have f57 := HO7.out.soft 57
              have hc8 : Chg [E.O] w7 ((w7.setCell ⟨E.O, 56, none⟩ (.pointer (some ⟨Q, 0, none⟩))).setCell ⟨E.O, 57, none⟩ (.pointer none)) := ((Chg.refl _ w7).setCell E.O 56 (by simp) _).setCell E.O 57 (by simp) _
              have HO8 : Hid (Ord ((w7.setCell ⟨E.O, 56, none⟩ (.pointer (some ⟨Q, 0, none⟩))).setCell ⟨E.O, 57, none⟩ (.pointer none)) E view (.pointer (some ⟨Q, 0, none⟩))) := HO7.out.turned _ _
              have HS8 : Hid (St ((w7.setCell ⟨E.O, 56, none⟩ (.pointer (some ⟨Q, 0, none⟩))).setCell ⟨E.O, 57, none⟩ (.pointer none)) E (upd lv i s) (upd lp i p) (fun j => upd cnt i true j && decide (s < upd lv i s j)) es6 cl5 cb5 vb5 cp5 vs5) := HS7.out.keep ok _ hc8 (by simp)
              have hQ8 : ((w7.setCell ⟨E.O, 56, none⟩ (.pointer (some ⟨Q, 0, none⟩))).setCell ⟨E.O, 57, none⟩ (.pointer none)).heap[Q]? = some (.cells (qc s p (.slice (some ⟨V5, 0, none⟩) l5.length cap5)).toArray 48 (0, 0)) := (hc8.block Q hls (by simp; omega)).trans HQ7.out
              have HQ8 : Hid (((w7.setCell ⟨E.O, 56, none⟩ (.pointer (some ⟨Q, 0, none⟩))).setCell ⟨E.O, 57, none⟩ (.pointer none)).heap[Q]? = some (.cells (qc s p (.slice (some ⟨V5, 0, none⟩) l5.length cap5)).toArray 48 (0, 0))) := hQ8
              have hl48 : (ldS 48 (.pointer (some ⟨Q, 0, none⟩))).run Yba.prog ((w7.setCell ⟨E.O, 56, none⟩ (.pointer (some ⟨Q, 0, none⟩))).setCell ⟨E.O, 57, none⟩ (.pointer none)) = .ok (.agg (qc s p (.slice (some ⟨V5, 0, none⟩) l5.length cap5)).toArray) ((w7.setCell ⟨E.O, 56, none⟩ (.pointer (some ⟨Q, 0, none⟩))).setCell ⟨E.O, 57, none⟩ (.pointer none)) :=
                ldS48 Q 0 s p _ _ (fun j v hv => cell_of hQ8 _ v (by simpa using hv))
              have hsz8 : w7.heap.size ≤ ((w7.setCell ⟨E.O, 56, none⟩ (.pointer (some ⟨Q, 0, none⟩))).setCell ⟨E.O, 57, none⟩ (.pointer none)).heap.size := hc8.size
              have HCT := cert_ord HO8.out HS8.out.cm s p hp (.slice (some ⟨V5, 0, none⟩) l5.length cap5) rfl
              have HC8 : Hid (Chg [E.O] w7 ((w7.setCell ⟨E.O, 56, none⟩ (.pointer (some ⟨Q, 0, none⟩))).setCell ⟨E.O, 57, none⟩ (.pointer none))) := hc8
              have HCT' : Hid (Calls Yba.prog 8 #[.pointer (some ⟨E.O, 0, none⟩), .agg (qc s p (.slice (some ⟨V5, 0, none⟩) l5.length cap5)).toArray] ((w7.setCell ⟨E.O, 56, none⟩ (.pointer (some ⟨Q, 0, none⟩))).setCell ⟨E.O, 57, none⟩ (.pointer none)) fun e w' => e = .returned (.tuple #[]) ∧ Chg [E.O, E.Cm] ((w7.setCell ⟨E.O, 56, none⟩ (.pointer (some ⟨Q, 0, none⟩))).setCell ⟨E.O, 57, none⟩ (.pointer none)) w' ∧ CMap w' E.Cm ∧ Ord w' E view (.pointer (some ⟨Q, 0, none⟩))) := HCT
              clear HCT hc8 hQ8
              go_wp2_with (first | (go_at_call 8; refine HCT'.out.mono ?_; rintro e w9 ⟨rfl, hc9, hm9, ho9⟩))
              have hcc : Chg [E.O, E.Cm] w7 w9 := (HC8.out.mono (fun x hx => .inl (by simp at hx ⊢; exact .inl hx))).trans hc9
              have HS9 : Hid (St w9 E (upd lv i s) (upd lp i p) (fun j => upd cnt i true j && decide (s < upd lv i s j)) es6 cl5 cb5 vb5 cp5 vs5) := HS8.out.certified ok hc9 hm9
              have HO9 : Hid (Ord w9 E view (.pointer (some ⟨Q, 0, none⟩))) := ho9
              have hVO : Vb ∉ [E.O, E.Cm] := by
                have h1 := HV7.out
                unfold VoteAt at h1
                simp only [List.mem_cons, List.not_mem_nil, or_false, not_or]
                refine ⟨fun e => ?_, fun e => ?_⟩
                · obtain ⟨A, hA, _⟩ := HO7.out
                  rw [e, hA] at h1; cases h1
                · obtain ⟨_, _, hm, _⟩ := HS7.out.cm
                  rw [e, hm] at h1; cases h1
              have oC := ok.Cm
              have HV9 : Hid (VoteAt w9 Vb s p i) := HV7.out.keep (hcc.block Vb (lt_of_heap HV7.out) hVO)
              have HR9 : Hid (Fr lo w w9) := HR7.out.trans (hcc.fr (fun x hx => by
                simp only [List.mem_cons, List.not_mem_nil, or_false] at hx
                rcases hx with rfl | rfl
                · obtain ⟨A, hA, _⟩ := HO7.out
                  exact .inr ⟨hlo.O, .inr ⟨_, _, _, hA, by simp⟩⟩
                · obtain ⟨_, _, hm, _⟩ := HS7.out.cm
                  exact .inr ⟨hlo.Cm, .inl ⟨_, _, hm⟩⟩))
              have hb5 := HB7.out.2
              have HB9 : Hid (Vt w9 V5 cap5 l5) := HB7.out.1.keep (hcc.block V5 (by omega) (by simp; omega))
              have HQ9 : Hid (w9.heap[Q]? = some (.cells (qc s p (.slice (some ⟨V5, 0, none⟩) l5.length cap5)).toArray 48 (0, 0))) := (hcc.block Q hls (by simp; omega)).trans HQ7.out
              have hQs : Q < w9.heap.size := by have := hcc.size; omega
              clear hcc hc9 hm9 ho9 HS8 HO8 HC8 HCT' HQ8 hl48 hsz8 HS7 HO7 HV7 HR7 HB7 HQ7 c56 c57 f56 f57 hVO
              have c3 := HO9.out.v
              have cv := HV9.out.view
              by_cases hvs : view ≤ s
              · have tv : decide ((view : Int) ≤ (s : Int)) = true := by simp; omega
                obtain ⟨v1, hv1⟩ : ∃ v1 : Nat, v1 = (s + 1) % 2 ^ 64 := ⟨_, rfl⟩
                have htw : IntKind.u64.wrap ((s : Int) + 1) = (v1 : Int) := by
                  simp [IntKind.wrap, IntKind.bits, IntKind.signed]
                  omega
                have HEN : Hid (Calls Yba.prog 9 #[.pointer (some ⟨E.O, 0, none⟩), .int .i64 now, .int .u64 v1] w9.drew fun e w' => e = .returned (.tuple #[]) ∧ Chg [E.O] w9.drew w' ∧ Ord w' E v1 (.pointer (some ⟨Q, 0, none⟩))) := enter_ord (w := w9.drew) (HO9.out.keep rfl) HS9.out.tm v1 now
                have HV1 : Hid (v1 = (s + 1) % 2 ^ 64) := hv1
                clear hv1
                go_region_held3 (fun w' => w'.cell? ⟨E.O, 3, none⟩ = some (.int .u64 view) ∧ w'.cell? ⟨Vb, 0, none⟩ = some (.int .u64 s)) (go_keep) (fail)
                go_wp2_with (first | (go_at_call 9; refine HEN.out.mono ?_; rintro e w10 ⟨rfl, hc10, ho10⟩))
                have hcx : Chg [E.O] w9 w10 := ((Chg.refl _ w9).drew).trans hc10
                go_end0
                refine ⟨rfl, HR9.out.trans (hcx.fr (fun x hx => ?_)), l5, HL5.out.1, HL5.out.2, .inr ⟨by rw [HT5.out]; exact HQQ.out, Q, V5, cap5, ?_, ⟨_, _, _, _, _, _, HS9.out.keep ok _ hcx (by simp), HFS.out⟩, (hcx.block Q hQs (by simp; omega)).trans HQ9.out, HB9.out.keep (hcx.block V5 (by omega) (by simp; omega))⟩⟩
                · simp only [List.mem_cons, List.not_mem_nil, or_false] at hx
                  subst hx
                  obtain ⟨A, hA, _⟩ := HO9.out
                  exact .inr ⟨hlo.O, .inr ⟨_, _, _, hA, by simp⟩⟩
                · rw [if_pos hvs, ← HV1.out]; exact ho10
              · have tv : decide ((view : Int) ≤ (s : Int)) = false := by simp; omega
                go_region_held3 (fun w' => w'.cell? ⟨E.O, 3, none⟩ = some (.int .u64 view) ∧ w'.cell? ⟨Vb, 0, none⟩ = some (.int .u64 s)) (go_keep) (fail)
                go_wp2_with fail
                go_end0
                refine ⟨rfl, HR9.out.trans ((Chg.refl [] w9).drew.fr (by simp)), l5, HL5.out.1, HL5.out.2, .inr ⟨by rw [HT5.out]; exact HQQ.out, Q, V5, cap5, ?_, ⟨_, _, _, _, _, _, HS9.out.keep ok [] (Chg.refl _ w9).drew (by simp), HFS.out⟩, HQ9.out, HB9.out.keep rfl⟩⟩
                rw [if_neg hvs]; exact HO9.out.keep rfl
            · have HHF : Hid (Half s E.Bm cl5 es5 wq w2 seen es6 e) := hhf
              have HUN : Hid (seen.contains e.born = false) := huns
              have HSW : Hid (Swp s E.Bm cl5 es5 wq wr seen es6) := hsw
              have HN0 : Hid ((es5.toList.map (·.born)).Nodup) := hn0
              have hen' : (enS (.pointer (some ⟨wq.heap.size, 0, none⟩))).run Yba.prog w2 = .ok (.tuple #[.agg (kc (vw e) (pr e)).toArray, e.val]) w2 := hen
              have hal := alloc71 w2
              have hst := store71 (vw e) (pr e) w2
              have HH3 : Hid (Half s E.Bm cl5 es5 wq (w2.alloc (.cells (kc (vw e) (pr e)).toArray 71)) seen es6 e) := hhf.keep hBm ((Chg.refl _ w2).alloc _)
              have hkb : (w2.alloc (.cells (kc (vw e) (pr e)).toArray 71)).rangeAt w2.heap.size 0 (kc (vw e) (pr e)) := range_new w2 71 (kc (vw e) (pr e))
              have hkl : w2.heap.size < (w2.alloc (.cells (kc (vw e) (pr e)).toArray 71)).heap.size := by simp
              have hkq : wq.heap.size < w2.heap.size := hhf.fr.size
              clear hhf huns hsw hn0 hen
              generalize w2.alloc (.cells (kc (vw e) (pr e)).toArray 71) = w3' at *
              generalize w2.heap.size = kb2 at *
              have ck : w3'.cell? ⟨kb2, 0, none⟩ = some (.int .u64 (vw e)) := by simpa using hkb 0 _ rfl
              have cv : w3'.cell? ⟨Vb, 0, none⟩ = some (.int .u64 s) := by rw [World.cell?_of_block (HH3.out.fr.block Vb hVl hVB)]; exact HV6.out.view
              have c54 : w3'.cell? ⟨E.O, 54, none⟩ = some (.map (some E.Bm)) := by rw [World.cell?_of_block (HH3.out.fr.block E.O hOl hOB)]; exact HO6.out.b
              generalize e.val = ev at *
              by_cases hcmp : vw e ≤ s
              · have tc1 : decide ((vw e : Int) ≤ (s : Int)) = true := by simp; omega
                have HHD : Hid (Half s E.Bm cl5 es5 wq w3'.drew.drew seen es6 e) := HH3.out.keep hBm (Chg.refl _ w3').drew.drew
                obtain ⟨w4, hdel, ⟨es7, hsw7⟩, hfar⟩ := HHD.out.drop hBm HN0.out hcmp
                have HRN : Hid (∀ ty, (Builtin.delete_ #[40, 71] ty #[.map (some E.Bm), .agg (kc (vw e) (pr e)).toArray]).run Yba.prog w3'.drew.drew = .ok (.tuple #[]) w4) := hdel
                have HW7 : Hid (Swp s E.Bm cl5 es5 wq w4 (seen.push e.born) es7) := hsw7
                have k54 : w4.cell? ⟨E.O, 54, none⟩ = some (.map (some E.Bm)) := by rw [World.cell?_of_block (hfar E.O hOB)]; exact c54
                have kkb : w4.rangeAt kb2 0 (kc (vw e) (pr e)) := fun j v hv => by rw [World.cell?_of_block (w := w3') (hfar kb2 (by omega))]; exact hkb j v hv
                have hld : ∀ w' : World, w'.rangeAt kb2 0 (kc (vw e) (pr e)) → (ldS 71 (.pointer (some ⟨kb2, 0, none⟩))).run Yba.prog w' = .ok (.agg (kc (vw e) (pr e)).toArray) w' := ldS71 kb2 0 (vw e) (pr e)
                have hkd : w3'.drew.drew.rangeAt kb2 0 (kc (vw e) (pr e)) := hkb
                clear hdel hsw7 hfar
                have HTD : Hid (todo es5 wq.heap.size w4 < todo es5 wq.heap.size wr) := by
                  obtain ⟨c0, _, h1⟩ := HW7.out.it
                  obtain ⟨c1', _, h2⟩ := HSW.out.it
                  show _ < _
                  rw [todo_at h1, todo_at h2]
                  exact todo_lt _ HHF.out.in0 HUN.out
                generalize vw e = ve at *
                generalize pr e = pe at *
                go_wp2_with fail
                go_region_held3 (fun w' => w'.cell? ⟨kb2, 0, none⟩ = some (.int .u64 ve) ∧ w'.cell? ⟨Vb, 0, none⟩ = some (.int .u64 s)) (go_keep) (fail)
                go_wp2_with fail
                go_region_held3 (fun w' => w'.cell? ⟨E.O, 54, none⟩ = some (.map (some E.Bm)) ∧ w'.rangeAt kb2 0 (kc ve pe)) (first | exact ⟨k54, kkb⟩ | exact ⟨c54, hkd⟩ | (go_keep_ranges; done)) (first | (refine step_delete (by rfl) (.tmp 149) (.tmp 150) (by rfl) E.Bm (.agg (kc ve pe).toArray) (by rfl) (by rfl) w4 HRN.out ?_))
                go_wp2_with fail
                go_roundw
                case rel => exact ⟨_, _, HW7.out⟩
                case measure => exact HTD.out
              · have tc1 : decide ((vw e : Int) ≤ (s : Int)) = false := by simp; omega
                have HW7 : Hid (Swp s E.Bm cl5 es5 wq w3'.drew (seen.push e.born) es6) := (HH3.out.keep hBm (Chg.refl _ w3').drew).stay HN0.out (by omega)
                have HTD : Hid (todo es5 wq.heap.size w3'.drew < todo es5 wq.heap.size wr) := by
                  obtain ⟨c0, _, h1⟩ := HW7.out.it
                  obtain ⟨c1', _, h2⟩ := HSW.out.it
                  show _ < _
                  rw [todo_at h1, todo_at h2]
                  exact todo_lt _ HHF.out.in0 HUN.out
                generalize vw e = ve at *
                generalize pr e = pe at *
                go_wp2_with fail
                go_region_held3 (fun w' => w'.cell? ⟨kb2, 0, none⟩ = some (.int .u64 ve) ∧ w'.cell? ⟨Vb, 0, none⟩ = some (.int .u64 s)) (go_keep) (fail)
                go_wp2_with fail
                go_roundw
                case rel => exact ⟨_, _, HW7.out⟩
                case measure => exact HTD.out
end
end Go.Proofs.Ybulkmns
