/-
  The law: its walk.
-/
import Derived.Test.YbulkmnsLsu
import Derived.BigQuiet
import Derived.Laws.StructEq
import Derived.Deep.CutBlock
namespace Go.Proofs.Ybulkmns
open Go.RowKit Go.MapKept
open Go.ChangeMaps (setBlock heap_setBlock_same heap_setBlock_other)
set_option linter.unusedSimpArgs false
set_option linter.unusedVariables false
def t3 (a s c : Nat) : List Value := [.int .u8 a, .int .u64 s, .int .u8 c]
theorem ld62 (p : Value) : Instr.loadAt 62 p = ldS 62 p := rfl
theorem al62 (b : Bool) (v : Value) : Instr.alloc 62 b v = alS 62 b v := rfl
theorem st62 (p v : Value) : Instr.storeAt 62 p v = stS 62 p v := rfl
theorem size62 : (Yba.prog.info? 62).map (·.size) = some 3 := by kernel_rfl
theorem ldS62 (b o a s c : Nat) (w : World) (h : w.rangeAt b o (t3 a s c)) : (ldS 62 (.pointer (some ⟨b, o, none⟩))).run Yba.prog w = .ok (.agg (t3 a s c).toArray) w :=
  run_loadAt_mid w b o 62 (t3 a s c) _ h Yba.underlying62 rfl size62
theorem alloc62 (w : World) : (alS 62 true (.tuple #[])).run Yba.prog w = .ok (.pointer (some ⟨w.heap.size, 0, none⟩)) (w.alloc (.cells (t3 0 0 0).toArray 62)) := by kernel_rfl
theorem store62 (a s c : Nat) (w : World) : (stS 62 (.pointer (some ⟨w.heap.size, 0, none⟩)) (.agg (t3 a s c).toArray)).run Yba.prog (w.alloc (.cells (t3 0 0 0).toArray 62)) = .ok () (w.alloc (.cells (t3 a s c).toArray 62)) := by
  have := run_storeAt_mid (P := Yba.prog) (w.alloc (.cells (t3 0 0 0).toArray 62)) w.heap.size 0 62 (t3 a s c).toArray (there_new w 62 (t3 0 0 0).toArray) (by exact size62) (all_oneCell_toArray (by intro u hu; simp [t3] at hu; rcases hu with rfl | rfl | rfl <;> rfl))
  rw [setCells_new w 62 (t3 a s c).toArray.toList (t3 0 0 0).toArray (by simp [t3])] at this
  unfold stS
  simpa using this
def mmS (t : TypeId) (v : Option Value) : Sem Value := Instr.makeMap t v
theorem mm_eq (t : TypeId) (v : Option Value) : Instr.makeMap t v = mmS t v := rfl
theorem map38 (w : World) : (mmS 38 none).run Yba.prog w = .ok (.map (some w.heap.size)) (w.alloc (.map #[] 0)) := by kernel_rfl
theorem map39 (w : World) : (mmS 39 none).run Yba.prog w = .ok (.map (some w.heap.size)) (w.alloc (.map #[] 0)) := by kernel_rfl
theorem map40 (w : World) : (mmS 40 none).run Yba.prog w = .ok (.map (some w.heap.size)) (w.alloc (.map #[] 0)) := by kernel_rfl
attribute [local go_sem ↓] ld45 ld66 ld71 bd31 bd35 bd59 bd66 bd68 bd71 bs27 al45 ms41 mm_eq ld62 al62 st62

theorem neq53 (b : Nat) (w : World) : (binOp .neq 53 (.pointer (some ⟨b, 0, none⟩)) (.pointer none)).run Yba.prog w = .ok (.bool true) w := by kernel_rfl
theorem neq53' (w : World) : (binOp .neq 53 (.pointer none) (.pointer none)).run Yba.prog w = .ok (.bool false) w := by kernel_rfl
theorem eg53 (b : Nat) (w : World) : (eqGuard .neq 53 (.tmp 208) (.const (.pointer none)) (.pointer (some ⟨b, 0, none⟩)) (.pointer none)).run Yba.prog w = .ok () w := by kernel_rfl
theorem eg53' (w : World) : (eqGuard .neq 53 (.tmp 208) (.const (.pointer none)) (.pointer none) (.pointer none)).run Yba.prog w = .ok () w := by kernel_rfl
theorem st66S (p v : Value) : Instr.storeAt 66 p v = stS 66 p v := rfl
theorem al66 (b : Bool) (v : Value) : Instr.alloc 66 b v = alS 66 b v := rfl
theorem alloc66 (w : World) : (alS 66 true (.tuple #[])).run Yba.prog w = .ok (.pointer (some ⟨w.heap.size, 0, none⟩)) (w.alloc (.cells (sc 0).toArray 66)) := by kernel_rfl
theorem store66 (x : Nat) (w : World) : (stS 66 (.pointer (some ⟨w.heap.size, 0, none⟩)) (.agg (sc x).toArray)).run Yba.prog (w.alloc (.cells (sc 0).toArray 66)) = .ok () (w.alloc (.cells (sc x).toArray 66)) := by
  have := run_storeAt_mid (P := Yba.prog) (w.alloc (.cells (sc 0).toArray 66)) w.heap.size 0 66 (sc x).toArray (by
    have h := there_new w 66 (sc 0).toArray
    have e : (sc 0).toArray.size = (sc x).toArray.size := by simp [sc_len]
    rwa [e] at h) (by rw [List.size_toArray, sc_len]; exact size66) (all_oneCell_toArray (sc_one x))
  rw [setCells_new w 66 (sc x).toArray.toList (sc 0).toArray (by simp [sc_len])] at this
  unfold stS
  simpa using this
attribute [local go_sem ↓] st66S al66
theorem neq71 (v p : Nat) (hv : v < 2 ^ 64) (hp : p < 256) (w : World) : (binOp .neq 71 (.agg (kc v p).toArray) (.agg (kc v p).toArray)).run Yba.prog w = .ok (.bool false) w := by
  obtain ⟨ls, h⟩ := lits_kc 7 v p hv hp
  obtain ⟨r, hr, hiff⟩ := run_equalIn_deep (P := Yba.prog) 9997 3 71 (by kernel_rfl) w _ _ (.agg (kc v p).toArray) (.agg (kc v p).toArray) ls ls (by kernel_rfl) (by kernel_rfl) h h
  rw [run_neq_struct, show (10000 : Nat) = 9997 + 3 from rfl, hr, hiff.2 rfl]
  rfl
theorem eg71 (v p : Nat) (w : World) : (eqGuard .neq 71 (.tmp 296) (.tmp 301) (.agg (kc v p).toArray) (.agg (kc v p).toArray)).run Yba.prog w = .ok () w := by kernel_rfl
theorem len40 {w : World} {b : Nat} {es : Array MapEntry} {cl : Nat} (h : w.heap[b]? = some (.map es cl)) (ty : TypeId) : (Builtin.len_ #[40] ty #[.map (some b)]).run Yba.prog w = .ok (.int .i64 ((es.size : Nat) : Int)) w := by
  simp [Builtin.len_, run_underlying Yba.underlying40, MapKept.run_getObj_map h, Result.andThen, goInt]
theorem twin_any (lv lp : Nat → Nat) (cnt : Nat → Bool) (j h : Nat) : (List.range (h + 1)).any (twin lv lp cnt j) = ((List.range h).any (twin lv lp cnt j) || twin lv lp cnt j h) := by
  rw [List.range_succ, List.any_append]; simp
theorem twin_iff (lv lp : Nat → Nat) (cnt : Nat → Bool) (j h : Nat) : twin lv lp cnt j h = true ↔ cnt h = true ∧ lv h = lv j ∧ lp h = lp j := by
  unfold twin; simp [and_assoc]
/-- the steps that came in -/
def IsSteps (w : World) (a : Option Addr) (n : Nat) (who vws prp : Nat → Nat) : Prop :=
  n = 0 ∨ ∃ b o, a = some ⟨b, o, none⟩ ∧ b < w.heap.size ∧ ∀ k, k < n → w.cell? ⟨b, o + k * 3, none⟩ = some (.int .u8 (who k)) ∧ w.cell? ⟨b, o + k * 3 + 1, none⟩ = some (.int .u64 (vws k)) ∧ w.cell? ⟨b, o + k * 3 + 2, none⟩ = some (.int .u8 (prp k)) ∧ who k < 256 ∧ vws k < 2 ^ 64 ∧ prp k < 256

section
theorem set_start (w : World) (x st : Nat → Nat) : SetR w x st 0 (((w.alloc (.cells #[.int .u8 (x 0), .int .u8 (x 1), .int .u8 (x 2), .int .u8 (x 3)] 22)).alloc (.cells (gc (.slice none 0 0) 0).toArray 31)).alloc (.cells #[.int .u64 0, .int .u64 0, .int .u64 0, .int .u64 0] 32)) := by
  have k0 : ∀ (w : World) (o : Obj) (n : Nat), n = w.heap.size → (w.alloc o).heap[n]? = some o := fun w o n h => by subst h; exact (MapKept.heap_alloc w o).1
  have k1 : ∀ (w : World) (o : Obj) (n : Nat), n < w.heap.size → (w.alloc o).heap[n]? = w.heap[n]? := fun w o n h => Below.heap_alloc w o n h
  refine ⟨(((Below.refl _ _).alloc (Nat.le_refl _) _).alloc (by simp) _).alloc (by simp; omega) _, by simp, ?_, ⟨_, ?_, rfl, .inl ⟨rfl, rfl⟩⟩, ?_⟩
  · unfold Arr
    rw [k1 _ _ _ (by simp; omega), k1 _ _ _ (by simp), k0 _ _ _ rfl]
    rfl
  · rw [k1 _ _ _ (by simp), k0 _ _ _ (by simp)]
  · unfold Arr
    rw [k0 _ _ _ (by simp)]
    rfl

set_option maxRecDepth 100000
set_option maxHeartbeats 8000000
theorem law_main (n : Nat) (hn : n < 256) (x : Nat → Nat) (hx : ∀ j, x j < 256) (a : Option Addr) (len cap : Nat) (who vws prp : Nat → Nat) (w : World) (hlen : len ≤ 1024) (hs : IsSteps w a len who vws prp) :
    Calls Yba.prog 3 #[.int .u8 n, .agg #[.int .u8 (x 0), .int .u8 (x 1), .int .u8 (x 2), .int .u8 (x 3)], .slice a len cap] w fun e w' => e = .returned (.bool true) ∧ Below w.heap.size w w' := by
  have HS : Hid (IsSteps w a len who vws prp) := hs
  obtain ⟨m, hm⟩ : ∃ m : Nat, m = n % 4 := ⟨_, rfl⟩
  obtain ⟨nv, hnv⟩ : ∃ nv : Nat, nv = m + 1 := ⟨_, rfl⟩
  have h1 : 1 ≤ nv := by omega
  have h4 : nv ≤ 4 := by omega
  have ht : (n : Int).tmod 4 = (m : Int) := by rw [Int.tmod_eq_emod_of_nonneg (by omega)]; omega
  have htw : IntKind.i64.wrap ((m : Int) + 1) = (nv : Int) := by rw [IntKind.wrap_i64]; omega
  have htl : decide ((1024 : Int) < (len : Int)) = false := by simp; omega
  have hb31 := build31
  obtain ⟨st, hst⟩ : ∃ st : Nat → Nat, st = fun j => x j % 5 := ⟨_, rfl⟩
  have hw1 : wrap64 (m : Int) = m := by unfold wrap64; omega
  have hw2 : wrap64 ((m : Int) + 1) = nv := by unfold wrap64; omega
  have HST : Hid (st = fun j => x j % 5) := hst
  clear hs hm hnv hst
  go_enter Yba.func3, Yba.ntmps3
  go_upto_block 0 with (first | refine wpList_box rfl 31 (.tmp 48) _ rfl rfl ?_)
  rw [show w.heap.size + 1 + 1 = w.heap.size + 2 from rfl]
  have HW0 : Hid (SetR w x st 0 (((w.alloc (.cells #[.int .u8 (x 0), .int .u8 (x 1), .int .u8 (x 2), .int .u8 (x 3)] 22)).alloc (.cells (gc (.slice none 0 0) 0).toArray 31)).alloc (.cells #[.int .u64 0, .int .u64 0, .int .u64 0, .int .u64 0] 32))) := set_start w x st
  clear hb31 htl htw ht
  generalize ((w.alloc (.cells #[.int .u8 (x 0), .int .u8 (x 1), .int .u8 (x 2), .int .u8 (x 3)] 22)).alloc (.cells (gc (.slice none 0 0) 0).toArray 31)).alloc (.cells #[.int .u64 0, .int .u64 0, .int .u64 0, .int .u64 0] 32) = w0 at *
  go_cut [10] (fun v10 wx => v10 = .int .u64 ((sumTo st (fun _ => true) nv : Nat) : Int) ∧ SetR w x st nv wx)
  case first =>
    go_wp2_with fail
    as_aux_lemma =>
      go_loopw [10, 11] (fun t i wr => ∃ k : Nat, k ≤ nv ∧ i = .int .i64 k ∧ t = .int .u64 ((sumTo st (fun _ => true) k : Nat) : Int) ∧ SetR w x st k wr) (fun _ i _ => nv - (intOf i).toNat)
      case atStart => exact ⟨0, Nat.zero_le _, rfl, rfl, HW0.out⟩
      case round =>
        obtain ⟨k, hk, rfl, rfl, hset⟩ := hrel
        have HR : Hid (SetR w x st k wr) := hset
        by_cases hlt : k < nv
        · have hk4 : k < 4 := by omega
          have cst : wr.cell? ⟨w.heap.size, k, none⟩ = some (.int .u8 (x k)) := hset.stk.cell hk4
          have carr : wr.cell? ⟨w.heap.size + 2, k, none⟩ = some (.int .u64 0) := by simpa using hset.arr.cell hk4
          have farr : wr.frozen? ⟨w.heap.size + 2, k, none⟩ = false := hset.arr.soft k
          have hst5 : st k = x k % 5 := by rw [HST.out]
          have htm : (x k : Int).tmod 5 = (st k : Int) := by rw [Int.tmod_eq_emod_of_nonneg (by omega)]; omega
          have hcv : IntKind.u64.wrap (st k : Int) = (st k : Int) := wrap_small _ (by omega)
          have tlt : decide ((k : Int) < (nv : Int)) = true := by simp; omega
          have hk4i : (k : Int) < 4 := by omega
          have hk0 : (0 : Int) ≤ (k : Int) := by omega
          obtain ⟨X, hGx, hown⟩ := hset.gen
          have hws := hset.size
          have hG1 : (wr.setCell ⟨w.heap.size + 2, k, none⟩ (.int .u64 (st k))).heap[w.heap.size + 1]? = some (.cells (gc X 0).toArray 31 (0, 0)) := (Below.heap_setCell wr ⟨w.heap.size + 2, k, none⟩ _ (w.heap.size + 1) (by show w.heap.size + 1 ≠ w.heap.size + 2; omega)).trans hGx
          have HOW : Hid ((wr.setCell ⟨w.heap.size + 2, k, none⟩ (.int .u64 (st k))).ownsRow (w.heap.size + 3) 35 35 X k (mcs st k)) := by
            refine ⟨hown.1, ?_⟩
            rcases hown.2 with e | ⟨g', c', cur, e, hb, hh, r⟩
            · exact .inl e
            · exact .inr ⟨g', c', cur, e, hb, (Below.heap_setCell wr ⟨w.heap.size + 2, k, none⟩ _ g' (by show g' ≠ w.heap.size + 2; omega)).trans hh, r⟩
          have a1 : (wr.setCell ⟨w.heap.size + 2, k, none⟩ (.int .u64 (st k))).cell? ⟨w.heap.size + 2, k, none⟩ = some (.int .u64 (st k)) := by
            have := (hset.arr.put hk4 (.int .u64 (st k))).cell hk4
            rwa [upd_same] at this
          have hs1 : (wr.setCell ⟨w.heap.size + 2, k, none⟩ (.int .u64 (st k))).heap.size = wr.heap.size := by simp [World.setCell]
          have HFN : Hid (∀ (w4 : World) (g cap : Nat) (o : Obj), w4.ownsRow (w.heap.size + 3) 35 35 (.slice (some ⟨g, 0, none⟩) (k + 1) cap) (k + 1) (mcs st k ++ mc (st k)) → ((wr.setCell ⟨w.heap.size + 2, k, none⟩ (.int .u64 (st k))).alloc o).drew.grownBy w4 X.ownBlock → SetR w x st (k + 1) (w4.setCell ⟨w.heap.size + 1, 32, none⟩ (.slice (some ⟨g, 0, none⟩) (k + 1) cap))) :=
            fun w4 g cap o ho hg => HR.out.round hk4 hGx hown o ho hg
          clear hset hGx hown hst5
          as_aux_lemma =>
            go_wp2_with fail
            clear cst carr farr htm hcv tlt
            generalize wr.setCell ⟨w.heap.size + 2, k, none⟩ (.int .u64 (st k)) = w1 at *
            have c32 : w1.cell? ⟨w.heap.size + 1, 32, none⟩ = some X := cell_of hG1 32 _ rfl
            have f32 : w1.frozen? ⟨w.heap.size + 1, 32, none⟩ = false := frozen_of hG1 32
            have hGl : w.heap.size + 1 < w1.heap.size := by omega
            have hw3 : w.heap.size + 3 ≤ w1.heap.size := by omega
            clear hs1 hws
            have d1 : ∀ o : Obj, (w1.alloc o).drew.cell? ⟨w.heap.size + 1, 32, none⟩ = some X := fun o => by
              show (w1.alloc o).cell? _ = _
              rw [World.cell?_alloc_past _ _ _ hGl]; exact c32
            have d2 : ∀ o : Obj, (w1.alloc o).drew.frozen? ⟨w.heap.size + 1, 32, none⟩ = false := fun o => (World.frozen?_of_block (a := ⟨w.heap.size + 1, 32, none⟩) (w := w1) (w' := (w1.alloc o).drew) (Below.heap_alloc w1 o _ hGl)).trans f32
            have d3 : ∀ o : Obj, (w1.alloc o).drew.cell? ⟨w.heap.size + 2, k, none⟩ = some (.int .u64 (st k)) := fun o => by
              show (w1.alloc o).cell? _ = _
              rw [World.cell?_alloc_past _ _ _ (by show w.heap.size + 2 < w1.heap.size; omega)]; exact a1
            have hb35 := build35 (st k)
            have hs27 := slice27 (st k)
            obtain ⟨i0, hi0, hz0, hz1, hz2⟩ := info_parts info35
            have HI : Hid (Yba.prog.info? 35 = some i0 ∧ i0.zero = some (.agg (mc 0).toArray) ∧ i0.size = 35 ∧ i0.bytes = 72) := ⟨hi0, hz0, hz1, hz2⟩
            have HOA : Hid ((w1.alloc (.cells (mc (st k)).toArray 35)).drew.ownsRow (w.heap.size + 3) 35 35 X k (mcs st k)) := HOW.out.alloc _
            have HNW : Hid (∀ j u, (mc (st k))[j]? = some u → (w1.alloc (.cells (mc (st k)).toArray 35)).drew.cell? ((⟨w1.heap.size, 0, none⟩ : Addr).add j) = some u) := World.news_of_block (w := (w1.alloc (.cells (mc (st k)).toArray 35)).drew) (cs := (mc (st k)).toArray) (MapKept.heap_alloc w1 _).1
            have nG : X.ownBlock ≠ some (w.heap.size + 1) := fun e => by have := (HOW.out.lt _ e).1; omega
            clear hi0 hz0 hz1 hz2 hG1
            as_aux_lemma =>
              go_region_law (refine step_append_lies _ rfl (.tmp 66) (.tmp 71) 27 rfl (w.heap.size + 3) 35 i0 (.agg (mc 0).toArray) 35 72 Yba.underlying27 HI.out.1 HI.out.2.1 HI.out.2.2.1 HI.out.2.2.2 rfl (by decide) X k (mcs st k) (by simp [Act.eval, Act.put]) HOA.out ⟨w1.heap.size, 0, none⟩ 1 1 (mc (st k)) (by simp [Act.eval, Act.put]) (by rw [mc_len]) HNW.out (mc_one (st k)) (by decide) (by unfold maxLen; omega) (by omega) (by show w.heap.size + 3 ≤ (w1.alloc _).heap.size; simp; omega) _ rfl ?_; intro g cap w4 ho hg hor hlt; have k4 : w4.cell? ⟨w.heap.size + 1, 32, none⟩ = some X := (hg.cell_far ⟨w.heap.size + 1, 32, none⟩ (by show w.heap.size + 1 < (w1.alloc _).heap.size; simp; omega) (fun e => nG e.symm)).trans (d1 _); have e4 : w4.frozen? ⟨w.heap.size + 1, 32, none⟩ = false := (hg.frozen_far ⟨w.heap.size + 1, 32, none⟩ (by show w.heap.size + 1 < (w1.alloc _).heap.size; simp; omega) (fun e => nG e.symm)).trans (d2 _))
              all_goals
                have HN : Hid (SetR w x st (k + 1) (w4.setCell ⟨w.heap.size + 1, 32, none⟩ (.slice (some ⟨g, 0, none⟩) (k + 1) cap))) := HFN.out w4 g cap _ ho hg
                clear ho hg hor hlt k4 e4 hb35 hs27 d1 d2 d3 c32 f32 a1 HFN HOW HOA HNW
                generalize w4.setCell ⟨w.heap.size + 1, 32, none⟩ (.slice (some ⟨g, 0, none⟩) (k + 1) cap) = w5 at *
                have cs5 : w5.cell? ⟨w.heap.size + 2, k, none⟩ = some (.int .u64 (st k)) := by simpa using HN.out.arr.cell hk4
                obtain ⟨S1, hS1⟩ : ∃ S1 : Nat, S1 = sumTo st (fun _ => true) (k + 1) := ⟨_, rfl⟩
                have hsum : IntKind.u64.wrap (((sumTo st (fun _ => true) k : Nat) : Int) + (st k : Int)) = (S1 : Int) := by
                  have hle := sumTo_le st (fun _ => true) 4 (fun j => by rw [HST.out]; show x j % 5 ≤ 4; omega) k
                  have h5 : st k ≤ 4 := by rw [HST.out]; show x k % 5 ≤ 4; omega
                  rw [← Int.natCast_add, wrap_small _ (by omega), hS1]
                  rfl
                have HS1 : Hid (S1 = sumTo st (fun _ => true) (k + 1)) := hS1
                clear hS1
                generalize sumTo st (fun _ => true) k = S0 at *
                as_aux_lemma =>
                  go_wp2_with fail
                  go_roundw
                  case rel => exact ⟨k + 1, by omega, by go_num, by rw [← HS1.out], HN.out⟩
                  case measure => simp [intOf]; omega
        · have : k = nv := by omega
          subst this
          clear hset
          as_aux_lemma =>
            go_wp2_with fail
            go_meet
            case rel => exact ⟨rfl, HR.out⟩
  obtain ⟨rfl, hset⟩ := hcut
  obtain ⟨X, hX, hown⟩ := hset.gen
  have HSR : Hid (SetR w x st nv wc) := hset
  have HXO : Hid (wc.heap[w.heap.size + 1]? = some (.cells (gc X 0).toArray 31 (0, 0)) ∧ wc.ownsRow (w.heap.size + 3) 35 35 X nv (mcs st nv)) := ⟨hX, hown⟩
  have c34 : wc.cell? ⟨w.heap.size + 1, 34, none⟩ = some (.int .u64 0) := cell_of hX 34 _ rfl
  have f34 : wc.frozen? ⟨w.heap.size + 1, 34, none⟩ = false := frozen_of hX 34
  have hmk := make41 nv h4
  have hm38 := map38
  have hm39 := map39
  have hm40 := map40
  have hb59 := fun Tm Cm Bm LV w' => build59 (w.heap.size + 1) Tm Cm Bm LV nv w'
  obtain ⟨T, hT⟩ : ∃ T : Nat, T = sumTo st (fun _ => true) nv := ⟨_, rfl⟩
  rw [← hT]
  have HTT : Hid (T = sumTo st (fun _ => true) nv) := hT
  clear hT hset hX hown
  go_upto_block 2 with (first | refine wpList_box rfl 59 (.tmp 90) _ rfl rfl ?_)
  obtain ⟨Y, yok, hYw, hYn, hYs, hYT, hYO, hY1, hY2, hY3, hpp⟩ := law_start (T := T) HSR.out h1 h4 (fun j => by rw [HST.out]; show x j % 5 ≤ 4; omega) (by
    have := sumTo_le st (fun _ => true) 4 (fun j => by rw [HST.out]; show x j % 5 ≤ 4; omega) nv
    rw [HTT.out]; omega)
  rw [show wc.heap.size + 1 + 1 + 1 + 1 + 1 + 1 + 1 = Y.CN by omega, show wc.heap.size + 1 + 1 + 1 + 1 + 1 + 1 = Y.LP by omega, show wc.heap.size + 1 + 1 + 1 + 1 + 1 = Y.LW by omega, show wc.heap.size + 1 + 1 + 1 + 1 = Y.E.O by omega]
  have HY : Hid (Y.w = w ∧ Y.nv = nv ∧ Y.st = st ∧ Y.E.T = T) := ⟨hYw, hYn, hYs, hYT⟩
  clear hYw hYn hYs hYT hYO hY1 hY2 hY3
  have HP0 : Hid _ := hpp
  clear hpp hmk hm38 hm39 hm40 hb59 c34 f34
  generalize ((((((((wc.setCell ⟨w.heap.size + 1, 34, none⟩ (.int .u64 T)).alloc (.map #[] 0)).alloc (.map #[] 0)).alloc (.map #[] 0)).alloc (.cells (zlv nv) 71)).alloc (.cells (oA (w.heap.size + 1) wc.heap.size (wc.heap.size + 1) (wc.heap.size + 1 + 1) (wc.heap.size + 1 + 1 + 1) nv) 59)).alloc
        (.cells #[.int .u64 0, .int .u64 0, .int .u64 0, .int .u64 0] 32)).alloc (.cells #[.int .u8 0, .int .u8 0, .int .u8 0, .int .u8 0] 22) |>.alloc (.cells #[.bool false, .bool false, .bool false, .bool false] 60)) = wL at *
  go_wp2_with fail
  go_loopw [16, 17, 18, 19, 94] (fun v16 v17 v18 v19 v94 wr => ∃ (k : Nat) (lv lp : Nat → Nat) (cnt : Nat → Bool) (view : Nat) (hq : Bool) (qv qp : Nat) (ext : Value) (L : List (Nat × Obj)), k ≤ len ∧ v94 = .int .i64 k ∧ v16 = .int .u64 view ∧ v17 = .bool hq ∧ v18 = .int .u64 qv ∧ v19 = .int .u8 qp ∧ PP Y lv lp cnt view ext L (fun j => .int .u64 (lv j)) (fun j => .int .u8 (lp j)) (fun j => .bool (cnt j)) wr ∧ QOk ext L hq qv qp ∧ ∀ x ∈ L, ∃ A, x.2 = Obj.cells A 48 (0, 0)) (fun _ _ _ _ v _ => len - (intOf v).toNat)
  case atStart => exact ⟨0, fun _ => 0, fun _ => 0, fun _ => false, 1, false, 0, 0, .pointer none, [], Nat.zero_le _, rfl, rfl, rfl, rfl, rfl, HP0.out, .inl ⟨rfl, rfl⟩, by simp⟩
  obtain ⟨k, lv, lp, cnt, view, hq, qv, qp, ext, L, hk, rfl, rfl, rfl, rfl, rfl, hpp, hqo, hL⟩ := hrel
  have HP : Hid (PP Y lv lp cnt view ext L (fun j => .int .u64 (lv j)) (fun j => .int .u8 (lp j)) (fun j => .bool (cnt j)) wr) := hpp
  have HQ : Hid (QOk ext L hq qv qp) := hqo
  have HL : Hid (∀ x ∈ L, ∃ A, x.2 = Obj.cells A 48 (0, 0)) := hL
  clear hqo hL
  by_cases hlt : len ≤ k
  · have hkl : k = len := by omega
    subst hkl
    have hbel : Below w.heap.size w wr := by rw [← HY.out.1]; exact hpp.bel
    clear hpp
    go_wp2_with fail
    go_ret
    exact ⟨rfl, hbel⟩
  have hkl : k < len := by omega
  obtain ⟨b, o, ha, hb, hst⟩ := HS.out.resolve_left (by omega)
  subst ha
  obtain ⟨q1, q2, q3, q4, q5, q6⟩ := hst k hkl
  clear hst
  have kc1 : ∀ j, wr.cell? ⟨b, j, none⟩ = w.cell? ⟨b, j, none⟩ := fun j => World.cell?_of_block (by have := hpp.bel.block b (by rw [HY.out.1]; exact hb); rw [HY.out.1] at this; exact this)
  have hr3 : wr.rangeAt b (o + k * 3) (t3 (who k) (vws k) (prp k)) := fun j v hv => by
    rw [kc1]
    match j, hv with
    | 0, hv => simp [t3] at hv; rw [← hv]; exact q1
    | 1, hv => simp [t3] at hv; rw [← hv]; exact q2
    | 2, hv => simp [t3] at hv; rw [← hv]; exact q3
  have hl62 := ldS62 b (o + k * 3) (who k) (vws k) (prp k) wr hr3
  have ha62 := alloc62 wr
  have hs62 := store62 (who k) (vws k) (prp k) wr
  have tlt : decide ((k : Int) < (len : Int)) = true := by simp; omega
  have hkl' : (k : Int) < (len : Int) := by omega
  have hk0 : (0 : Int) ≤ (k : Int) := by omega
  have hc1 : Chg [] wr (wr.alloc (.cells (t3 (who k) (vws k) (prp k)).toArray 62)) := (Chg.refl _ wr).alloc _
  have HP1 : Hid (PP Y lv lp cnt view ext L (fun j => .int .u64 (lv j)) (fun j => .int .u8 (lp j)) (fun j => .bool (cnt j)) (wr.alloc (.cells (t3 (who k) (vws k) (prp k)).toArray 62))) := HP.out.chg yok hc1
  have HB1 : Hid ((wr.alloc (.cells (t3 (who k) (vws k) (prp k)).toArray 62)).heap[wr.heap.size]? = some (.cells (t3 (who k) (vws k) (prp k)).toArray 62 (0, 0))) := (MapKept.heap_alloc wr _).1
  clear hpp hr3 kc1 q1 q2 q3 hc1
  generalize wr.alloc (.cells (t3 (who k) (vws k) (prp k)).toArray 62) = w1 at *
  generalize vws k = s at *
  generalize who k = wh at *
  generalize prp k = pp at *
  as_aux_lemma =>
    go_upto_region 25 with fail
    clear hl62 ha62 hs62 tlt HP
    generalize wr.heap.size = SB at *
    have s0 : w1.cell? ⟨SB, 0, none⟩ = some (.int .u8 wh) := cell_of HB1.out 0 _ rfl
    have s1 : w1.cell? ⟨SB, 1, none⟩ = some (.int .u64 s) := cell_of HB1.out 1 _ rfl
    have s2 : w1.cell? ⟨SB, 2, none⟩ = some (.int .u8 pp) := cell_of HB1.out 2 _ rfl
    obtain ⟨i, hi⟩ : ∃ i : Nat, i = wh % nv := ⟨_, rfl⟩
    obtain ⟨p, hp⟩ : ∃ p : Nat, p = pp % 2 := ⟨_, rfl⟩
    have hin : i < nv := by rw [hi]; exact Nat.mod_lt _ (by omega)
    have htm : (wh : Int).tmod (nv : Int) = (i : Int) := by rw [Int.tmod_eq_emod_of_nonneg (by omega), hi]; exact (Int.natCast_emod wh nv).symm
    have htp : (pp : Int).tmod 2 = (p : Int) := by rw [Int.tmod_eq_emod_of_nonneg (by omega)]; omega
    have hwb : ∀ z : Int, z = (wh : Int) → wrap64 z = wh := fun z hz => by rw [hz]; unfold wrap64; omega
    have hwi : ∀ z : Int, z = (i : Int) → wrap64 z = i := fun z hz => by rw [hz]; unfold wrap64; omega
    have hnz : ((nv : Int) == 0) = false := by simp; omega
    have hnz' : ¬ (nv : Int) = 0 := by omega
    have hp2 : p < 2 := by omega
    have ha45 := alloc45 w1
    have cD : (w1.alloc (.cells (ic 0).toArray 45)).cell? ⟨w1.heap.size, 0, none⟩ = some (.int .u8 0) := cell_of (MapKept.heap_alloc w1 _).1 0 _ rfl
    have fD : (w1.alloc (.cells (ic 0).toArray 45)).frozen? ⟨w1.heap.size, 0, none⟩ = false := frozen_of (MapKept.heap_alloc w1 _).1 0
    have HC2 : Hid (Chg [] w1 (w1.alloc (.cells (ic p).toArray 45))) := (Chg.refl _ w1).alloc _
    have HD2 : Hid ((w1.alloc (.cells (ic p).toArray 45)).heap[w1.heap.size]? = some (.cells (ic p).toArray 45 (0, 0))) := (MapKept.heap_alloc w1 _).1
    clear hi hp
    as_aux_lemma =>
      go_upto_region 29 with fail
      rw [show ((ic 0).set 0 (Value.int IntKind.u8 (p : Int))) = ic p from rfl]
      have hSl : SB < w1.heap.size := lt_of_heap HB1.out
      have s1b : (w1.alloc (.cells (ic p).toArray 45)).cell? ⟨SB, 1, none⟩ = some (.int .u64 s) := by rw [World.cell?_of_block (HC2.out.block SB hSl (by simp))]; exact s1
      have HB2 : Hid ((w1.alloc (.cells (ic p).toArray 45)).heap[SB]? = some (.cells (t3 wh s pp).toArray 62 (0, 0))) := (HC2.out.block SB hSl (by simp)).trans HB1.out
      have HP2 : Hid (PP Y lv lp cnt view ext L (fun j => .int .u64 (lv j)) (fun j => .int .u8 (lp j)) (fun j => .bool (cnt j)) (w1.alloc (.cells (ic p).toArray 45))) := HP1.out.chg yok HC2.out
      clear s0 s1 s2 htm htp hwb hnz hnz' ha45 cD fD HC2 HP1 HB1 hSl
      generalize w1.alloc (.cells (ic p).toArray 45) = w2 at *
      generalize w1.heap.size = DB at *
      have hl45 : (ldS 45 (.pointer (some ⟨DB, 0, none⟩))).run Yba.prog w2 = .ok (.agg (ic p).toArray) w2 := ldS45 DB 0 p w2 (fun j v hv => cell_of HD2.out _ v (by simpa using hv))
      have hb66 := build66 i
      have hb68 := build68 s p i
      have HV3 : Hid (VoteAt (w2.alloc (.cells (vc s p i).toArray 68)) w2.heap.size s p i) := (MapKept.heap_alloc w2 _).1
      have HP3 : Hid (PP Y lv lp cnt view ext L (fun j => .int .u64 (lv j)) (fun j => .int .u8 (lp j)) (fun j => .bool (cnt j)) (w2.alloc (.cells (vc s p i).toArray 68))) := HP2.out.chg yok ((Chg.refl _ w2).alloc _)
      have HB3 : Hid ((w2.alloc (.cells (vc s p i).toArray 68)).heap[SB]? = some (.cells (t3 wh s pp).toArray 62 (0, 0))) := (((Chg.refl [] w2).alloc _).block SB (lt_of_heap HB2.out) (by simp)).trans HB2.out
      have hiE : i < Y.E.nv := by rw [yok.env, HY.out.2.1]; exact hin
      have HCN : Hid (Calls Yba.prog 4 #[.pointer (some ⟨Y.E.O, 0, none⟩), .int .i64 k, .pointer (some ⟨w2.heap.size, 0, none⟩)] (w2.alloc (.cells (vc s p i).toArray 68)) fun e w' => e = .returned (.tuple #[]) ∧ ((lv i < s ∧ Post Y.E Y.w.heap.size lv lp cnt view ext s p i (w2.alloc (.cells (vc s p i).toArray 68)) w') ∨ (s ≤ lv i ∧ w' = (w2.alloc (.cells (vc s p i).toArray 68)).drew.drew))) :=
        count_any yok.ok _ yok.lo _ HP3.out.sts view ext HP3.out.ord w2.heap.size s p i k HV3.out hiE q5 (by omega)
      as_aux_lemma =>
        go_upto_region 33 with (first | refine wpList_box rfl 68 (.tmp 114) _ rfl rfl ?_ | (go_at_call 4; refine HCN.out.mono ?_; rintro e w4 ⟨rfl, hres⟩))
        clear HCN hl45 hb66 hb68 s1b HB2 HP2 HD2
        generalize w2.alloc (.cells (vc s p i).toArray 68) = w3 at *
        generalize w2.heap.size = VB at *
        have HF4 : Hid (Fr Y.w.heap.size w3 w4) := by
          rcases hres with ⟨_, hP⟩ | ⟨_, rfl⟩
          · exact hP.1
          · exact (Chg.refl [] w3).drew.drew.fr (by simp)
        have HRS : Hid ((lv i < s ∧ Post Y.E Y.w.heap.size lv lp cnt view ext s p i w3 w4) ∨ (s ≤ lv i ∧ w4 = w3.drew.drew)) := hres
        have HB4 : Hid (w4.heap[SB]? = some (.cells (t3 wh s pp).toArray 62 (0, 0))) := HF4.out.typ _ _ _ _ HB3.out (by decide) (by decide) (by decide) (by decide) (by decide)
        have hi4 : i < 4 := Nat.lt_of_lt_of_le hin h4
        have s1 : w4.cell? ⟨SB, 1, none⟩ = some (.int .u64 s) := cell_of HB4.out 1 _ rfl
        have l1 : w4.cell? ⟨Y.LW, i, none⟩ = some (.int .u64 (lv i)) := (HP3.out.a1.fr HF4.out (by simp)).cell hi4
        have hi4i : (i : Int) < 4 := Int.ofNat_lt.2 hi4
        have hi0 : (0 : Int) ≤ (i : Int) := Int.natCast_nonneg i
        obtain ⟨bn, hbn⟩ : ∃ bn : Bool, bn = decide (lv i < s) := ⟨_, rfl⟩
        have tg : decide ((lv i : Int) < (s : Int)) = bn := by rw [hbn]; simp
        have tg' : decide (lv i < s) = bn := hbn.symm
        have HBN : Hid (bn = decide (lv i < s)) := hbn
        clear hres hbn HB3 HV3
        as_aux_lemma =>
          go_region_held3 (fun w' => w'.cell? ⟨SB, 1, none⟩ = some (.int .u64 s) ∧ w'.cell? ⟨Y.LW, i, none⟩ = some (.int .u64 (lv i))) (go_keep) (fail)
          clear s1 l1 tg tg'
          as_aux_lemma =>
            go_upto_if 125 with fail
            as_aux_lemma =>
              go_cut [16, 17, 18, 19, 26, 27] (fun v16 v17 v18 v19 v26 v27 wx => Mid Y v16 v17 v18 v19 v26 v27 wx)
              case first =>
                cases bn
                · have HM : Hid (Mid Y (.int .u64 view) (.bool hq) (.int .u64 qv) (.int .u8 qp) (.bool false) (.int .i64 (0 : Nat)) w4.drew) := by
                    rcases HRS.out with ⟨h1, _⟩ | ⟨_, h2⟩
                    · have := HBN.out; simp at this; omega
                    · subst h2
                      exact ⟨lv, lp, cnt, view, hq, qv, qp, ext, L, false, 0, rfl, rfl, rfl, rfl, rfl, rfl, HP3.out.chg yok (Chg.refl _ w3).drew.drew.drew, HQ.out, (fun h => by cases h), (fun h => by cases h)⟩
                  as_aux_lemma =>
                    go_wp2_with fail
                    go_meet
                    case rel => exact HM.out
                · obtain ⟨l, cnt', view', ext', L', hnd, hmem, hp4, hcase⟩ : ∃ (l : List Nat) (cnt' : Nat → Bool) (view' : Nat) (ext' : Value) (L' : List (Nat × Obj)), l.Nodup ∧ (∀ j, j ∈ l ↔ j < Y.nv ∧ upd cnt i true j = true ∧ upd lv i s j = s ∧ upd lp i p j = p) ∧ PP Y (upd lv i s) (upd lp i p) cnt' view' ext' L' (fun j => .int .u64 (lv j)) (fun j => .int .u8 (lp j)) (fun j => .bool (cnt j)) w4 ∧
                      ((decide (2 * Y.E.T < 3 * tot Y.st l) = false ∧ cnt' = upd cnt i true ∧ view' = view ∧ ext' = ext ∧ L' = L) ∨
                       (decide (2 * Y.E.T < 3 * tot Y.st l) = true ∧ cnt' = (fun j => upd cnt i true j && decide (s < upd lv i s j)) ∧ view' = (if view ≤ s then (s + 1) % 2 ^ 64 else view) ∧ NewQ s p l ext' L')) := by
                    rcases HRS.out with ⟨_, hP⟩ | ⟨h2, _⟩
                    · exact HP3.out.post yok HL.out hP
                    · have := HBN.out; simp at this; omega
                  have HML : Hid (l.Nodup ∧ ∀ j, j ∈ l ↔ j < Y.nv ∧ upd cnt i true j = true ∧ upd lv i s j = s ∧ upd lp i p j = p) := ⟨hnd, hmem⟩
                  have HCS : Hid ((decide (2 * Y.E.T < 3 * tot Y.st l) = false ∧ cnt' = upd cnt i true ∧ view' = view ∧ ext' = ext ∧ L' = L) ∨
                       (decide (2 * Y.E.T < 3 * tot Y.st l) = true ∧ cnt' = (fun j => upd cnt i true j && decide (s < upd lv i s j)) ∧ view' = (if view ≤ s then (s + 1) % 2 ^ 64 else view) ∧ NewQ s p l ext' L')) := hcase
                  have HP4 : Hid (PP Y (upd lv i s) (upd lp i p) cnt' view' ext' L' (fun j => .int .u64 (lv j)) (fun j => .int .u8 (lp j)) (fun j => .bool (cnt j)) w4.drew) := hp4.chg yok (Chg.refl _ w4).drew
                  have HB5 : Hid (w4.drew.heap[SB]? = some (.cells (t3 wh s pp).toArray 62 (0, 0))) := HB4.out
                  clear hp4 hcase hnd hmem HRS HF4 HP3 HB4 HBN
                  generalize w4.drew = w5 at *
                  have s1 : w5.cell? ⟨SB, 1, none⟩ = some (.int .u64 s) := cell_of HB5.out 1 _ rfl
                  have l1 : w5.cell? ⟨Y.LW, i, none⟩ = some (.int .u64 (lv i)) := HP4.out.a1.cell hi4
                  have f1 : w5.frozen? ⟨Y.LW, i, none⟩ = false := HP4.out.a1.soft i
                  have HP5 : Hid (PP Y (upd lv i s) (upd lp i p) cnt' view' ext' L' (fun j => .int .u64 (upd lv i s j : Nat)) (fun j => .int .u8 (lp j)) (fun j => .bool (cnt j)) (w5.setCell ⟨Y.LW, i, none⟩ (.int .u64 s))) := by
                    have := HP4.out.put1 yok hi4 (.int .u64 s)
                    rw [upd_int] at this
                    exact this
                  have nS1 : SB ≠ Y.LW := fun e => by have h1 := HB5.out; rw [e, HP4.out.a1] at h1; cases h1
                  have nS3 : SB ≠ Y.CN := fun e => by have h1 := HB5.out; rw [e, HP4.out.a3] at h1; cases h1
                  have nS2 : SB ≠ Y.LP := fun e => by have h1 := HB5.out; rw [e, HP4.out.a2] at h1; cases h1
                  have HB6 : Hid ((w5.setCell ⟨Y.LW, i, none⟩ (.int .u64 s)).heap[SB]? = some (.cells (t3 wh s pp).toArray 62 (0, 0))) := (Below.heap_setCell w5 ⟨Y.LW, i, none⟩ _ SB nS1).trans HB5.out
                  as_aux_lemma =>
                    go_upto_region 35 with fail
                    clear s1 l1 f1 HP4 HB5
                    generalize w5.setCell ⟨Y.LW, i, none⟩ (.int .u64 s) = w6 at *
                    have l2 : w6.cell? ⟨Y.LP, i, none⟩ = some (.int .u8 (lp i)) := HP5.out.a2.cell hi4
                    have f2 : w6.frozen? ⟨Y.LP, i, none⟩ = false := HP5.out.a2.soft i
                    have HP6 : Hid (PP Y (upd lv i s) (upd lp i p) cnt' view' ext' L' (fun j => .int .u64 (upd lv i s j : Nat)) (fun j => .int .u8 (upd lp i p j : Nat)) (fun j => .bool (cnt j)) (w6.setCell ⟨Y.LP, i, none⟩ (.int .u8 p))) := by
                      have := HP5.out.put2 yok hi4 (.int .u8 p)
                      rw [upd_int] at this
                      exact this
                    have HB7 : Hid ((w6.setCell ⟨Y.LP, i, none⟩ (.int .u8 p)).heap[SB]? = some (.cells (t3 wh s pp).toArray 62 (0, 0))) := (Below.heap_setCell w6 ⟨Y.LP, i, none⟩ _ SB nS2).trans HB6.out
                    as_aux_lemma =>
                      go_upto_region 36 with fail
                      clear l2 f2 HP5 HB6
                      generalize w6.setCell ⟨Y.LP, i, none⟩ (.int .u8 p) = w7 at *
                      have l3 : w7.cell? ⟨Y.CN, i, none⟩ = some (.bool (cnt i)) := HP6.out.a3.cell hi4
                      have f3 : w7.frozen? ⟨Y.CN, i, none⟩ = false := HP6.out.a3.soft i
                      have HP7 : Hid (PP Y (upd lv i s) (upd lp i p) cnt' view' ext' L' (fun j => .int .u64 (upd lv i s j : Nat)) (fun j => .int .u8 (upd lp i p j : Nat)) (fun j => .bool (upd cnt i true j)) (w7.setCell ⟨Y.CN, i, none⟩ (.bool true))) := by
                        have := HP6.out.put3 yok hi4 (.bool true)
                        rw [upd_bool] at this
                        exact this
                      have HB8 : Hid ((w7.setCell ⟨Y.CN, i, none⟩ (.bool true)).heap[SB]? = some (.cells (t3 wh s pp).toArray 62 (0, 0))) := (Below.heap_setCell w7 ⟨Y.CN, i, none⟩ _ SB nS3).trans HB7.out
                      as_aux_lemma =>
                        go_upto_region 37 with fail
                        clear l3 f3 HP6 HB7
                        generalize w7.setCell ⟨Y.CN, i, none⟩ (.bool true) = w8 at *
                        generalize hlv1 : upd lv i s = lv1 at *
                        generalize hlp1 : upd lp i p = lp1 at *
                        generalize hcn1 : upd cnt i true = cn1 at *
                        clear hlv1 hlp1 hcn1
                        as_aux_lemma =>
                          go_upto_block 4 with fail
                          have a4 : ∀ wr, Chg [] w8 wr → ∀ j, j < nv → wr.cell? ⟨w.heap.size + 2, j, none⟩ = some (.int .u64 (st j)) := fun wr hc j hj => by
                            have := (HP7.out.chg yok hc).a4.cell (show j < 4 by omega)
                            rw [HY.out.1, HY.out.2.1, HY.out.2.2.1, if_pos hj] at this
                            exact this
                          have H4 : Hid (∀ wr, Chg [] w8 wr → ∀ j, j < nv → wr.cell? ⟨w.heap.size + 2, j, none⟩ = some (.int .u64 (st j))) := a4
                          clear a4
                          as_aux_lemma =>
                            go_cut [28, 29] (fun v28 v29 wx => v28 = .int .u64 ((sumTo st (fits lv1 lp1 cn1 s p) nv : Nat) : Int) ∧ v29 = .int .i64 ((sumTo (fun _ => 1) (fits lv1 lp1 cn1 s p) nv : Nat) : Int) ∧ Chg [] w8 wx)
                            case first =>
                              go_wp2_with fail
                              as_aux_lemma =>
                                go_loopw [28, 29, 30] (fun v28 v29 v30 wr => ∃ j : Nat, j ≤ nv ∧ v30 = .int .i64 j ∧ v28 = .int .u64 ((sumTo st (fits lv1 lp1 cn1 s p) j : Nat) : Int) ∧ v29 = .int .i64 ((sumTo (fun _ => 1) (fits lv1 lp1 cn1 s p) j : Nat) : Int) ∧ Chg [] w8 wr) (fun _ _ v _ => nv - (intOf v).toNat)
                                case atStart => exact ⟨0, Nat.zero_le _, rfl, rfl, rfl, Chg.refl _ _⟩
                                case round =>
                                  obtain ⟨j, hj, rfl, rfl, rfl, hch⟩ := hrel
                                  have HCH : Hid (Chg [] w8 wr) := hch
                                  by_cases hlt2 : j < nv
                                  · have hj4 : j < 4 := by omega
                                    have hp9 := HP7.out.chg yok hch
                                    have cj : wr.cell? ⟨Y.CN, j, none⟩ = some (.bool (cn1 j)) := hp9.a3.cell hj4
                                    have lj : wr.cell? ⟨Y.LW, j, none⟩ = some (.int .u64 (lv1 j)) := hp9.a1.cell hj4
                                    have pj : wr.cell? ⟨Y.LP, j, none⟩ = some (.int .u8 (lp1 j)) := hp9.a2.cell hj4
                                    have sj : wr.cell? ⟨w.heap.size + 2, j, none⟩ = some (.int .u64 (st j)) := H4.out wr hch j hlt2
                                    have s1 : wr.cell? ⟨SB, 1, none⟩ = some (.int .u64 s) := cell_of ((hch.block SB (lt_of_heap HB8.out) (by simp)).trans HB8.out) 1 _ rfl
                                    have tj : decide ((j : Int) < (nv : Int)) = true := by simp; omega
                                    have hj4i : (j : Int) < 4 := by omega
                                    have hj0 : (0 : Int) ≤ (j : Int) := by omega
                                    have hjs : sumTo st (fits lv1 lp1 cn1 s p) (j + 1) = sumTo st (fits lv1 lp1 cn1 s p) j + bit (fits lv1 lp1 cn1 s p j) (st j) := rfl
                                    have hjc : sumTo (fun _ => 1) (fits lv1 lp1 cn1 s p) (j + 1) = sumTo (fun _ => 1) (fits lv1 lp1 cn1 s p) j + bit (fits lv1 lp1 cn1 s p j) 1 := rfl
                                    have hle1 := sumTo_le st (fits lv1 lp1 cn1 s p) 4 (fun j => by rw [HST.out]; show x j % 5 ≤ 4; omega) j
                                    have hle2 := sumTo_le (fun _ => 1) (fits lv1 lp1 cn1 s p) 1 (fun j => Nat.le_refl _) j
                                    have h5 : st j ≤ 4 := by rw [HST.out]; show x j % 5 ≤ 4; omega
                                    clear hch hp9
                                    by_cases hfit : fits lv1 lp1 cn1 s p j = true
                                    · obtain ⟨y1, y2, y3⟩ := (fits_iff _ _ _ _ _ _).1 hfit
                                      rw [hfit] at hjs hjc
                                      rw [y1] at cj
                                      rw [y2] at lj
                                      rw [y3] at pj
                                      generalize sumTo st (fits lv1 lp1 cn1 s p) j = S0 at *
                                      generalize sumTo (fun _ => 1) (fits lv1 lp1 cn1 s p) j = C0 at *
                                      have e1 : IntKind.u64.wrap ((S0 : Int) + (st j : Int)) = ((S0 + st j : Nat) : Int) := by rw [← Int.natCast_add, wrap_small _ (by omega)]
                                      have HJS : Hid (sumTo st (fits lv1 lp1 cn1 s p) (j + 1) = S0 + st j) := hjs
                                      have HJC : Hid (sumTo (fun _ => 1) (fits lv1 lp1 cn1 s p) (j + 1) = C0 + 1) := hjc
                                      clear hjs hjc hfit y1 y2 y3
                                      generalize S0 + st j = S1 at *
                                      as_aux_lemma =>
                                        go_wp2_with fail
                                        as_aux_lemma =>
                                          go_quiet (fail)
                                          as_aux_lemma =>
                                            go_wp2_with fail
                                            go_roundw
                                            case rel => exact ⟨j + 1, by omega, by go_num, by rw [HJS.out], by rw [HJC.out]; go_num, HCH.out.drewN _⟩
                                            case measure => simp [intOf]; omega
                                    · have hf0 : fits lv1 lp1 cn1 s p j = false := by simpa using hfit
                                      rw [hf0] at hjs hjc
                                      have HJS : Hid (sumTo st (fits lv1 lp1 cn1 s p) (j + 1) = sumTo st (fits lv1 lp1 cn1 s p) j) := by rw [hjs]; rfl
                                      have HJC : Hid (sumTo (fun _ => 1) (fits lv1 lp1 cn1 s p) (j + 1) = sumTo (fun _ => 1) (fits lv1 lp1 cn1 s p) j) := by rw [hjc]; rfl
                                      have hor : cn1 j = false ∨ (cn1 j = true ∧ lv1 j ≠ s) ∨ (cn1 j = true ∧ lv1 j = s ∧ lp1 j ≠ p) := by
                                        cases hc : cn1 j
                                        · exact .inl rfl
                                        · by_cases h2 : lv1 j = s
                                          · exact .inr (.inr ⟨rfl, h2, fun h3 => hfit ((fits_iff _ _ _ _ _ _).2 ⟨hc, h2, h3⟩)⟩)
                                          · exact .inr (.inl ⟨rfl, h2⟩)
                                      clear hjs hjc hfit hf0 hle1 hle2
                                      generalize sumTo st (fits lv1 lp1 cn1 s p) j = S0 at *
                                      generalize sumTo (fun _ => 1) (fits lv1 lp1 cn1 s p) j = C0 at *
                                      rcases hor with y1 | ⟨y1, y2⟩ | ⟨y1, y2, y3⟩
                                      · rw [y1] at cj
                                        clear y1
                                        as_aux_lemma =>
                                          go_wp2_with fail
                                          as_aux_lemma =>
                                            go_quiet (fail)
                                            as_aux_lemma =>
                                              go_wp2_with fail
                                              go_roundw
                                              case rel => exact ⟨j + 1, by omega, by go_num, by rw [HJS.out], by rw [HJC.out], HCH.out.drewN _⟩
                                              case measure => simp [intOf]; omega
                                      · rw [y1] at cj
                                        have z2 : ((lv1 j : Int) == (s : Int)) = false := by simp; omega
                                        have z2' : (lv1 j == s) = false := by simpa using y2
                                        clear y1
                                        as_aux_lemma =>
                                          go_wp2_with fail
                                          as_aux_lemma =>
                                            go_quiet (fail)
                                            as_aux_lemma =>
                                              go_wp2_with fail
                                              go_roundw
                                              case rel => exact ⟨j + 1, by omega, by go_num, by rw [HJS.out], by rw [HJC.out], HCH.out.drewN _⟩
                                              case measure => simp [intOf]; omega
                                      · rw [y1] at cj
                                        rw [y2] at lj
                                        have z3 : ((lp1 j : Int) == (p : Int)) = false := by simp; omega
                                        have z3' : (lp1 j == p) = false := by simpa using y3
                                        clear y1 y2
                                        as_aux_lemma =>
                                          go_wp2_with fail
                                          as_aux_lemma =>
                                            go_quiet (fail)
                                            as_aux_lemma =>
                                              go_wp2_with fail
                                              go_roundw
                                              case rel => exact ⟨j + 1, by omega, by go_num, by rw [HJS.out], by rw [HJC.out], HCH.out.drewN _⟩
                                              case measure => simp [intOf]; omega
                                  · have : j = nv := by omega
                                    subst this
                                    clear hch
                                    as_aux_lemma =>
                                      go_wp2_with fail
                                      go_meet
                                      case rel => exact ⟨rfl, rfl, HCH.out⟩
                            obtain ⟨rfl, rfl, hch⟩ := hcut
                            have HP9 : Hid (PP Y lv1 lp1 cnt' view' ext' L' (fun j => .int .u64 (lv1 j)) (fun j => .int .u8 (lp1 j)) (fun j => .bool (cn1 j)) wc) := HP7.out.chg yok hch
                            have HB9 : Hid (wc.heap[SB]? = some (.cells (t3 wh s pp).toArray 62 (0, 0))) := (hch.block SB (lt_of_heap HB8.out) (by simp)).trans HB8.out
                            have hmem2 : ∀ j, j ∈ l ↔ j < nv ∧ fits lv1 lp1 cn1 s p j = true := fun j => by rw [HML.out.2 j, fits_iff, HY.out.2.1]
                            have htot : tot Y.st l = sumTo st (fits lv1 lp1 cn1 s p) nv := by rw [HY.out.2.2.1]; exact tot_sum st _ nv h4 l hmem2
                            have hlen2 : l.length = sumTo (fun _ => 1) (fits lv1 lp1 cn1 s p) nv := len_sum _ nv h4 l HML.out.1 hmem2
                            have hle1 := sumTo_le st (fits lv1 lp1 cn1 s p) 4 (fun j => by rw [HST.out]; show x j % 5 ≤ 4; omega) nv
                            have hT16 : T ≤ 16 := by
                              have := sumTo_le st (fun _ => true) 4 (fun j => by rw [HST.out]; show x j % 5 ≤ 4; omega) nv
                              rw [HTT.out]; omega
                            rw [← hlen2]
                            have HTO : Hid (tot Y.st l = sumTo st (fits lv1 lp1 cn1 s p) nv) := htot
                            clear htot hlen2 hmem2 hch HP7 HB8 H4
                            generalize sumTo st (fits lv1 lp1 cn1 s p) nv = S at *
                            obtain ⟨bq, hbq⟩ : ∃ bq : Bool, bq = decide (2 * T < 3 * S) := ⟨_, rfl⟩
                            have m1 : IntKind.u64.wrap (3 * (S : Int)) = ((3 * S : Nat) : Int) := by rw [← wrap_small (3 * S) (by omega)]; congr 1
                            have m2 : IntKind.u64.wrap (2 * (T : Int)) = ((2 * T : Nat) : Int) := by rw [← wrap_small (2 * T) (by omega)]; congr 1
                            have tq : decide (((2 * T : Nat) : Int) < ((3 * S : Nat) : Int)) = bq := by rw [hbq]; apply decide_eq_decide.2; omega
                            have HBQ : Hid (bq = decide (2 * T < 3 * S)) := hbq
                            have HCB : Hid ((bq = false ∧ cnt' = cn1 ∧ view' = view ∧ ext' = ext ∧ L' = L) ∨ (bq = true ∧ cnt' = (fun j => cn1 j && decide (s < lv1 j)) ∧ view' = (if view ≤ s then (s + 1) % 2 ^ 64 else view) ∧ NewQ s p l ext' L')) := by
                              have := HCS.out
                              rw [HTO.out, HY.out.2.2.2, ← hbq] at this
                              exact this
                            clear hbq HCS HTO
                            generalize 3 * S = S3 at *
                            generalize 2 * T = T2 at *
                            have tq' : decide (T2 < S3) = bq := by rw [← tq]; apply decide_eq_decide.2; omega
                            cases bq
                            · obtain ⟨_, r1, r2, r3, r4⟩ := HCB.out.resolve_right (fun h => by cases h.1)
                              have HM : Hid (Mid Y (.int .u64 view) (.bool hq) (.int .u64 qv) (.int .u8 qp) (.bool false) (.int .i64 (0 : Nat)) wc) := by
                                have hp := HP9.out
                                rw [r1, r2, r3, r4] at hp
                                exact ⟨lv1, lp1, cn1, view, hq, qv, qp, ext, L, false, 0, rfl, rfl, rfl, rfl, rfl, rfl, hp, HQ.out, (fun h => by cases h), (fun h => by cases h)⟩
                              clear r1 r2 r3 r4
                              as_aux_lemma =>
                                go_wp2_with fail
                                go_meet
                                case rel => exact HM.out
                            · obtain ⟨_, r1, r2, r3⟩ := HCB.out.resolve_left (fun h => by cases h.1)
                              have HR : Hid (cnt' = (fun j => cn1 j && decide (s < lv1 j)) ∧ view' = (if view ≤ s then (s + 1) % 2 ^ 64 else view) ∧ NewQ s p l ext' L') := ⟨r1, r2, r3⟩
                              clear r1 r2 r3 HCB
                              as_aux_lemma =>
                                go_upto_block 6 with fail
                                clear m1 m2 tq tq' hle1
                                as_aux_lemma =>
                                  go_cut [] (fun wx => PP Y lv1 lp1 cnt' view' ext' L' (fun j => .int .u64 (lv1 j)) (fun j => .int .u8 (lp1 j)) (fun j => .bool (swc s lv1 cn1 nv j)) wx ∧ wx.heap[SB]? = some (.cells (t3 wh s pp).toArray 62 (0, 0)))
                                  case first =>
                                    go_wp2_with fail
                                    as_aux_lemma =>
                                      go_loopw [31] (fun v31 wr => ∃ j : Nat, j ≤ nv ∧ v31 = .int .i64 j ∧ PP Y lv1 lp1 cnt' view' ext' L' (fun j => .int .u64 (lv1 j)) (fun j => .int .u8 (lp1 j)) (fun q => .bool (swc s lv1 cn1 j q)) wr ∧ wr.heap[SB]? = some (.cells (t3 wh s pp).toArray 62 (0, 0))) (fun v _ => nv - (intOf v).toNat)
                                      case atStart => exact ⟨0, Nat.zero_le _, rfl, by rw [swc_zero]; exact HP9.out, HB9.out⟩
                                      case round =>
                                        obtain ⟨j, hj, rfl, hpr, hbr⟩ := hrel
                                        have HPR : Hid (PP Y lv1 lp1 cnt' view' ext' L' (fun j => .int .u64 (lv1 j)) (fun j => .int .u8 (lp1 j)) (fun q => .bool (swc s lv1 cn1 j q)) wr) := hpr
                                        have HBR : Hid (wr.heap[SB]? = some (.cells (t3 wh s pp).toArray 62 (0, 0))) := hbr
                                        by_cases hlt2 : j < nv
                                        · have hj4 : j < 4 := by omega
                                          have cj : wr.cell? ⟨Y.CN, j, none⟩ = some (.bool (cn1 j)) := by
                                            have := hpr.a3.cell hj4
                                            unfold swc at this
                                            rw [if_neg (by omega)] at this
                                            exact this
                                          have fj : wr.frozen? ⟨Y.CN, j, none⟩ = false := hpr.a3.soft j
                                          have lj : wr.cell? ⟨Y.LW, j, none⟩ = some (.int .u64 (lv1 j)) := hpr.a1.cell hj4
                                          have s1 : wr.cell? ⟨SB, 1, none⟩ = some (.int .u64 s) := cell_of hbr 1 _ rfl
                                          have tj : decide ((j : Int) < (nv : Int)) = true := by simp; omega
                                          have hj4i : (j : Int) < 4 := by omega
                                          have hj0 : (0 : Int) ≤ (j : Int) := by omega
                                          clear hpr hbr
                                          by_cases hfit : (cn1 j && decide (lv1 j ≤ s)) = true
                                          · have hy := hfit
                                            simp at hy
                                            rw [hy.1] at cj
                                            have tl : decide ((lv1 j : Int) ≤ (s : Int)) = true := by simp; omega
                                            have tl' : decide (lv1 j ≤ s) = true := by simp; omega
                                            have HN : Hid (∀ q, PP Y lv1 lp1 cnt' view' ext' L' (fun j => .int .u64 (lv1 j)) (fun j => .int .u8 (lp1 j)) (fun q => .bool (swc s lv1 cn1 (j + 1) q)) ((wr.drewN q).setCell ⟨Y.CN, j, none⟩ (.bool false)) ∧ ((wr.drewN q).setCell ⟨Y.CN, j, none⟩ (.bool false)).heap[SB]? = some (.cells (t3 wh s pp).toArray 62 (0, 0))) := fun q => by
                                              have h1 := (HPR.out.chg yok ((Chg.refl _ wr).drewN q)).put3 yok hj4 (.bool false)
                                              rw [upd_bool, swc_drop s lv1 cn1 j hfit] at h1
                                              exact ⟨h1, (Below.heap_setCell (wr.drewN q) ⟨Y.CN, j, none⟩ _ SB nS3).trans ((((Chg.refl [] wr).drewN q).block SB (lt_of_heap HBR.out) (by simp)).trans HBR.out)⟩
                                            have cjn : ∀ q, (wr.drewN q).cell? ⟨Y.CN, j, none⟩ = some (.bool true) := fun q => by rw [World.cell?_of_block (((Chg.refl [] wr).drewN q).block Y.CN (lt_of_heap HPR.out.a3) (by simp))]; exact cj
                                            have fjn : ∀ q, (wr.drewN q).frozen? ⟨Y.CN, j, none⟩ = false := fun q => by rw [World.frozen?_of_block (((Chg.refl [] wr).drewN q).block Y.CN (lt_of_heap HPR.out.a3) (by simp))]; exact fj
                                            clear hfit hy
                                            as_aux_lemma =>
                                              go_wp2_with fail
                                              as_aux_lemma =>
                                                go_quiet (fail)
                                                as_aux_lemma =>
                                                  go_wp2_with fail
                                                  go_roundw
                                                  case rel => exact ⟨j + 1, by omega, by go_num, HN.out _⟩
                                                  case measure => simp [intOf]; omega
                                          · have hf0 : (cn1 j && decide (lv1 j ≤ s)) = false := by simpa using hfit
                                            have HN : Hid (∀ q, PP Y lv1 lp1 cnt' view' ext' L' (fun j => .int .u64 (lv1 j)) (fun j => .int .u8 (lp1 j)) (fun q => .bool (swc s lv1 cn1 (j + 1) q)) (wr.drewN q) ∧ (wr.drewN q).heap[SB]? = some (.cells (t3 wh s pp).toArray 62 (0, 0))) := fun q => by
                                              have h1 := HPR.out.chg yok ((Chg.refl _ wr).drewN q)
                                              rw [swc_stay s lv1 cn1 j hf0] at h1
                                              exact ⟨h1, (((Chg.refl [] wr).drewN q).block SB (lt_of_heap HBR.out) (by simp)).trans HBR.out⟩
                                            have hor : cn1 j = false ∨ (cn1 j = true ∧ ¬ lv1 j ≤ s) := by
                                              cases hc : cn1 j
                                              · exact .inl rfl
                                              · rw [hc] at hf0; simp at hf0; exact .inr ⟨rfl, by omega⟩
                                            clear hfit hf0
                                            rcases hor with y1 | ⟨y1, y2⟩
                                            · rw [y1] at cj
                                              clear y1
                                              as_aux_lemma =>
                                                go_wp2_with fail
                                                as_aux_lemma =>
                                                  go_quiet (fail)
                                                  as_aux_lemma =>
                                                    go_wp2_with fail
                                                    go_roundw
                                                    case rel => exact ⟨j + 1, by omega, by go_num, HN.out _⟩
                                                    case measure => simp [intOf]; omega
                                            · rw [y1] at cj
                                              have tl : decide ((lv1 j : Int) ≤ (s : Int)) = false := by simp; omega
                                              have tl' : decide (lv1 j ≤ s) = false := by simp; omega
                                              clear y1
                                              as_aux_lemma =>
                                                go_wp2_with fail
                                                as_aux_lemma =>
                                                  go_quiet (fail)
                                                  as_aux_lemma =>
                                                    go_wp2_with fail
                                                    go_roundw
                                                    case rel => exact ⟨j + 1, by omega, by go_num, HN.out _⟩
                                                    case measure => simp [intOf]; omega
                                        · have : j = nv := by omega
                                          subst this
                                          clear hpr hbr
                                          as_aux_lemma =>
                                            go_wp2_with fail
                                            go_meet
                                            case rel => exact ⟨HPR.out, HBR.out⟩
                                  obtain ⟨hpw, hbw⟩ := hcut
                                  have s1 : wc.cell? ⟨SB, 1, none⟩ = some (.int .u64 s) := cell_of hbw 1 _ rfl
                                  have HPF : Hid (PP Y lv1 lp1 (swc s lv1 cn1 nv) view' ext' L' (fun j => .int .u64 (lv1 j)) (fun j => .int .u8 (lp1 j)) (fun j => .bool (swc s lv1 cn1 nv j)) wc) := hpw.congr yok (fun j hj => by
                                    rw [HY.out.2.1] at hj
                                    rw [HR.out.1]
                                    unfold swc
                                    rw [if_pos hj])
                                  have HMF : Hid (Mid Y (.int .u64 view') (.bool true) (.int .u64 s) (.int .u8 p) (.bool true) (.int .i64 (l.length : Nat)) wc) := HR.out.2.2.mid (cnt' := cn1) HML.out.2 HPF.out
                                  have HVV : Hid (view' = (if view ≤ s then (s + 1) % 2 ^ 64 else view)) := HR.out.2.1
                                  clear hpw hbw HP9 HB9 HR HPF
                                  by_cases hvs : view ≤ s
                                  · have tv : decide ((view : Int) ≤ (s : Int)) = true := by simp; omega
                                    have tv' : decide (view ≤ s) = true := by simp; omega
                                    have htw2 : IntKind.u64.wrap ((s : Int) + 1) = (view' : Int) := by
                                      have := HVV.out
                                      rw [if_pos hvs] at this
                                      simp [IntKind.wrap, IntKind.bits, IntKind.signed]
                                      omega
                                    as_aux_lemma =>
                                      go_wp2_with fail
                                      go_meet
                                      case rel => exact HMF.out
                                  · have tv : decide ((view : Int) ≤ (s : Int)) = false := by simp; omega
                                    have tv' : decide (view ≤ s) = false := by simp; omega
                                    have hve : view' = view := by rw [HVV.out, if_neg hvs]
                                    subst hve
                                    as_aux_lemma =>
                                      go_wp2_with fail
                                      go_meet
                                      case rel => exact HMF.out
              obtain ⟨lv2, lp2, cn2, view2, hq2, qv2, qp2, ext2, L2, fm, c, rfl, rfl, rfl, rfl, rfl, rfl, hpp2, hqo2, hfo2, hfh⟩ := hcut
              have HP2 : Hid (PP Y lv2 lp2 cn2 view2 ext2 L2 (fun j => .int .u64 (lv2 j)) (fun j => .int .u8 (lp2 j)) (fun j => .bool (cn2 j)) wc) := hpp2
              have HQ2 : Hid (QOk ext2 L2 hq2 qv2 qp2) := hqo2
              have HFO : Hid (FOk ext2 L2 Y.nv lv2 lp2 fm c qv2 qp2) := hfo2
              have HFH : Hid (fm = true → hq2 = true) := hfh
              have o3 := hpp2.ord.v
              have o56 : wc.cell? ⟨Y.E.O, 56, none⟩ = some ext2 := by
                obtain ⟨A, hA, _, _, _, _, _, _, _, _, _, _, a⟩ := hpp2.ord
                exact cell_of hA 56 _ a
              have hne : ∀ w' : World, (binOp .neq 53 ext2 (.pointer none)).run Yba.prog w' = .ok (.bool hq2) w' := by
                rcases hqo2 with ⟨r1, r2⟩ | ⟨r1, Q, X, r2, _⟩
                · rw [r1, r2]; exact neq53'
                · rw [r1, r2]; exact neq53 Q
              have heg : ∀ w' : World, (eqGuard .neq 53 (.tmp 208) (.const (.pointer none)) ext2 (.pointer none)).run Yba.prog w' = .ok () w' := by
                rcases hqo2 with ⟨r1, r2⟩ | ⟨r1, Q, X, r2, _⟩
                · rw [r2]; exact eg53'
                · rw [r2]; exact eg53 Q
              clear hpp2 hqo2 hfo2 hfh
              as_aux_lemma =>
                go_upto_if 212 with fail
                clear o3 hne heg
                generalize wc = wm at *
                as_aux_lemma =>
                  go_cut [] (fun wx => Chg [] wm wx)
                  case first =>
                    cases hq2
                    · go_wp2_with fail
                      go_meet
                      case rel => exact Chg.refl _ _
                    · obtain ⟨Q, X, hext, hmem⟩ : ∃ Q X, ext2 = .pointer (some ⟨Q, 0, none⟩) ∧ (Q, Obj.cells (qc qv2 qp2 X).toArray 48 (0, 0)) ∈ L2 := (HQ2.out.resolve_left (fun h => by cases h.1)).2
                      have hQ := (HP2.out.wat _ hmem).1
                      subst hext
                      have cq0 : wm.cell? ⟨Q, 0, none⟩ = some (.int .u64 qv2) := cell_of hQ 0 _ rfl
                      have cq1 : wm.cell? ⟨Q, 1, none⟩ = some (.int .u8 qp2) := cell_of hQ 1 _ rfl
                      clear hQ hmem
                      cases fm
                      · go_wp2_with fail
                        go_meet
                        case rel => exact Chg.refl _ _
                      · obtain ⟨Q', V, cap', cur, l2, e1, m1, m2, n1, n2, n3, n4, rfl, n5⟩ := HFO.out rfl
                        have eQ : Q' = Q := by injection e1 with e1; injection e1 with e1; injection e1 with e1; exact e1.symm
                        subst eQ
                        have hQ' := (HP2.out.wat _ m1).1
                        have hV := (HP2.out.wat _ m2).1
                        have cq33 : wm.cell? ⟨Q', 33, none⟩ = some (.slice (some ⟨V, 0, none⟩) l2.length cap') := cell_of hQ' 33 _ rfl
                        have HVT : Hid (Vt wm V cap' l2) := ⟨n1, n2, cur, hV, n3, n4⟩
                        have HN5 : Hid (∀ j ∈ l2, j < Y.nv ∧ lv2 j = qv2 ∧ lp2 j = qp2) := n5
                        have HVL : Hid (V < wm.heap.size) := lt_of_heap hV
                        have HLL : Hid (l2.length ≤ cap' ∧ cap' ≤ maxLen) := ⟨n1, n2⟩
                        clear e1 m1 m2 n1 n2 n3 n4 n5 hQ' hV
                        as_aux_lemma =>
                          go_wp2_with fail
                          as_aux_lemma =>
                            go_loopw [253] (fun v wr => ∃ j : Nat, j ≤ l2.length ∧ v = .int .i64 j ∧ Chg [] wm wr) (fun v _ => l2.length - (intOf v).toNat)
                            case atStart => exact ⟨0, Nat.zero_le _, rfl, Chg.refl _ _⟩
                            case round =>
                              obtain ⟨j, hj, rfl, hch⟩ := hrel
                              have HCH : Hid (Chg [] wm wr) := hch
                              by_cases hlt3 : j < l2.length
                              · obtain ⟨z, hz⟩ : ∃ z, l2[j]? = some z := ⟨_, List.getElem?_eq_getElem hlt3⟩
                                obtain ⟨z1, z2, z3⟩ := HN5.out z (List.mem_of_getElem? hz)
                                have hr66 := (HVT.out.keep (hch.block V HVL.out (by simp))).range hz
                                have hl66 : (ldS 66 (.pointer (some ⟨V, j * 65, none⟩))).run Yba.prog wr = .ok (.agg (sc z).toArray) wr := ldS66 V (j * 65) z wr hr66
                                have ha66 := alloc66 wr
                                have hs66 := store66 z wr
                                have hzn : z < nv := by rw [← HY.out.2.1]; exact z1
                                have hc9 : Chg [] wm (wr.alloc (.cells (sc z).toArray 66)) := hch.alloc _
                                have HC9 : Hid (Chg [] wm (wr.alloc (.cells (sc z).toArray 66))) := hc9
                                have hp9 := HP2.out.chg yok hc9
                                have cz : (wr.alloc (.cells (sc z).toArray 66)).cell? ⟨wr.heap.size, 0, none⟩ = some (.int .i64 z) := cell_of (MapKept.heap_alloc wr _).1 0 _ rfl
                                have lz : (wr.alloc (.cells (sc z).toArray 66)).cell? ⟨Y.LW, z, none⟩ = some (.int .u64 qv2) := by have := hp9.a1.cell (show z < 4 by omega); rw [z2] at this; exact this
                                have pz : (wr.alloc (.cells (sc z).toArray 66)).cell? ⟨Y.LP, z, none⟩ = some (.int .u8 qp2) := by have := hp9.a2.cell (show z < 4 by omega); rw [z3] at this; exact this
                                have tj : decide ((j : Int) < (l2.length : Int)) = true := by simp; omega
                                have hji : (j : Int) < (l2.length : Int) := by omega
                                have hj0 : (0 : Int) ≤ (j : Int) := by omega
                                have tz1 : decide ((z : Int) < 0) = false := by simp
                                have tz2 : decide ((nv : Int) ≤ (z : Int)) = false := by simp; omega
                                have tz2' : decide (nv ≤ z) = false := by simp; omega
                                have hz4 : (z : Int) < 4 := by omega
                                have hz0 : (0 : Int) ≤ (z : Int) := by omega
                                have hll := HLL.out
                                have hjm : (j : Int) + 1 ≤ 9223372036854775807 := by have := HLL.out; unfold maxLen at this; omega
                                clear hch hr66 z1 z2 z3 hc9 hp9 hz
                                generalize wr.alloc (.cells (sc z).toArray 66) = w9 at *
                                generalize wr.heap.size = ZB at *
                                generalize l2.length = n2 at *
                                as_aux_lemma =>
                                  go_wp2_with fail
                                  go_roundw
                                  case rel => exact ⟨j + 1, by omega, by go_num, HC9.out⟩
                                  case measure => simp [intOf]; omega
                              · have hjl : j = l2.length := by omega
                                subst hjl
                                clear hch
                                as_aux_lemma =>
                                  go_wp2_with fail
                                  go_meet
                                  case rel => exact HCH.out
                  have HPn : Hid (PP Y lv2 lp2 cn2 view2 ext2 L2 (fun j => .int .u64 (lv2 j)) (fun j => .int .u8 (lp2 j)) (fun j => .bool (cn2 j)) wc) := HP2.out.chg yok hcut
                  clear hcut o56 HP2 HFO HFH
                  generalize wc = wn at *
                  as_aux_lemma =>
                    go_upto_block 10 with fail
                    as_aux_lemma =>
                      go_cut [] (fun wx => Chg [] wn wx)
                      case first =>
                        go_wp2_with fail
                        as_aux_lemma =>
                          go_loopw [35] (fun v wr => ∃ j : Nat, j ≤ nv ∧ v = .int .i64 j ∧ Chg [] wn wr) (fun v _ => nv - (intOf v).toNat)
                          case atStart => exact ⟨0, Nat.zero_le _, rfl, Chg.refl _ _⟩
                          case round =>
                            obtain ⟨j, hj, rfl, hch⟩ := hrel
                            have HCH : Hid (Chg [] wn wr) := hch
                            by_cases hlt3 : j < nv
                            · have hj4 : j < 4 := by omega
                              have hpr := HPn.out.chg yok hch
                              have hjE : j < Y.E.nv := by rw [yok.env, HY.out.2.1]; exact hlt3
                              have pj : wr.cell? ⟨Y.LP, j, none⟩ = some (.int .u8 (lp2 j)) := hpr.a2.cell hj4
                              have tj : decide ((j : Int) < (nv : Int)) = true := by simp; omega
                              have hj4i : (j : Int) < 4 := by omega
                              have hjn : (j : Int) < (nv : Int) := by omega
                              have hj0 : (0 : Int) ≤ (j : Int) := by omega
                              have ha45 := alloc45 wr
                              have pj2 : (wr.alloc (.cells (ic 0).toArray 45)).cell? ⟨Y.LP, j, none⟩ = some (.int .u8 (lp2 j)) := by rw [World.cell?_alloc_past _ _ _ (lt_of_heap hpr.a2)]; exact pj
                              have cD : (wr.alloc (.cells (ic 0).toArray 45)).cell? ⟨wr.heap.size, 0, none⟩ = some (.int .u8 0) := cell_of (MapKept.heap_alloc wr _).1 0 _ rfl
                              have fD : (wr.alloc (.cells (ic 0).toArray 45)).frozen? ⟨wr.heap.size, 0, none⟩ = false := frozen_of (MapKept.heap_alloc wr _).1 0
                              have hca : Chg [] wn (wr.alloc (.cells (ic (lp2 j)).toArray 45)) := hch.alloc _
                              have HCA : Hid (Chg [] wn (wr.alloc (.cells (ic (lp2 j)).toArray 45))) := hca
                              have hpa := HPn.out.chg yok hca
                              obtain ⟨es3, cl3, cb3, vb3, cp3, vs3, hst3, _⟩ := hpa.sts
                              have o55 : (wr.alloc (.cells (ic (lp2 j)).toArray 45)).cell? ⟨Y.E.O, 55, none⟩ = some (.slice (some ⟨Y.E.LV, 0, none⟩) nv nv) := by
                                obtain ⟨A, hA, _, _, _, _, _, _, _, _, _, a, _⟩ := hpa.ord
                                rw [yok.env, HY.out.2.1] at a
                                exact cell_of hA 55 _ a
                              have rlv : (wr.alloc (.cells (ic (lp2 j)).toArray 45)).rangeAt Y.E.LV (j * 33) (kc (lv2 j) (lp2 j)) := hst3.lvat.range hjE
                              have lj : (wr.alloc (.cells (ic (lp2 j)).toArray 45)).cell? ⟨Y.LW, j, none⟩ = some (.int .u64 (lv2 j)) := hpa.a1.cell hj4
                              have rD : (wr.alloc (.cells (ic (lp2 j)).toArray 45)).rangeAt wr.heap.size 0 (ic (lp2 j)) := range_new wr 45 (ic (lp2 j))
                              have hbd := build71 (lv2 j) (lp2 j)
                              have hnq := neq71 (lv2 j) (lp2 j) (hst3.bnd j hjE).1 (hst3.bnd j hjE).2
                              have heq7 := eg71 (lv2 j) (lp2 j)
                              clear hch hpr hca hpa hst3
                              as_aux_lemma =>
                                go_upto_region 80 with fail
                                rw [show ((ic 0).set 0 (Value.int IntKind.u8 (lp2 j : Int))) = ic (lp2 j) from rfl]
                                clear ha45 pj pj2 cD fD
                                generalize wr.alloc (.cells (ic (lp2 j)).toArray 45) = wa at *
                                generalize wr.heap.size = DB3 at *
                                have hl45 : ∀ w' : World, w'.rangeAt DB3 0 (ic (lp2 j)) → (ldS 45 (.pointer (some ⟨DB3, 0, none⟩))).run Yba.prog w' = .ok (.agg (ic (lp2 j)).toArray) w' := ldS45 DB3 0 (lp2 j)
                                have hl71 : ∀ w' : World, w'.rangeAt Y.E.LV (j * 33) (kc (lv2 j) (lp2 j)) → (ldS 71 (.pointer (some ⟨Y.E.LV, j * 33, none⟩))).run Yba.prog w' = .ok (.agg (kc (lv2 j) (lp2 j)).toArray) w' := ldS71 Y.E.LV (j * 33) (lv2 j) (lp2 j)
                                have hu := Yba.underlying45
                                have hsz45 : (Yba.prog.info? 45).map (·.size) = some (ic (lp2 j)).length := by rw [ic_len]; exact size45
                                have hil := ic_len (lp2 j)
                                generalize lv2 j = lvj at *
                                generalize lp2 j = lpj at *
                                as_aux_lemma =>
                                  go_region_held3 (fun w' => w'.cell? ⟨Y.E.O, 55, none⟩ = some (.slice (some ⟨Y.E.LV, 0, none⟩) nv nv) ∧ w'.rangeAt Y.E.LV (j * 33) (kc lvj lpj) ∧ w'.cell? ⟨Y.LW, j, none⟩ = some (.int .u64 lvj) ∧ w'.rangeAt DB3 0 (ic lpj)) (first | exact ⟨o55, rlv, lj, rD⟩ | (go_keep_ranges; done)) (fail)
                                  as_aux_lemma =>
                                    go_wp2_with fail
                                    go_roundw
                                    case rel => exact ⟨j + 1, by omega, by go_num, HCA.out.drew⟩
                                    case measure => simp [intOf]; omega
                            · have hjl : j = nv := by omega
                              subst hjl
                              clear hch
                              as_aux_lemma =>
                                go_wp2_with fail
                                go_meet
                                case rel => exact HCH.out
                      have HPk : Hid (PP Y lv2 lp2 cn2 view2 ext2 L2 (fun j => .int .u64 (lv2 j)) (fun j => .int .u8 (lp2 j)) (fun j => .bool (cn2 j)) wc) := HPn.out.chg yok hcut
                      clear hcut HPn
                      generalize wc = wk at *
                      as_aux_lemma =>
                        go_upto_block 12 with fail
                        as_aux_lemma =>
                          go_cut [37] (fun v37 wx => v37 = .int .i64 ((dst lv2 lp2 cn2 nv : Nat) : Int) ∧ Chg [] wk wx)
                          case first =>
                            go_wp2_with fail
                            as_aux_lemma =>
                              go_loopw [37, 38] (fun v37 v38 wr => ∃ j : Nat, j ≤ nv ∧ v38 = .int .i64 j ∧ v37 = .int .i64 ((dst lv2 lp2 cn2 j : Nat) : Int) ∧ Chg [] wk wr) (fun _ v _ => nv - (intOf v).toNat)
                              case atStart => exact ⟨0, Nat.zero_le _, rfl, rfl, Chg.refl _ _⟩
                              case round =>
                                obtain ⟨j, hj, rfl, rfl, hch⟩ := hrel
                                have HCH : Hid (Chg [] wk wr) := hch
                                by_cases hlt3 : j < nv
                                · have hj4 : j < 4 := by omega
                                  have hpr := HPk.out.chg yok hch
                                  have cj : wr.cell? ⟨Y.CN, j, none⟩ = some (.bool (cn2 j)) := hpr.a3.cell hj4
                                  have tj : decide ((j : Int) < (nv : Int)) = true := by simp; omega
                                  have hj4i : (j : Int) < 4 := by omega
                                  have hj0 : (0 : Int) ≤ (j : Int) := by omega
                                  have hds := dst_succ lv2 lp2 cn2 j
                                  have hdl := dst_le lv2 lp2 cn2 j
                                  clear hch hpr
                                  by_cases hcj : cn2 j = true
                                  · rw [hcj] at cj
                                    have HDS : Hid (dst lv2 lp2 cn2 (j + 1) = dst lv2 lp2 cn2 j + bit (!(List.range j).any (twin lv2 lp2 cn2 j)) 1) := by
                                      show _ = _
                                      rw [hds]
                                      unfold fst
                                      rw [hcj]
                                      rfl
                                    have HCJ : Hid (cn2 j = true) := hcj
                                    clear hds hcj
                                    generalize dst lv2 lp2 cn2 j = D0 at *
                                    as_aux_lemma =>
                                      go_upto_block 14 with fail
                                      as_aux_lemma =>
                                        go_cut [39] (fun v39 wx => v39 = .bool (!(List.range j).any (twin lv2 lp2 cn2 j)) ∧ Chg [] wk wx)
                                        case first =>
                                          go_wp2_with fail
                                          as_aux_lemma =>
                                            go_loopw [39, 40] (fun v39 v40 wr => ∃ h : Nat, h ≤ j ∧ v40 = .int .i64 h ∧ v39 = .bool (!(List.range h).any (twin lv2 lp2 cn2 j)) ∧ Chg [] wk wr) (fun _ v _ => j - (intOf v).toNat)
                                            case atStart => exact ⟨0, Nat.zero_le _, rfl, rfl, HCH.out⟩
                                            case round =>
                                              obtain ⟨h, hh, rfl, rfl, hch⟩ := hrel
                                              have HCI : Hid (Chg [] wk wr) := hch
                                              by_cases hlt4 : h < j
                                              · have hh4 : h < 4 := by omega
                                                have hpr := HPk.out.chg yok hch
                                                have ch : wr.cell? ⟨Y.CN, h, none⟩ = some (.bool (cn2 h)) := hpr.a3.cell hh4
                                                have lh : wr.cell? ⟨Y.LW, h, none⟩ = some (.int .u64 (lv2 h)) := hpr.a1.cell hh4
                                                have ph : wr.cell? ⟨Y.LP, h, none⟩ = some (.int .u8 (lp2 h)) := hpr.a2.cell hh4
                                                have lj : wr.cell? ⟨Y.LW, j, none⟩ = some (.int .u64 (lv2 j)) := hpr.a1.cell hj4
                                                have pj : wr.cell? ⟨Y.LP, j, none⟩ = some (.int .u8 (lp2 j)) := hpr.a2.cell hj4
                                                have th : decide ((h : Int) < (j : Int)) = true := by simp; omega
                                                have hh4i : (h : Int) < 4 := by omega
                                                have hh0 : (0 : Int) ≤ (h : Int) := by omega
                                                have hta := twin_any lv2 lp2 cn2 j h
                                                clear hch hpr
                                                by_cases htw3 : twin lv2 lp2 cn2 j h = true
                                                · obtain ⟨y1, y2, y3⟩ := (twin_iff _ _ _ _ _).1 htw3
                                                  rw [htw3] at hta
                                                  have HTA : Hid ((!(List.range (h + 1)).any (twin lv2 lp2 cn2 j)) = false) := by show _ = _; rw [hta]; simp
                                                  rw [y1] at ch
                                                  rw [y2] at lh
                                                  rw [y3] at ph
                                                  clear y1 y2 y3 htw3 hta
                                                  generalize (!(List.range h).any (twin lv2 lp2 cn2 j)) = b0 at *
                                                  generalize lv2 j = lvj at *
                                                  generalize lp2 j = lpj at *
                                                  as_aux_lemma =>
                                                    go_wp2_with fail
                                                    as_aux_lemma =>
                                                      go_quiet (fail)
                                                      as_aux_lemma =>
                                                        go_wp2_with fail
                                                        go_roundw
                                                        case rel => exact ⟨h + 1, by omega, by go_num, by rw [HTA.out], HCI.out.drewN _⟩
                                                        case measure => simp [intOf]; omega
                                                · have hf0 : twin lv2 lp2 cn2 j h = false := by simpa using htw3
                                                  rw [hf0, Bool.or_false] at hta
                                                  have HTA : Hid ((!(List.range (h + 1)).any (twin lv2 lp2 cn2 j)) = (!(List.range h).any (twin lv2 lp2 cn2 j))) := by show _ = _; rw [hta]
                                                  have hor : cn2 h = false ∨ (cn2 h = true ∧ lv2 h ≠ lv2 j) ∨ (cn2 h = true ∧ lv2 h = lv2 j ∧ lp2 h ≠ lp2 j) := by
                                                    cases hc : cn2 h
                                                    · exact .inl rfl
                                                    · by_cases h2 : lv2 h = lv2 j
                                                      · exact .inr (.inr ⟨rfl, h2, fun h3 => htw3 ((twin_iff _ _ _ _ _).2 ⟨hc, h2, h3⟩)⟩)
                                                      · exact .inr (.inl ⟨rfl, h2⟩)
                                                  clear hta hf0 htw3
                                                  generalize (!(List.range h).any (twin lv2 lp2 cn2 j)) = b0 at *
                                                  rcases hor with y1 | ⟨y1, y2⟩ | ⟨y1, y2, y3⟩
                                                  · rw [y1] at ch
                                                    clear y1
                                                    as_aux_lemma =>
                                                      go_wp2_with fail
                                                      as_aux_lemma =>
                                                        go_quiet (fail)
                                                        as_aux_lemma =>
                                                          go_wp2_with fail
                                                          go_roundw
                                                          case rel => exact ⟨h + 1, by omega, by go_num, by rw [HTA.out], HCI.out.drewN _⟩
                                                          case measure => simp [intOf]; omega
                                                  · rw [y1] at ch
                                                    have z2 : ((lv2 h : Int) == (lv2 j : Int)) = false := by simp; omega
                                                    have z2' : (lv2 h == lv2 j) = false := by simpa using y2
                                                    clear y1
                                                    as_aux_lemma =>
                                                      go_wp2_with fail
                                                      as_aux_lemma =>
                                                        go_quiet (fail)
                                                        as_aux_lemma =>
                                                          go_wp2_with fail
                                                          go_roundw
                                                          case rel => exact ⟨h + 1, by omega, by go_num, by rw [HTA.out], HCI.out.drewN _⟩
                                                          case measure => simp [intOf]; omega
                                                  · rw [y1] at ch
                                                    rw [y2] at lh
                                                    have z3 : ((lp2 h : Int) == (lp2 j : Int)) = false := by simp; omega
                                                    have z3' : (lp2 h == lp2 j) = false := by simpa using y3
                                                    clear y1 y2
                                                    as_aux_lemma =>
                                                      go_wp2_with fail
                                                      as_aux_lemma =>
                                                        go_quiet (fail)
                                                        as_aux_lemma =>
                                                          go_wp2_with fail
                                                          go_roundw
                                                          case rel => exact ⟨h + 1, by omega, by go_num, by rw [HTA.out], HCI.out.drewN _⟩
                                                          case measure => simp [intOf]; omega
                                              · have hjl : h = j := by omega
                                                subst hjl
                                                clear hch
                                                as_aux_lemma =>
                                                  go_wp2_with fail
                                                  go_meet
                                                  case rel => exact ⟨rfl, HCI.out⟩
                                        obtain ⟨rfl, hch⟩ := hcut
                                        have HCI : Hid (Chg [] wk wc) := hch
                                        clear hch
                                        generalize (!(List.range j).any (twin lv2 lp2 cn2 j)) = b1 at *
                                        cases b1
                                        · have HD1 : Hid (dst lv2 lp2 cn2 (j + 1) = D0) := by show _ = _; rw [HDS.out]; rfl
                                          as_aux_lemma =>
                                            go_wp2_with fail
                                            go_roundw
                                            case rel => exact ⟨j + 1, by omega, by go_num, by rw [HD1.out], HCI.out⟩
                                            case measure => simp [intOf]; omega
                                        · have HD1 : Hid (dst lv2 lp2 cn2 (j + 1) = D0 + 1) := by show _ = _; rw [HDS.out]; rfl
                                          as_aux_lemma =>
                                            go_wp2_with fail
                                            go_roundw
                                            case rel => exact ⟨j + 1, by omega, by go_num, by rw [HD1.out]; go_num, HCI.out⟩
                                            case measure => simp [intOf]; omega
                                  · have hc0 : cn2 j = false := by simpa using hcj
                                    rw [hc0] at cj
                                    have HD1 : Hid (dst lv2 lp2 cn2 (j + 1) = dst lv2 lp2 cn2 j) := by
                                      show _ = _
                                      rw [hds]
                                      unfold fst
                                      rw [hc0]
                                      rfl
                                    clear hds hcj hc0
                                    generalize dst lv2 lp2 cn2 j = D0 at *
                                    as_aux_lemma =>
                                      go_wp2_with fail
                                      go_roundw
                                      case rel => exact ⟨j + 1, by omega, by go_num, by rw [HD1.out], HCH.out⟩
                                      case measure => simp [intOf]; omega
                                · have hjl : j = nv := by omega
                                  subst hjl
                                  clear hch
                                  as_aux_lemma =>
                                    go_wp2_with fail
                                    go_meet
                                    case rel => exact ⟨rfl, HCH.out⟩
                          obtain ⟨rfl, hch⟩ := hcut
                          have hpe := HPk.out.chg yok hch
                          obtain ⟨es3, cl3, cb3, vb3, cp3, vs3, hst3, hfull3⟩ := hpe.sts
                          have hcount := hst3.count hfull3
                          rw [yok.env, HY.out.2.1] at hcount
                          have o54 := hpe.ord.b
                          have hbm3 : wc.heap[Y.E.Bm]? = some (.map es3 cl3) := hst3.bm.at_
                          have HPE : Hid (PP Y lv2 lp2 cn2 view2 ext2 L2 (fun j => .int .u64 (lv2 j)) (fun j => .int .u8 (lp2 j)) (fun j => .bool (cn2 j)) wc) := hpe
                          rw [← hcount]
                          have HCT : Hid (es3.size = dst lv2 lp2 cn2 nv) := hcount
                          clear hpe hst3 hfull3 hcount hch
                          have hlm := len40 hbm3
                          have HFIN : Hid (∃ L3 : List (Nat × Obj), PP Y lv2 lp2 cn2 view2 ext2 L3 (fun j => .int .u64 (lv2 j)) (fun j => .int .u8 (lp2 j)) (fun j => .bool (cn2 j)) wc ∧ QOk ext2 L3 hq2 qv2 qp2 ∧ ∀ x ∈ L3, ∃ A, x.2 = Obj.cells A 48 (0, 0)) := by
                            rcases HQ2.out with ⟨r1, r2⟩ | ⟨r1, Q, X, r2, r3⟩
                            · exact ⟨[], HPE.out.sub (by simp), .inl ⟨r1, r2⟩, by simp⟩
                            · exact ⟨[(Q, Obj.cells (qc qv2 qp2 X).toArray 48 (0, 0))], HPE.out.sub (fun x hx => by simp at hx; rw [hx]; exact r3), .inr ⟨r1, Q, X, r2, by simp⟩, fun x hx => by simp at hx; rw [hx]; exact ⟨_, rfl⟩⟩
                          clear HCT HPE HPk HQ2
                          generalize es3.size = ns at *
                          as_aux_lemma =>
                            go_wp2_with fail
                            go_roundw
                            case rel =>
                              obtain ⟨L3, g1, g2, g3⟩ := HFIN.out
                              exact ⟨k + 1, lv2, lp2, cn2, view2, hq2, qv2, qp2, ext2, L3, by omega, by go_num, rfl, rfl, rfl, rfl, g1, g2, g3⟩
                            case measure => simp [intOf]; omega
end
end Go.Proofs.Ybulkmns
