/-
  The law's setting: the genesis is built, member by member; the orderer is laid.
-/
import Derived.Test.YbulkmnsPln
namespace Go.Proofs.Ybulkmns
open Go.RowKit Go.MapKept
set_option linter.unusedSimpArgs false
set_option linter.unusedVariables false

def gc (X : Value) (T : Nat) : List Value := List.replicate 32 (.int .u8 0) ++ [X, .slice none 0 0, .int .u64 T]
def mc (s : Nat) : List Value := .string "".toUTF8 :: (List.replicate 32 (.int .u8 0) ++ [.int .u64 s, .string "".toUTF8])
theorem mc_len (s : Nat) : (mc s).length = 35 := by simp [mc]
theorem mc_one (s : Nat) : ∀ u ∈ mc s, u.oneCell' = true := by
  intro u hu
  rcases List.mem_cons.1 hu with rfl | h
  · rfl
  · rcases List.mem_append.1 h with h | h
    · rw [List.eq_of_mem_replicate h]; rfl
    · simp at h
      rcases h with rfl | rfl <;> rfl
def mcs (st : Nat → Nat) (k : Nat) : List Value := (List.range k).flatMap fun j => mc (st j)
theorem mcs_succ (st : Nat → Nat) (k : Nat) : mcs st (k + 1) = mcs st k ++ mc (st k) := by simp [mcs, List.range_succ]
theorem mcs_len (st : Nat → Nat) : ∀ k, (mcs st k).length = k * 35
  | 0 => rfl
  | k + 1 => by rw [mcs_succ, List.length_append, mcs_len st k, mc_len]; omega
theorem mcs_get (st : Nat → Nat) : ∀ k j, j < k → (mcs st k)[j * 35 + 33]? = some (.int .u64 (st j))
  | 0, j, h => by omega
  | k + 1, j, h => by
    rw [mcs_succ]
    by_cases hj : j < k
    · rw [List.getElem?_append_left (by rw [mcs_len]; omega)]
      exact mcs_get st k j hj
    · have : j = k := by omega
      subst this
      rw [List.getElem?_append_right (by rw [mcs_len]; omega), mcs_len, show j * 35 + 33 - j * 35 = 33 by omega]
      rfl

theorem bd31 (xs : Array (Nat × Value)) : Instr.build 31 xs = bdS 31 xs := rfl
theorem bd35 (xs : Array (Nat × Value)) : Instr.build 35 xs = bdS 35 xs := rfl
theorem bd59 (xs : Array (Nat × Value)) : Instr.build 59 xs = bdS 59 xs := rfl
theorem bd66 (xs : Array (Nat × Value)) : Instr.build 66 xs = bdS 66 xs := rfl
theorem bd68 (xs : Array (Nat × Value)) : Instr.build 68 xs = bdS 68 xs := rfl
theorem bs27 (n : Nat) (xs : Array (Nat × Value)) : Instr.buildSlice 27 n xs = bsS 27 n xs := rfl
theorem al45 (b : Bool) (v : Value) : Instr.alloc 45 b v = alS 45 b v := rfl
def msS (t : TypeId) (a b : Value) : Sem Value := Instr.makeSlice t a b
theorem ms41 (a b : Value) : Instr.makeSlice 41 a b = msS 41 a b := rfl

theorem build31 (w : World) : (bdS 31 #[]).run Yba.prog w = .ok (.agg (gc (.slice none 0 0) 0).toArray) w := by kernel_rfl
theorem build35 (s : Nat) (w : World) : (bdS 35 #[(2, .int .u64 s)]).run Yba.prog w = .ok (.agg (mc s).toArray) w := by kernel_rfl
theorem slice27 (s : Nat) (w : World) : (bsS 27 1 #[(0, .agg (mc s).toArray)]).run Yba.prog w = .ok (.slice (some ⟨w.heap.size, 0, none⟩) 1 1) (w.alloc (.cells (mc s).toArray 35)) := by kernel_rfl
theorem info35 : (Yba.prog.info? 35).map (fun i => (i.zero, i.size, i.bytes)) = some (some (.agg (mc 0).toArray), 35, 72) := by kernel_rfl
theorem build66 (i : Nat) (w : World) : (bdS 66 #[(0, .int .i64 i)]).run Yba.prog w = .ok (.agg (sc i).toArray) w := by kernel_rfl
theorem build68 (s p i : Nat) (w : World) : (bdS 68 #[(0, .int .u64 s), (1, .agg (ic p).toArray), (2, .agg (sc i).toArray)]).run Yba.prog w = .ok (.agg (vc s p i).toArray) w := by kernel_rfl
theorem alloc45 (w : World) : (alS 45 true (.tuple #[])).run Yba.prog w = .ok (.pointer (some ⟨w.heap.size, 0, none⟩)) (w.alloc (.cells (ic 0).toArray 45)) := by kernel_rfl
def zlv (nv : Nat) : Array Value := ((List.replicate nv (kc 0 0)).flatten).toArray
theorem make41_0 (w : World) : (msS 41 (.int .i64 (0 : Nat)) (.int .i64 (0 : Nat))).run Yba.prog w = .ok (.slice (some ⟨w.heap.size, 0, none⟩) 0 0) (w.alloc (.cells (zlv 0) 71)) := by kernel_rfl
theorem make41_1 (w : World) : (msS 41 (.int .i64 (1 : Nat)) (.int .i64 (1 : Nat))).run Yba.prog w = .ok (.slice (some ⟨w.heap.size, 0, none⟩) 1 1) (w.alloc (.cells (zlv 1) 71)) := by kernel_rfl
theorem make41_2 (w : World) : (msS 41 (.int .i64 (2 : Nat)) (.int .i64 (2 : Nat))).run Yba.prog w = .ok (.slice (some ⟨w.heap.size, 0, none⟩) 2 2) (w.alloc (.cells (zlv 2) 71)) := by kernel_rfl
theorem make41_3 (w : World) : (msS 41 (.int .i64 (3 : Nat)) (.int .i64 (3 : Nat))).run Yba.prog w = .ok (.slice (some ⟨w.heap.size, 0, none⟩) 3 3) (w.alloc (.cells (zlv 3) 71)) := by kernel_rfl
theorem make41_4 (w : World) : (msS 41 (.int .i64 (4 : Nat)) (.int .i64 (4 : Nat))).run Yba.prog w = .ok (.slice (some ⟨w.heap.size, 0, none⟩) 4 4) (w.alloc (.cells (zlv 4) 71)) := by kernel_rfl
theorem make41 (nv : Nat) (h : nv ≤ 4) (w : World) : (msS 41 (.int .i64 nv) (.int .i64 nv)).run Yba.prog w = .ok (.slice (some ⟨w.heap.size, 0, none⟩) nv nv) (w.alloc (.cells (zlv nv) 71)) := by
  have : nv = 0 ∨ nv = 1 ∨ nv = 2 ∨ nv = 3 ∨ nv = 4 := by omega
  rcases this with rfl | rfl | rfl | rfl | rfl
  · exact make41_0 w
  · exact make41_1 w
  · exact make41_2 w
  · exact make41_3 w
  · exact make41_4 w
theorem zlv_at (nv : Nat) (h : nv ≤ 4) : (zlv nv).size = nv * 33 ∧ ∀ j, j < nv → ∀ t, t < 33 → (zlv nv)[j * 33 + t]? = (kc 0 0)[t]? := by
  have key : ∀ n, ((List.replicate n (kc 0 0)).flatten).length = n * 33 := fun n => by
    rw [List.length_flatten]; simp [kc_len]
  refine ⟨by unfold zlv; rw [List.size_toArray]; exact key nv, fun j hj t ht => ?_⟩
  unfold zlv
  rw [List.getElem?_toArray]
  have e : List.replicate nv (kc 0 0) = List.replicate j (kc 0 0) ++ (kc 0 0 :: List.replicate (nv - j - 1) (kc 0 0)) := by
    rw [← List.replicate_succ, List.replicate_append_replicate]
    congr 1
    omega
  rw [e, List.flatten_append, List.getElem?_append_right (by rw [key]; omega), key, show j * 33 + t - j * 33 = t by omega, List.flatten_cons, List.getElem?_append_left (by rw [kc_len]; omega)]

noncomputable def oA (G Tm Cm Bm LV nv : Nat) : Array Value :=
  match (bdS 59 #[(1, .pointer (some ⟨G, 0, none⟩)), (3, .int .u64 1), (2, .int .i64 1), (11, .map (some Tm)), (15, .map (some Cm)), (21, .map (some Bm)), (22, .slice (some ⟨LV, 0, none⟩) nv nv)]).run Yba.prog default with
  | .ok (.agg A) _ => A
  | _ => #[]
theorem build59 (G Tm Cm Bm LV nv : Nat) (w : World) : (bdS 59 #[(1, .pointer (some ⟨G, 0, none⟩)), (3, .int .u64 1), (2, .int .i64 1), (11, .map (some Tm)), (15, .map (some Cm)), (21, .map (some Bm)), (22, .slice (some ⟨LV, 0, none⟩) nv nv)]).run Yba.prog w = .ok (.agg (oA G Tm Cm Bm LV nv)) w := by kernel_rfl
theorem oA_size (G Tm Cm Bm LV nv : Nat) : (oA G Tm Cm Bm LV nv).size = 102 := by kernel_rfl
theorem oA_1 (G Tm Cm Bm LV nv : Nat) : (oA G Tm Cm Bm LV nv)[1]? = some (.pointer (some ⟨G, 0, none⟩)) := by kernel_rfl
theorem oA_2 (G Tm Cm Bm LV nv : Nat) : (oA G Tm Cm Bm LV nv)[2]? = some (.int .i64 1) := by kernel_rfl
theorem oA_3 (G Tm Cm Bm LV nv : Nat) : (oA G Tm Cm Bm LV nv)[3]? = some (.int .u64 1) := by kernel_rfl
theorem oA_10 (G Tm Cm Bm LV nv : Nat) : (oA G Tm Cm Bm LV nv)[10]? = some (.int .u64 0) := by kernel_rfl
theorem oA_44 (G Tm Cm Bm LV nv : Nat) : (oA G Tm Cm Bm LV nv)[44]? = some (.map (some Tm)) := by kernel_rfl
theorem oA_47 (G Tm Cm Bm LV nv : Nat) : (oA G Tm Cm Bm LV nv)[47]? = some (.map none) := by kernel_rfl
theorem oA_48 (G Tm Cm Bm LV nv : Nat) : (oA G Tm Cm Bm LV nv)[48]? = some (.map (some Cm)) := by kernel_rfl
theorem oA_54 (G Tm Cm Bm LV nv : Nat) : (oA G Tm Cm Bm LV nv)[54]? = some (.map (some Bm)) := by kernel_rfl
theorem oA_55 (G Tm Cm Bm LV nv : Nat) : (oA G Tm Cm Bm LV nv)[55]? = some (.slice (some ⟨LV, 0, none⟩) nv nv) := by kernel_rfl
theorem oA_56 (G Tm Cm Bm LV nv : Nat) : (oA G Tm Cm Bm LV nv)[56]? = some (.pointer none) := by kernel_rfl
/-- behind k rounds of the building loop -/
structure SetR (w : World) (x st : Nat → Nat) (k : Nat) (wr : World) : Prop where
  bel : Below w.heap.size w wr
  size : w.heap.size + 3 ≤ wr.heap.size
  stk : Arr wr w.heap.size 22 (fun j => .int .u8 (x j))
  gen : ∃ X, wr.heap[w.heap.size + 1]? = some (.cells (gc X 0).toArray 31 (0, 0)) ∧ wr.ownsRow (w.heap.size + 3) 35 35 X k (mcs st k)
  arr : Arr wr (w.heap.size + 2) 32 (fun j => .int .u64 ((if j < k then st j else 0 : Nat) : Int))

theorem gc_set (X Y : Value) (T : Nat) : (gc X T).toArray.setIfInBounds 32 Y = (gc Y T).toArray := rfl
theorem gc_tot (X : Value) (T T' : Nat) : (gc X T).toArray.setIfInBounds 34 (.int .u64 T') = (gc X T').toArray := rfl

theorem SetR.round {w wr w4 : World} {x st : Nat → Nat} {k : Nat} (h : SetR w x st k wr) (hk : k < 4) {X : Value} (hG : wr.heap[w.heap.size + 1]? = some (.cells (gc X 0).toArray 31 (0, 0))) (own : wr.ownsRow (w.heap.size + 3) 35 35 X k (mcs st k)) (o : Obj) {g cap : Nat}
    (ho : w4.ownsRow (w.heap.size + 3) 35 35 (.slice (some ⟨g, 0, none⟩) (k + 1) cap) (k + 1) (mcs st k ++ mc (st k))) (hg : ((wr.setCell ⟨w.heap.size + 2, k, none⟩ (.int .u64 (st k))).alloc o).drew.grownBy w4 X.ownBlock) :
    SetR w x st (k + 1) (w4.setCell ⟨w.heap.size + 1, 32, none⟩ (.slice (some ⟨g, 0, none⟩) (k + 1) cap)) := by
  have hs := h.size
  have hss : (wr.setCell ⟨w.heap.size + 2, k, none⟩ (.int .u64 (st k))).heap.size = wr.heap.size := by simp [World.setCell]
  have hsa : ((wr.setCell ⟨w.heap.size + 2, k, none⟩ (.int .u64 (st k))).alloc o).drew.heap.size = wr.heap.size + 1 := by show ((wr.setCell _ _).alloc o).heap.size = _; simp [hss]
  have hrow : ∀ V, X.ownBlock = some V → w.heap.size + 3 ≤ V := fun V hV => (own.lt V hV).1
  have h4 : ∀ b, b < wr.heap.size → X.ownBlock ≠ some b → w4.heap[b]? = (wr.setCell ⟨w.heap.size + 2, k, none⟩ (.int .u64 (st k))).heap[b]? := fun b hb hn => (hg.block b (by omega) (fun e => hn e.symm)).trans (Below.heap_alloc _ o b (by omega))
  have low : ∀ b, b < w.heap.size + 3 → X.ownBlock ≠ some b := fun b hb e => by have := hrow b e; omega
  have oth : ∀ b, b ≠ w.heap.size + 1 → (w4.setCell ⟨w.heap.size + 1, 32, none⟩ (.slice (some ⟨g, 0, none⟩) (k + 1) cap)).heap[b]? = w4.heap[b]? := fun b hb => Below.heap_setCell w4 ⟨w.heap.size + 1, 32, none⟩ _ b hb
  have ost : ∀ b, b ≠ w.heap.size + 2 → (wr.setCell ⟨w.heap.size + 2, k, none⟩ (.int .u64 (st k))).heap[b]? = wr.heap[b]? := fun b hb => Below.heap_setCell wr ⟨w.heap.size + 2, k, none⟩ _ b hb
  have hgs := hg.size
  have hG4 : w4.heap[w.heap.size + 1]? = some (.cells (gc X 0).toArray 31 (0, 0)) := (h4 _ (by omega) (low _ (by omega))).trans ((ost _ (by omega)).trans hG)
  have ngG : g ≠ w.heap.size + 1 := by
    rcases ho.2 with ⟨e, _⟩ | ⟨g', c', cur, e, hb, _⟩
    · cases e
    · injection e with e1
      injection e1 with e1
      injection e1 with e1
      omega
  have hsz5 : (w4.setCell ⟨w.heap.size + 1, 32, none⟩ (.slice (some ⟨g, 0, none⟩) (k + 1) cap)).heap.size = w4.heap.size := by simp [World.setCell]
  refine ⟨?_, by omega, ?_, ⟨.slice (some ⟨g, 0, none⟩) (k + 1) cap, ?_, ?_⟩, ?_⟩
  · exact h.bel.trans ⟨hg.os, hg.tape, hg.output, by omega, fun b hb => (oth b (by omega)).trans ((h4 b (by omega) (low b (by omega))).trans (ost b (by omega)))⟩
  · exact h.stk.keep ((oth _ (by omega)).trans ((h4 _ (by omega) (low _ (by omega))).trans (ost _ (by omega))))
  · rw [← gc_set X]
    exact heap_setCell_same w4 _ 32 _ 31 _ hG4
  · rw [mcs_succ]
    refine ⟨ho.1, ?_⟩
    rcases ho.2 with ⟨e, _⟩ | ⟨g', c', cur, e, hb, hh, r⟩
    · cases e
    · refine .inr ⟨g', c', cur, e, hb, ?_, r⟩
      injection e with e1
      injection e1 with e1
      injection e1 with e1
      rw [oth g' (by omega)]; exact hh
  · have e1 := (h.arr.put hk (.int .u64 (st k)))
    have e2 : Arr (w4.setCell ⟨w.heap.size + 1, 32, none⟩ (.slice (some ⟨g, 0, none⟩) (k + 1) cap)) (w.heap.size + 2) 32 _ := e1.keep ((oth _ (by omega)).trans (h4 _ (by omega) (low _ (by omega))))
    have : (upd (fun j => Value.int .u64 ((if j < k then st j else 0 : Nat) : Int)) k (.int .u64 (st k))) = fun j => Value.int .u64 ((if j < k + 1 then st j else 0 : Nat) : Int) := funext fun j => by
      by_cases hj : j = k
      · subst hj; rw [upd_same, if_pos (by omega)]
      · rw [upd_other _ _ _ hj]
        by_cases hlt : j < k
        · rw [if_pos hlt, if_pos (by omega)]
        · rw [if_neg hlt, if_neg (by omega)]
    rw [this] at e2
    exact e2
/-- what the law's outer loop starts from -/
structure Ini (E : Env) (w : World) (nv T : Nat) (st : Nat → Nat) (w' : World) : Prop where
  ok : E.Ok
  lo : Lo E w.heap.size
  env : E.nv = nv
  eT : E.T = T
  est : E.st = st
  arr : w.heap.size + 2 < E.base
  base : E.base ≤ w'.heap.size
  sts : ∃ es clock cb vb cp vs, St w' E (fun _ => 0) (fun _ => 0) (fun _ => false) es clock cb vb cp vs ∧ Full es vs
  ord : Ord w' E 1 (.pointer none)
  bel : Below w.heap.size w w'
  sta : Arr w' (w.heap.size + 2) 32 (fun j => .int .u64 ((if j < nv then st j else 0 : Nat) : Int))

theorem set_ini {w wr wI : World} {x st : Nat → Nat} {nv T : Nat} (h : SetR w x st nv wr) (h1 : 1 ≤ nv) (h4 : nv ≤ 4) (hst : ∀ j, st j ≤ 4) (hT : T ≤ 16) {X : Value} (hX : wr.heap[w.heap.size + 1]? = some (.cells (gc X 0).toArray 31 (0, 0))) (own : wr.ownsRow (w.heap.size + 3) 35 35 X nv (mcs st nv))
    (hblk : ∀ b, b < wr.heap.size → b ≠ w.heap.size + 1 → wI.heap[b]? = wr.heap[b]?) (hG : wI.heap[w.heap.size + 1]? = some (.cells (gc X T).toArray 31 (0, 0)))
    (hTm : wI.heap[wr.heap.size]? = some (.map #[] 0)) (hCm : wI.heap[wr.heap.size + 1]? = some (.map #[] 0)) (hBm : wI.heap[wr.heap.size + 2]? = some (.map #[] 0)) (hLV : wI.heap[wr.heap.size + 3]? = some (.cells (zlv nv) 71 (0, 0)))
    (hO : wI.heap[wr.heap.size + 4]? = some (.cells (oA (w.heap.size + 1) wr.heap.size (wr.heap.size + 1) (wr.heap.size + 2) (wr.heap.size + 3) nv) 59 (0, 0))) (hsz : wI.heap.size = wr.heap.size + 5) (ho1 : wI.os = wr.os) (ho2 : wI.tape = wr.tape) (ho3 : wI.output = wr.output) :
    ∃ E : Env, Ini E w nv T st wI ∧ E.O = wr.heap.size + 4 := by
  have hs := h.size
  rcases own.2 with ⟨_, e0⟩ | ⟨g, c, cur, rfl, hb, hh, hle, hmx, hcs, htk⟩
  · omega
  have hgl := lt_of_heap hh
  refine ⟨⟨w.heap.size + 1, g, c, nv, T, wr.heap.size + 4, wr.heap.size, wr.heap.size + 1, wr.heap.size + 2, wr.heap.size + 3, wr.heap.size + 5, st⟩, ⟨⟨h4, hst, hT, ?_, ?_, ?_, ?_, ?_, ?_, ?_, ?_⟩, ⟨?_, ?_, ?_, ?_, ?_⟩, rfl, rfl, rfl, ?_, ?_, ⟨#[], 0, fun _ => 0, fun _ => 0, fun _ => 0, fun _ => [], ⟨⟨?_, ?_, fun i hi => ?_⟩, hTm, ⟨#[], 0, hCm, by simp⟩, ⟨hBm, stamped_empty 0, by simp⟩, ⟨_, hLV, zlv_at nv h4⟩, by simp, by simp, by simp, by simp, by simp, ?_, ?_, ?_⟩, by intro e he; simp at he⟩, ?_, ?_, ?_⟩, rfl⟩
  all_goals try dsimp only
  all_goals try omega
  · simp only [List.nodup_cons, List.mem_cons, List.not_mem_nil, or_false, not_or, List.nodup_nil, and_true, not_false_eq_true]
    refine ⟨⟨?_, ?_, ?_, ?_, ?_, ?_⟩, ⟨?_, ?_, ?_, ?_, ?_⟩, ⟨?_, ?_, ?_, ?_⟩, ⟨?_, ?_, ?_⟩, ⟨?_, ?_⟩, ?_⟩ <;> omega
  · exact cell_of hG 32 _ rfl
  · exact cell_of hG 34 _ rfl
  · refine cell_of ((hblk g hgl (by omega)).trans hh) _ _ ?_
    have := mcs_get st nv i hi
    rw [← htk, List.getElem?_take] at this
    split at this
    · simpa using this
    · cases this
  · intro j _ hc; cases hc
  · exact ⟨_, hO, oA_size _ _ _ _ _ _, oA_1 _ _ _ _ _ _, ⟨1, oA_2 _ _ _ _ _ _⟩, oA_3 _ _ _ _ _ _, ⟨0, oA_10 _ _ _ _ _ _⟩, oA_44 _ _ _ _ _ _, oA_47 _ _ _ _ _ _, oA_48 _ _ _ _ _ _, oA_54 _ _ _ _ _ _, oA_55 _ _ _ _ _ _, oA_56 _ _ _ _ _ _⟩
  · exact h.bel.trans ⟨ho1, ho2, ho3, by omega, fun b hb => hblk b (by omega) (by omega)⟩
  · exact h.arr.keep (hblk _ (by omega) (by omega))
end Go.Proofs.Ybulkmns
