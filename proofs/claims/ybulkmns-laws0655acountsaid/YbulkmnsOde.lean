/-
  The orderer's block under count's end: the new QC, certify, enter.
-/
import Derived.Test.YbulkmnsSwp
namespace Go.Proofs.Ybulkmns
open Go.RowKit Go.MapKept
set_option linter.unusedSimpArgs false
set_option linter.unusedVariables false

section
variable {w w' : World} {E : Env} {lv lp : Nat → Nat} {cnt : Nat → Bool} {es : Array MapEntry} {clock : Nat} {cb vb cp : Nat → Nat} {vs : Nat → List Nat} {view : Nat} {ext : Value}

theorem Ord.turned (h : Ord w E view ext) (x y : Value) : Ord ((w.setCell ⟨E.O, 56, none⟩ x).setCell ⟨E.O, 57, none⟩ y) E view x := by
  obtain ⟨A, hO, hs, h1, h2, h3, h4, h5, h6, h7, h8, h9, h10⟩ := h
  have n : ∀ j, j ≠ 56 → j ≠ 57 → ((A.setIfInBounds 56 x).setIfInBounds 57 y)[j]? = A[j]? := fun j a b => by
    rw [Array.getElem?_setIfInBounds_ne (by omega), Array.getElem?_setIfInBounds_ne (by omega)]
  refine ⟨_, heap_setCell_same _ E.O 57 _ 59 y (heap_setCell_same w E.O 56 A 59 x hO), by simp [hs], ?_, ?_, ?_, ?_, ?_, ?_, ?_, ?_, ?_, ?_⟩
  · rw [n 1 (by decide) (by decide)]; exact h1
  · rw [n 2 (by decide) (by decide)]; exact h2
  · rw [n 3 (by decide) (by decide)]; exact h3
  · rw [n 10 (by decide) (by decide)]; exact h4
  · rw [n 44 (by decide) (by decide)]; exact h5
  · rw [n 47 (by decide) (by decide)]; exact h6
  · rw [n 48 (by decide) (by decide)]; exact h7
  · rw [n 54 (by decide) (by decide)]; exact h8
  · rw [n 55 (by decide) (by decide)]; exact h9
  · rw [Array.getElem?_setIfInBounds_ne (by decide), Array.getElem?_setIfInBounds_self_of_lt (by omega)]

theorem Ord.spare (h : Ord w E view ext) (j : Nat) (hj : j < 102) : ∃ x, w.cell? ⟨E.O, j, none⟩ = some x := by
  obtain ⟨A, hO, hs, _⟩ := h
  exact ⟨A[j]'(by omega), cell_of hO j _ (by simp [hs, hj])⟩
theorem Ord.soft (h : Ord w E view ext) (j : Nat) : w.frozen? ⟨E.O, j, none⟩ = false := by
  obtain ⟨A, hO, hs, _⟩ := h
  exact frozen_of hO j

theorem cert_ord (h : Ord w E view ext) (M : CMap w E.Cm) (v p : Nat) (hp : p < 256) (X : Value) (hX : X.oneCell' = true) :
    Calls Yba.prog 8 #[.pointer (some ⟨E.O, 0, none⟩), .agg (qc v p X).toArray] w fun e w' => e = .returned (.tuple #[]) ∧ Chg [E.O, E.Cm] w w' ∧ CMap w' E.Cm ∧ Ord w' E view ext := by
  obtain ⟨A, hO, hs, h1, h2, h3, ⟨hh, h4⟩, h5, h6, h7, h8, h9, h10⟩ := h
  refine (certify_at E.O E.Cm v p hh X hX A w hp hO hs h7 h6 h4 M).mono ?_
  rintro e w' ⟨rfl, hc, hm, A', a1, a2, a3, a4⟩
  refine ⟨rfl, hc, hm, A', a1, a2, ?_, ?_, ?_, a4, ?_, ?_, ?_, ?_, ?_, ?_⟩
  · rw [a3 1 (by omega)]; exact h1
  · rw [a3 2 (by omega)]; exact h2
  · rw [a3 3 (by omega)]; exact h3
  · rw [a3 44 (by omega)]; exact h5
  · rw [a3 47 (by omega)]; exact h6
  · rw [a3 48 (by omega)]; exact h7
  · rw [a3 54 (by omega)]; exact h8
  · rw [a3 55 (by omega)]; exact h9
  · rw [a3 56 (by omega)]; exact h10

theorem enter_ord (h : Ord w E view ext) (hT : w.heap[E.Tm]? = some (.map #[] 0)) (v : Nat) (now : Int) :
    Calls Yba.prog 9 #[.pointer (some ⟨E.O, 0, none⟩), .int .i64 now, .int .u64 v] w fun e w' => e = .returned (.tuple #[]) ∧ Chg [E.O] w w' ∧ Ord w' E v ext := by
  obtain ⟨A, hO, hs, h1, ⟨d, h2⟩, h3, h4, h5, h6, h7, h8, h9, h10⟩ := h
  refine (enter_at E.O E.Tm v now d A w hO hs h5 h2 hT).mono ?_
  rintro e w' ⟨rfl, hc, A', a1, a2, a3, a4⟩
  refine ⟨rfl, hc, A', a1, a2, ?_, ⟨d, ?_⟩, a3, ?_, ?_, ?_, ?_, ?_, ?_, ?_⟩
  · rw [a4 1 (by decide) (by decide) (by decide)]; exact h1
  · rw [a4 2 (by decide) (by decide) (by decide)]; exact h2
  · rw [a4 10 (by decide) (by decide) (by decide)]; exact h4
  · rw [a4 44 (by decide) (by decide) (by decide)]; exact h5
  · rw [a4 47 (by decide) (by decide) (by decide)]; exact h6
  · rw [a4 48 (by decide) (by decide) (by decide)]; exact h7
  · rw [a4 54 (by decide) (by decide) (by decide)]; exact h8
  · rw [a4 55 (by decide) (by decide) (by decide)]; exact h9
  · rw [a4 56 (by decide) (by decide) (by decide)]; exact h10

theorem St.certified (h : St w E lv lp cnt es clock cb vb cp vs) (ok : E.Ok) (hc : Chg [E.O, E.Cm] w w') (hm : CMap w' E.Cm) : St w' E lv lp cnt es clock cb vb cp vs := by
  have blk : ∀ b, b < w.heap.size → b ≠ E.O → b ≠ E.Cm → w'.heap[b]? = w.heap[b]? := fun b hb hn hn' => hc.block b hb (by simp [hn, hn'])
  have ap := ok.apart
  simp only [List.nodup_cons, List.mem_cons, List.not_mem_nil, or_false, not_or, List.nodup_nil, and_true] at ap
  have s0 := h.siz
  have oG := ok.G
  have ogv := ok.gv
  have oT := ok.Tm
  have oC := ok.Cm
  have oL := ok.LV
  have oB := ok.Bm
  have oO := ok.O
  refine ⟨⟨?_, ?_, fun i hi => ?_⟩, ?_, hm, ?_, ?_, fun e he => ?_, h.new, h.inj, h.mem, h.nd, h.has, h.bnd, Nat.le_trans h.siz hc.size⟩
  · rw [World.cell?_of_block (blk E.G (by omega) ap.1.2.1 ap.1.2.2.2.1)]; exact h.gen.val
  · rw [World.cell?_of_block (blk E.G (by omega) ap.1.2.1 ap.1.2.2.2.1)]; exact h.gen.tot
  · rw [World.cell?_of_block (blk E.gv (by omega) ap.2.1.1 ap.2.1.2.2.1)]; exact h.gen.stake i hi
  · exact (blk E.Tm (by omega) (Ne.symm ap.2.2.1.1) ap.2.2.2.1.1).trans h.tm
  · exact ⟨(blk E.Bm (by omega) (Ne.symm ap.2.2.1.2.2.1) (Ne.symm ap.2.2.2.2.1.1)).trans h.bm.at_, h.bm.st, h.bm.good⟩
  · exact h.lvat.keep (blk E.LV (by omega) (Ne.symm ap.2.2.1.2.2.2) (Ne.symm ap.2.2.2.2.1.2))
  · have hb := h.bal e he
    have hn := h.new e he
    have l3 : vb (bk e) < w.heap.size := by obtain ⟨_, _, cur, h3, _⟩ := hb.v; exact lt_of_heap h3
    exact hb.keep (blk _ (lt_of_heap hb.b) (by omega) (by omega)) (blk _ (lt_of_heap hb.c) (by omega) (by omega)) (blk _ l3 (by omega) (by omega))
end

theorem qc_one (v p : Nat) (a : Addr) (n c : Nat) : ∀ u ∈ qc v p (.slice (some a) n c), u.oneCell' = true := by
  intro u hu
  rcases List.mem_cons.1 hu with rfl | h
  · rfl
  · rcases List.mem_append.1 h with h | h
    · rcases List.mem_cons.1 h with rfl | h
      · rfl
      · rw [List.eq_of_mem_replicate h]; rfl
    · simp at h; subst h; rfl
def alS (t : TypeId) (b : Bool) (v : Value) : Sem Value := Instr.alloc t b v
theorem al71 (b : Bool) (v : Value) : Instr.alloc 71 b v = alS 71 b v := rfl
theorem al48 (b : Bool) (v : Value) : Instr.alloc 48 b v = alS 48 b v := rfl
def bdS (t : TypeId) (xs : Array (Nat × Value)) : Sem Value := Instr.build t xs
theorem bd71 (xs : Array (Nat × Value)) : Instr.build 71 xs = bdS 71 xs := rfl
theorem bd48 (xs : Array (Nat × Value)) : Instr.build 48 xs = bdS 48 xs := rfl
theorem build48 (s p : Nat) (a : Addr) (n c : Nat) (w : World) : (bdS 48 #[(0, .int .u64 s), (1, .agg (ic p).toArray), (2, .slice (some a) n c)]).run Yba.prog w = .ok (.agg (qc s p (.slice (some a) n c)).toArray) w := by kernel_rfl
theorem alloc48 (w : World) : (alS 48 true (.tuple #[])).run Yba.prog w = .ok (.pointer (some ⟨w.heap.size, 0, none⟩)) (w.alloc (.cells (qc 0 0 (.slice none 0 0)).toArray 48)) := by kernel_rfl
theorem store48 (s p : Nat) (a : Addr) (n c : Nat) (w : World) : (stS 48 (.pointer (some ⟨w.heap.size, 0, none⟩)) (.agg (qc s p (.slice (some a) n c)).toArray)).run Yba.prog (w.alloc (.cells (qc 0 0 (.slice none 0 0)).toArray 48)) = .ok () (w.alloc (.cells (qc s p (.slice (some a) n c)).toArray 48)) := by
  have := run_storeAt_mid (P := Yba.prog) (w.alloc (.cells (qc 0 0 (.slice none 0 0)).toArray 48)) w.heap.size 0 48 (qc s p (.slice (some a) n c)).toArray (by
    have h := there_new w 48 (qc 0 0 (.slice none 0 0)).toArray
    have e : (qc 0 0 (.slice none 0 0)).toArray.size = (qc s p (.slice (some a) n c)).toArray.size := by simp [qc_len]
    rwa [e] at h) (by rw [List.size_toArray, qc_len]; exact size48) (all_oneCell_toArray (qc_one s p a n c))
  rw [setCells_new w 48 (qc s p (.slice (some a) n c)).toArray.toList (qc 0 0 (.slice none 0 0)).toArray (by simp [qc_len])] at this
  unfold stS
  simpa using this
end Go.Proofs.Ybulkmns
