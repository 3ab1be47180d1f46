/-
  The orderer's state, as the law's model tells it.
-/
import Derived.Test.YbulkmnsInv
namespace Go.Proofs.Ybulkmns
open Go.RowKit Go.MapKept
open Go.ChangeMaps (setBlock heap_setBlock_same heap_setBlock_other)
set_option linter.unusedSimpArgs false
set_option linter.unusedVariables false

structure Env where
  G : Nat
  gv : Nat
  cg : Nat
  nv : Nat
  T : Nat
  O : Nat
  Tm : Nat
  Cm : Nat
  Bm : Nat
  LV : Nat
  base : Nat
  st : Nat → Nat

structure Env.Ok (E : Env) : Prop where
  nv : E.nv ≤ 4
  st : ∀ j, E.st j ≤ 4
  tot : E.T ≤ 16
  G : E.G < E.base
  gv : E.gv < E.base
  O : E.O < E.base
  Tm : E.Tm < E.base
  Cm : E.Cm < E.base
  Bm : E.Bm < E.base
  LV : E.LV < E.base
  apart : [E.G, E.gv, E.O, E.Tm, E.Cm, E.Bm, E.LV].Nodup

/-- the orderer's own block -/
def Ord (w : World) (E : Env) (view : Nat) (ext : Value) : Prop := ∃ A : Array Value, w.heap[E.O]? = some (.cells A 59 (0, 0)) ∧ A.size = 102 ∧ A[1]? = some (.pointer (some ⟨E.G, 0, none⟩)) ∧ (∃ d : Int, A[2]? = some (.int .i64 d)) ∧
  A[3]? = some (.int .u64 view) ∧ (∃ h : Nat, A[10]? = some (.int .u64 h)) ∧ A[44]? = some (.map (some E.Tm)) ∧ A[47]? = some (.map none) ∧ A[48]? = some (.map (some E.Cm)) ∧ A[54]? = some (.map (some E.Bm)) ∧
  A[55]? = some (.slice (some ⟨E.LV, 0, none⟩) E.nv E.nv) ∧ A[56]? = some ext

/-- the last votes -/
structure LvAt (w : World) (LV nv : Nat) (lv lp : Nat → Nat) : Prop where
  at_ : ∃ L : Array Value, w.heap[LV]? = some (.cells L 71 (0, 0)) ∧ L.size = nv * 33 ∧ ∀ j, j < nv → ∀ t, t < 33 → L[j * 33 + t]? = (kc (lv j) (lp j))[t]?
theorem LvAt.keep {w w' : World} {LV nv : Nat} {lv lp : Nat → Nat} (h : LvAt w LV nv lv lp) (e : w'.heap[LV]? = w.heap[LV]?) : LvAt w' LV nv lv lp := by
  obtain ⟨L, h1, h2⟩ := h
  exact ⟨L, e.trans h1, h2⟩
theorem LvAt.range {w : World} {LV nv : Nat} {lv lp : Nat → Nat} (h : LvAt w LV nv lv lp) {j : Nat} (hj : j < nv) : w.rangeAt LV (j * 33) (kc (lv j) (lp j)) := fun t v hv => by
  obtain ⟨L, h1, _, h3⟩ := h
  have ht : t < 33 := by have := (List.getElem?_eq_some_iff.1 hv).1; rwa [kc_len] at this
  exact cell_of h1 _ v ((h3 j hj t ht).trans hv)
theorem LvAt.there {w : World} {LV nv : Nat} {lv lp : Nat → Nat} (h : LvAt w LV nv lv lp) {j : Nat} (hj : j < nv) : w.there LV (j * 33) 33 := fun t ht => by
  obtain ⟨L, h1, h2, h3⟩ := h
  refine ⟨?_, frozen_of h1 _⟩
  have : j * 33 + t < L.size := by rw [h2]; omega
  rw [cell_of h1 (j * 33 + t) L[j * 33 + t] (by simp [this])]
  rfl
def upd {α : Type} (f : Nat → α) (i : Nat) (x : α) : Nat → α := fun j => if j = i then x else f j
theorem upd_same {α : Type} (f : Nat → α) (i : Nat) (x : α) : upd f i x i = x := by simp [upd]
theorem upd_other {α : Type} (f : Nat → α) (i : Nat) (x : α) {j : Nat} (h : j ≠ i) : upd f i x j = f j := by simp [upd, h]
theorem LvAt.put {w : World} {LV nv : Nat} {lv lp : Nat → Nat} (h : LvAt w LV nv lv lp) {i : Nat} (hi : i < nv) (v p : Nat) : LvAt (w.setCells LV (i * 33) (kc v p)) LV nv (upd lv i v) (upd lp i p) := by
  obtain ⟨L, h1, h2, h3⟩ := h
  obtain ⟨L', e1, e2, e3⟩ := setCells_heap 71 LV (kc v p) (i * 33) w L h1 (by rw [kc_len, h2]; omega)
  refine ⟨L', e1, e2.trans h2, fun j hj t ht => ?_⟩
  have hl : L.toList.length = nv * 33 := by simpa using h2
  have hm : j * 33 + 33 ≤ nv * 33 := by omega
  have hmi : i * 33 + 33 ≤ nv * 33 := by omega
  have hk : (L.toList.take (i * 33)).length = i * 33 := by rw [List.length_take, hl]; omega
  rw [← Array.getElem?_toList, e3, kc_len]
  by_cases hji : j = i
  · subst hji
    rw [upd_same, upd_same, List.append_assoc, List.getElem?_append_right (by rw [hk]; omega), hk, List.getElem?_append_left (by rw [kc_len]; omega), show j * 33 + t - j * 33 = t by omega]
  · rw [upd_other _ _ _ hji, upd_other _ _ _ hji, ← h3 j hj t ht, ← Array.getElem?_toList]
    by_cases hlt : j < i
    · rw [List.append_assoc, List.getElem?_append_left (by rw [hk]; omega), List.getElem?_take, if_pos (by omega)]
    · have hl2 : (L.toList.take (i * 33) ++ kc v p).length = i * 33 + 33 := by rw [List.length_append, hk, kc_len]
      rw [List.getElem?_append_right (by rw [hl2]; omega), hl2, List.getElem?_drop, show i * 33 + 33 + (j * 33 + t - (i * 33 + 33)) = j * 33 + t by omega]

structure St (w : World) (E : Env) (lv lp : Nat → Nat) (cnt : Nat → Bool) (es : Array MapEntry) (clock : Nat) (cb vb cp : Nat → Nat) (vs : Nat → List Nat) : Prop where
  gen : Gen w E.G E.gv E.nv E.cg E.st E.T
  tm : w.heap[E.Tm]? = some (.map #[] 0)
  cm : CMap w E.Cm
  bm : BMap w E.Bm es clock
  lvat : LvAt w E.LV E.nv lv lp
  bal : ∀ e ∈ es.toList, Bal w E.st (bk e) (cb (bk e)) (vb (bk e)) (cp (bk e)) (vs (bk e))
  new : ∀ e ∈ es.toList, E.base ≤ bk e ∧ E.base ≤ cb (bk e) ∧ E.base ≤ vb (bk e)
  inj : ∀ e ∈ es.toList, ∀ e' ∈ es.toList, bk e = bk e' ∨ cb (bk e) = cb (bk e') ∨ vb (bk e) = vb (bk e') → e = e'
  mem : ∀ e ∈ es.toList, ∀ j, j ∈ vs (bk e) ↔ j < E.nv ∧ cnt j = true ∧ lv j = vw e ∧ lp j = pr e
  nd : ∀ e ∈ es.toList, (vs (bk e)).Nodup
  has : ∀ j, j < E.nv → cnt j = true → ∃ e ∈ es.toList, vw e = lv j ∧ pr e = lp j
  bnd : ∀ j, j < E.nv → lv j < 2 ^ 64 ∧ lp j < 256
  siz : E.base ≤ w.heap.size
/-- no ballot is empty -/
def Full (es : Array MapEntry) (vs : Nat → List Nat) : Prop := ∀ e ∈ es.toList, vs (bk e) ≠ []

/-- what turns no block that the state speaks of keeps the state -/
theorem St.keep {w w' : World} {E : Env} {lv lp : Nat → Nat} {cnt : Nat → Bool} {es : Array MapEntry} {clock : Nat} {cb vb cp : Nat → Nat} {vs : Nat → List Nat} (h : St w E lv lp cnt es clock cb vb cp vs) (ok : E.Ok) (S : List Nat) (hc : Chg S w w')
    (hS : ∀ x ∈ S, x = E.O ∨ w.heap.size ≤ x) : St w' E lv lp cnt es clock cb vb cp vs := by
  have out : ∀ b, b < w.heap.size → b ≠ E.O → b ∉ S := fun b hb hn hm => by
    rcases hS b hm with e | e
    · exact hn e
    · omega
  have blk : ∀ b, b < E.base → b ≠ E.O → w'.heap[b]? = w.heap[b]? := fun b hb hn => hc.block b (by have := h.siz; omega) (out b (by have := h.siz; omega) hn)
  have ap := ok.apart
  simp only [List.nodup_cons, List.mem_cons, List.not_mem_nil, or_false, not_or, List.nodup_nil, and_true] at ap
  have lt : ∀ {b : Nat} {o : Obj}, w.heap[b]? = some o → b < w.heap.size := fun hb => (Array.getElem?_eq_some_iff.1 hb).1
  refine ⟨⟨?_, ?_, fun i hi => ?_⟩, ?_, ?_, ?_, ?_, fun e he => ?_, h.new, h.inj, h.mem, h.nd, h.has, h.bnd, Nat.le_trans h.siz hc.size⟩
  · rw [World.cell?_of_block (blk E.G ok.G ap.1.2.1)]; exact h.gen.val
  · rw [World.cell?_of_block (blk E.G ok.G ap.1.2.1)]; exact h.gen.tot
  · rw [World.cell?_of_block (blk E.gv ok.gv ap.2.1.1)]; exact h.gen.stake i hi
  · exact (blk E.Tm ok.Tm (Ne.symm ap.2.2.1.1)).trans h.tm
  · obtain ⟨es', cl, h1, h2⟩ := h.cm
    exact ⟨es', cl, (blk E.Cm ok.Cm (Ne.symm ap.2.2.1.2.1)).trans h1, h2⟩
  · exact ⟨(blk E.Bm ok.Bm (Ne.symm ap.2.2.1.2.2.1)).trans h.bm.at_, h.bm.st, h.bm.good⟩
  · exact h.lvat.keep (blk E.LV ok.LV (Ne.symm ap.2.2.1.2.2.2))
  · have hb := h.bal e he
    have hn := h.new e he
    have hO := ok.O
    have l3 : vb (bk e) < w.heap.size := by obtain ⟨_, _, cur, h3, _⟩ := hb.v; exact lt h3
    exact hb.keep (hc.block _ (lt hb.b) (out _ (lt hb.b) (by omega))) (hc.block _ (lt hb.c) (out _ (lt hb.c) (by omega))) (hc.block _ l3 (out _ l3 (by omega)))
end Go.Proofs.Ybulkmns
