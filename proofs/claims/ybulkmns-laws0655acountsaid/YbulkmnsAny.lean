/-
  tally.add, whether the ballot is old or new: one contract.
-/
import Derived.Test.YbulkmnsCnt
namespace Go.Proofs.Ybulkmns
open Go.RowKit Go.MapKept
set_option linter.unusedSimpArgs false
set_option linter.unusedVariables false

structure Lo (E : Env) (lo : Nat) : Prop where
  base : lo ≤ E.base
  O : lo ≤ E.O
  Cm : lo ≤ E.Cm
  Bm : lo ≤ E.Bm
  LV : lo ≤ E.LV

theorem Ord.keep {w w' : World} {E : Env} {view : Nat} {ext : Value} (h : Ord w E view ext) (e : w'.heap[E.O]? = w.heap[E.O]?) : Ord w' E view ext := by
  obtain ⟨A, h1, h2⟩ := h
  exact ⟨A, e.trans h1, h2⟩

/-- behind the second look-up: the ballot that the vote goes into is there, or is laid, empty -/
def Mid2 (E : Env) (lo : Nat) (lv lp : Nat → Nat) (cnt : Nat → Bool) (view : Nat) (ext : Value) (Vb s p i : Nat) (w : World) (B : Nat) (wx : World) : Prop :=
  Fr lo w wx ∧ Ord wx E view ext ∧ VoteAt wx Vb s p i ∧
  ((∃ es clock cb vb cp vs e1, St wx E lv lp cnt es clock cb vb cp vs ∧ Full es vs ∧ e1 ∈ es.toList ∧ vw e1 = s ∧ pr e1 = p ∧ B = bk e1) ∨
   (∃ w0 es clock cb vb cp vs, St w0 E lv lp cnt es clock cb vb cp vs ∧ Full es vs ∧ (∀ e ∈ es.toList, ¬ (vw e = s ∧ pr e = p)) ∧ B = w0.heap.size ∧ wx.heap.size = w0.heap.size + 1 ∧ (∀ b, b < w0.heap.size → b ≠ E.Bm → wx.heap[b]? = w0.heap[b]?) ∧ wx.heap[B]? = some tz ∧ BMap wx E.Bm (es.push ⟨kv s p, ptr B, clock⟩) (clock + 1)))

/-- the state with the vote of i in the ballot at block B -/
def In (E : Env) (lv lp : Nat → Nat) (cnt : Nat → Bool) (s p i B : Nat) (w : World) (C V cap : Nat) (l : List Nat) : Prop :=
  ∃ es clock cb vb cp vs e1, St w E lv lp (upd cnt i true) es clock cb vb cp vs ∧ Full es vs ∧ e1 ∈ es.toList ∧ vw e1 = s ∧ pr e1 = p ∧ B = bk e1 ∧ C = cb B ∧ V = vb B ∧ cap = cp B ∧ l = vs B

/-- counted, its vote not yet appended -/
def Mid3 (E : Env) (lo : Nat) (lv lp : Nat → Nat) (cnt : Nat → Bool) (view : Nat) (ext : Value) (Vb s p i : Nat) (w : World) (B : Nat) (w' : World) : Prop :=
  Fr lo w w' ∧ Ord w' E view ext ∧ VoteAt w' Vb s p i ∧ E.base ≤ w'.heap.size ∧ ∃ (C : Nat) (X : Value) (l : List Nat), w'.heap[B]? = some (tb C (tot E.st (l ++ [i])) X) ∧ w'.heap[C]? = some (tc (mask (l ++ [i]))) ∧ E.base ≤ B ∧ E.base ≤ C ∧
    w'.ownsRow E.base 66 65 X l.length (scs l) ∧ l.length ≤ 4 ∧ Gen w' E.G E.gv E.nv E.cg E.st E.T ∧
    ∀ (w3 : World) (V cap : Nat), Chg (B :: (X.ownBlock).toList) w' w3 → Bal w3 E.st B C V cap (l ++ [i]) → (X.ownBlock = some V ∨ w'.heap.size ≤ V) → In E lv lp cnt s p i B w3 C V cap (l ++ [i])

theorem add_old (E : Env) (ok : E.Ok) (lo : Nat) (hlo : Lo E lo) (lv lp : Nat → Nat) (cnt : Nat → Bool) (view : Nat) (ext : Value) (Vb s p i : Nat) (w wx : World) (hi : i < E.nv) (hci : cnt i = false) (hkv : lv i = s) (hkp : lp i = p)
    (hfr : Fr lo w wx) (ord : Ord wx E view ext) (hvt : VoteAt wx Vb s p i) {es : Array MapEntry} {clock : Nat} {cb vb cp : Nat → Nat} {vs : Nat → List Nat} (h : St wx E lv lp cnt es clock cb vb cp vs) (full : Full es vs) {e1 : MapEntry} (he : e1 ∈ es.toList) (h1 : vw e1 = s) (h2 : pr e1 = p) (hlen : (vs (bk e1)).length ≤ 4) :
    Calls Yba.prog 6 #[.pointer (some ⟨bk e1, 0, none⟩), .pointer (some ⟨E.G, 0, none⟩), .int .i64 i] wx fun e w' => e = .returned (.bool true) ∧ Mid3 E lo lv lp cnt view ext Vb s p i w (bk e1) w' := by
  have hb := h.bal e1 he
  have hn := h.new e1 he
  have hnv := ok.nv
  have hi4 : i < 4 := by omega
  have hni : i ∉ vs (bk e1) := fun hm => by
    have := (h.mem e1 he i).1 hm
    rw [hci] at this
    cases this.2.1
  have hsame := same_add (vs (bk e1)) i
  have htot := tot_add (st := E.st) hi4 hni hsame
  have hmx := tot_le E.st (vs (bk e1)) ok.st
  have hst := ok.st i
  have oG := ok.G
  have ogv := ok.gv
  have oO := ok.O
  have siz := h.siz
  obtain ⟨_, _, cur, hv, _⟩ := hb.v
  have nBC : bk e1 ≠ cb (bk e1) := fun e => by have h1 := hb.b; rw [e, hb.c] at h1; cases h1
  have nBV : vb (bk e1) ≠ bk e1 := fun e => by have h1 := hb.b; rw [← e, hv] at h1; cases h1
  have nCV : vb (bk e1) ≠ cb (bk e1) := fun e => by have h1 := hb.c; rw [← e, hv] at h1; cases h1
  have hVS : Vb ∉ [bk e1, cb (bk e1)] := by
    have hv1 := hvt
    unfold VoteAt at hv1
    simp only [List.mem_cons, List.not_mem_nil, or_false, not_or]
    refine ⟨fun e => ?_, fun e => ?_⟩
    · rw [e, hb.b] at hv1; cases hv1
    · rw [e, hb.c] at hv1; cases hv1
  refine (tadd_old (bk e1) (cb (bk e1)) E.G E.gv E.nv E.cg E.st E.T (mask (vs (bk e1))) (mask (vs (bk e1) ++ [i])) (tot E.st (vs (bk e1))) i _ wx hi hnv h.gen hb.b hb.c (by omega) (by omega) (by omega) (by omega) (mask_out hi4 hni) (mask_add hi4 hsame) (by omega) (by omega)).mono ?_
  rintro e w' ⟨rfl, hch, hsz, hB', hC'⟩
  obtain ⟨f1, _⟩ := h.fixed ok _ hch (fun x hx => by
    simp only [List.mem_cons, List.not_mem_nil, or_false] at hx
    rcases hx with rfl | rfl <;> omega)
  refine ⟨rfl, hfr.trans (hch.fr (fun x hx => ?_)), ord.keep (hch.block E.O (by omega) (by simp; omega)), hvt.keep (hch.block Vb (lt_of_heap hvt) hVS), by omega, cb (bk e1), _, vs (bk e1), by rw [htot]; exact hB', hC', hn.1, hn.2.1,
    (hb.v.keep (hch.block _ (lt_of_heap hv) (by simp; exact ⟨nBV, nCV⟩))).owns E.base hn.2.2, hlen, f1, fun w3 V cap hc3 hbal hV => ?_⟩
  · simp only [List.mem_cons, List.not_mem_nil, or_false] at hx
    have := hlo.base
    rcases hx with rfl | rfl
    · exact .inr ⟨by omega, .inr ⟨_, _, _, hb.b, by simp⟩⟩
    · exact .inr ⟨by omega, .inr ⟨_, _, _, hb.c, by simp⟩⟩
  · have hc : Chg [bk e1, cb (bk e1), vb (bk e1)] wx w3 := (hch.mono (fun x hx => .inl (by simp at hx ⊢; omega))).trans (hc3.mono (fun x hx => .inl (by simp [Value.ownBlock] at hx ⊢; omega)))
    refine ⟨es, clock, cb, _, _, _, e1, h.added_old ok hi hci he (by rw [hkv, h1]) (by rw [hkp, h2]) hc hbal (hV.imp (fun x => by simpa [Value.ownBlock] using x.symm) (fun x => by omega)), fun e' he' => ?_, he, h1, h2, rfl, rfl, (upd_same _ _ _).symm, (upd_same _ _ _).symm, (upd_same _ _ _).symm⟩
    by_cases hee : bk e' = bk e1
    · rw [hee, upd_same]; simp
    · rw [upd_other _ _ _ hee]; exact full e' he'

theorem add_new (E : Env) (ok : E.Ok) (lo : Nat) (hlo : Lo E lo) (lv lp : Nat → Nat) (cnt : Nat → Bool) (view : Nat) (ext : Value) (Vb s p i : Nat) (w wx w0 : World) (hi : i < E.nv) (hci : cnt i = false) (hkv : lv i = s) (hkp : lp i = p)
    (hfr : Fr lo w wx) (ord : Ord wx E view ext) (hvt : VoteAt wx Vb s p i) {es : Array MapEntry} {clock : Nat} {cb vb cp : Nat → Nat} {vs : Nat → List Nat} (h : St w0 E lv lp cnt es clock cb vb cp vs) (full : Full es vs) (hno : ∀ e ∈ es.toList, ¬ (vw e = s ∧ pr e = p))
    (hsx : wx.heap.size = w0.heap.size + 1) (hblk : ∀ b, b < w0.heap.size → b ≠ E.Bm → wx.heap[b]? = w0.heap[b]?) (hB : wx.heap[w0.heap.size]? = some tz) (hbm : BMap wx E.Bm (es.push ⟨kv s p, ptr w0.heap.size, clock⟩) (clock + 1)) :
    Calls Yba.prog 6 #[.pointer (some ⟨w0.heap.size, 0, none⟩), .pointer (some ⟨E.G, 0, none⟩), .int .i64 i] wx fun e w' => e = .returned (.bool true) ∧ Mid3 E lo lv lp cnt view ext Vb s p i w w0.heap.size w' := by
  have ap := ok.apart
  simp only [List.nodup_cons, List.mem_cons, List.not_mem_nil, or_false, not_or, List.nodup_nil, and_true] at ap
  have hnv := ok.nv
  have hi4 : i < 4 := by omega
  have hst := ok.st i
  have oG := ok.G
  have ogv := ok.gv
  have oO := ok.O
  have oB := ok.Bm
  have siz := h.siz
  have gx : Gen wx E.G E.gv E.nv E.cg E.st E.T := by
    refine ⟨?_, ?_, fun j hj => ?_⟩
    · rw [World.cell?_of_block (hblk E.G (by omega) ap.1.2.2.2.2.1)]; exact h.gen.val
    · rw [World.cell?_of_block (hblk E.G (by omega) ap.1.2.2.2.2.1)]; exact h.gen.tot
    · rw [World.cell?_of_block (hblk E.gv (by omega) ap.2.1.2.2.2.1)]; exact h.gen.stake j hj
  have hVB : Vb ∉ [w0.heap.size] := fun e => by
    have hv1 := hvt
    unfold VoteAt at hv1
    simp at e
    rw [e, hB] at hv1
    cases hv1
  refine (tadd_new w0.heap.size E.G E.gv E.nv E.cg E.st E.T i wx hi hnv gx hB (by omega) (by omega) (by omega) (by omega) (by omega) (by omega)).mono ?_
  rintro e w' ⟨rfl, hch, hsz, hB', hC'⟩
  have keepG : ∀ b, b < E.base → w'.heap[b]? = wx.heap[b]? := fun b hb => hch.block b (by omega) (by simp; omega)
  refine ⟨rfl, hfr.trans (hch.fr (fun x hx => ?_)), ord.keep (keepG E.O oO), hvt.keep (hch.block Vb (lt_of_heap hvt) hVB), by omega, wx.heap.size, .slice none 0 0, [], ?_, ?_, by omega, by omega, ⟨rfl, .inl ⟨rfl, rfl⟩⟩, by simp, ?_, fun w3 V cap hc3 hbal hV => ?_⟩
  · simp only [List.mem_cons, List.not_mem_nil, or_false] at hx
    subst hx
    have := hlo.base
    exact .inr ⟨by omega, .inr ⟨_, _, _, hB, by simp⟩⟩
  · rw [List.nil_append, tot_one E.st i hi4]; exact hB'
  · rw [List.nil_append, ← mask_one i hi4]; exact hC'
  · refine ⟨?_, ?_, fun j hj => ?_⟩
    · rw [World.cell?_of_block (keepG E.G oG)]; exact gx.val
    · rw [World.cell?_of_block (keepG E.G oG)]; exact gx.tot
    · rw [World.cell?_of_block (keepG E.gv ogv)]; exact gx.stake j hj
  · have hVV : w'.heap.size ≤ V := hV.resolve_left (by simp [Value.ownBlock])
    have k3 : ∀ b, b < w0.heap.size → w3.heap[b]? = wx.heap[b]? := fun b hb => (hc3.block b (by omega) (by simp [Value.ownBlock]; omega)).trans (hch.block b (by omega) (by simp; omega))
    have hs3 := hc3.size
    have hnew := h.added_new (w' := w3) ok hi hci hkv hkp hno (B := w0.heap.size) (C := wx.heap.size) (V := V) (cap := cap) (Nat.le_refl _) (by omega) (by omega) (by omega) (fun b hb hn _ => (k3 b hb).trans (hblk b hb hn)) ⟨(k3 E.Bm (by omega)).trans hbm.at_, hbm.st, hbm.good⟩ hbal
    refine ⟨_, _, _, _, _, _, ⟨kv s p, ptr w0.heap.size, clock⟩, hnew, fun e' he' => ?_, by simp, vw_mk _ _ _ _, pr_mk _ _ _ _, rfl, (upd_same _ _ _).symm, (upd_same _ _ _).symm, (upd_same _ _ _).symm, (upd_same _ _ _).symm⟩
    by_cases hee : bk e' = w0.heap.size
    · rw [hee, upd_same]; simp
    · rw [upd_other _ _ _ hee]
      rcases (by simpa using he' : e' ∈ es.toList ∨ e' = ⟨kv s p, ptr w0.heap.size, clock⟩) with hh | hh
      · exact full e' hh
      · exact absurd (by rw [hh]; rfl) hee
end Go.Proofs.Ybulkmns
