/-
  How the state turns: a vote comes into a ballot, old or new; a quorum sweeps.
-/
import Derived.Test.YbulkmnsTrn
namespace Go.Proofs.Ybulkmns
open Go.RowKit Go.MapKept
set_option linter.unusedSimpArgs false
set_option linter.unusedVariables false

section
variable {w w' : World} {E : Env} {lv lp : Nat → Nat} {cnt : Nat → Bool} {es : Array MapEntry} {clock : Nat} {cb vb cp : Nat → Nat} {vs : Nat → List Nat}

/-- the vote of i comes into a ballot that is there -/
theorem St.added_old (h : St w E lv lp cnt es clock cb vb cp vs) (ok : E.Ok) {i : Nat} (hi : i < E.nv) (hci : cnt i = false) {e0 : MapEntry} (h0 : e0 ∈ es.toList) (hkv : lv i = vw e0) (hkp : lp i = pr e0) {V cap : Nat}
    (hc : Chg [bk e0, cb (bk e0), vb (bk e0)] w w') (hbal : Bal w' E.st (bk e0) (cb (bk e0)) V cap (vs (bk e0) ++ [i])) (hV : V = vb (bk e0) ∨ w.heap.size ≤ V) :
    St w' E lv lp (upd cnt i true) es clock cb (upd vb (bk e0) V) (upd cp (bk e0) cap) (upd vs (bk e0) (vs (bk e0) ++ [i])) := by
  obtain ⟨f1, f2, f3, f4, f5⟩ := h.fixed ok _ hc (fun x hx => by
    have := h.new e0 h0
    simp only [List.mem_cons, List.not_mem_nil, or_false] at hx
    rcases hx with rfl | rfl | rfl <;> omega)
  have hni : i ∉ vs (bk e0) := fun hm => by
    have := (h.mem e0 h0 i).1 hm
    rw [hci] at this
    cases this.2.1
  have oth : ∀ e ∈ es.toList, e ≠ e0 → bk e ≠ bk e0 := fun e he hee => Ne.symm (h.apart he h0 hee (bk e0) (by simp)).1
  have vlt : ∀ e ∈ es.toList, vb (bk e) < w.heap.size := fun e he => by
    obtain ⟨_, _, cur, hv, _⟩ := (h.bal e he).v
    exact lt_of_heap hv
  refine ⟨f1, f2, f3, ⟨f4.trans h.bm.at_, h.bm.st, h.bm.good⟩, h.lvat.keep f5, fun e he => ?_, fun e he => ?_, fun e he e' he' hx => ?_, fun e he j => ?_, fun e he => ?_, fun j hj hcj => ?_, h.bnd, Nat.le_trans h.siz hc.size⟩
  · by_cases hee : e = e0
    · subst hee; rw [upd_same, upd_same, upd_same]; exact hbal
    · have hap := h.apart he h0 hee
      have hbk := oth e he hee
      rw [upd_other _ _ _ hbk, upd_other _ _ _ hbk, upd_other _ _ _ hbk]
      exact (h.bal e he).chg hc (fun hm => (hap _ hm).1 rfl) (fun hm => (hap _ hm).2.1 rfl) (fun hm => (hap _ hm).2.2 rfl)
  · have hn := h.new e he
    by_cases hee : e = e0
    · subst hee
      rw [upd_same]
      refine ⟨hn.1, hn.2.1, ?_⟩
      rcases hV with hV | hV
      · rw [hV]; exact hn.2.2
      · exact Nat.le_trans h.siz hV
    · rw [upd_other _ _ _ (oth e he hee)]; exact hn
  · by_cases hee : e = e0
    · by_cases hee' : e' = e0
      · rw [hee, hee']
      · exfalso
        have hap := h.apart he' h0 hee'
        have hbk := oth e' he' hee'
        have hl := vlt e' he'
        rw [hee, upd_same, upd_other _ _ _ hbk] at hx
        rcases hx with hx | hx | hx
        · exact hbk hx.symm
        · exact (hap _ (by simp)).2.1 hx
        · rcases hV with hV | hV
          · exact (hap (vb (bk e0)) (by simp)).2.2 (hV.symm.trans hx)
          · omega
    · by_cases hee' : e' = e0
      · exfalso
        have hap := h.apart he h0 hee
        have hbk := oth e he hee
        have hl := vlt e he
        rw [hee', upd_same, upd_other _ _ _ hbk] at hx
        rcases hx with hx | hx | hx
        · exact hbk hx
        · exact (hap (cb (bk e0)) (by simp)).2.1 hx.symm
        · rcases hV with hV | hV
          · exact (hap (vb (bk e0)) (by simp)).2.2 (hV.symm.trans hx.symm)
          · omega
      · rw [upd_other _ _ _ (oth e he hee), upd_other _ _ _ (oth e' he' hee')] at hx
        exact h.inj e he e' he' hx
  · by_cases hee : e = e0
    · subst hee
      rw [upd_same]
      by_cases hji : j = i
      · subst hji; rw [upd_same]; simp [hi, hkv, hkp]
      · rw [upd_other _ _ _ hji, ← h.mem e he j]; simp [hji]
    · rw [upd_other _ _ _ (oth e he hee), h.mem e he j]
      by_cases hji : j = i
      · subst hji
        rw [upd_same, hci]
        constructor
        · rintro ⟨_, a, _⟩; cases a
        · rintro ⟨_, _, a, b⟩
          exact absurd (h.key_inj he h0 (a.symm.trans hkv) (b.symm.trans hkp)) hee
      · rw [upd_other _ _ _ hji]
  · by_cases hee : e = e0
    · subst hee
      rw [upd_same]
      have hnd := h.nd e he
      rw [List.nodup_append]
      refine ⟨hnd, by simp, fun a ha b hb => ?_⟩
      simp at hb
      rw [hb]
      exact fun x => hni (x ▸ ha)
    · rw [upd_other _ _ _ (oth e he hee)]; exact h.nd e he
  · by_cases hji : j = i
    · subst hji; exact ⟨e0, h0, hkv.symm, hkp.symm⟩
    · rw [upd_other _ _ _ hji] at hcj; exact h.has j hj hcj

/-- the vote of i opens a ballot -/
theorem St.added_new (h : St w E lv lp cnt es clock cb vb cp vs) (ok : E.Ok) {i : Nat} (hi : i < E.nv) (hci : cnt i = false) {v p : Nat} (hkv : lv i = v) (hkp : lp i = p) (hno : ∀ e ∈ es.toList, ¬ (vw e = v ∧ pr e = p)) {B C V cap : Nat}
    (hB : w.heap.size ≤ B) (hC : w.heap.size ≤ C) (hV : w.heap.size ≤ V) (hsz : w.heap.size ≤ w'.heap.size) (hblk : ∀ b, b < w.heap.size → b ≠ E.Bm → b ≠ E.O → w'.heap[b]? = w.heap[b]?)
    (hbm : BMap w' E.Bm (es.push ⟨kv v p, ptr B, clock⟩) (clock + 1)) (hbal : Bal w' E.st B C V cap [i]) :
    St w' E lv lp (upd cnt i true) (es.push ⟨kv v p, ptr B, clock⟩) (clock + 1) (upd cb B C) (upd vb B V) (upd cp B cap) (upd vs B [i]) := by
  have ap := ok.apart
  simp only [List.nodup_cons, List.mem_cons, List.not_mem_nil, or_false, not_or, List.nodup_nil, and_true] at ap
  have s0 := h.siz
  have oG := ok.G
  have ogv := ok.gv
  have oT := ok.Tm
  have oC := ok.Cm
  have oL := ok.LV
  have oB := ok.Bm
  have oO := ok.O
  have cases_ : ∀ e, e ∈ (es.push ⟨kv v p, ptr B, clock⟩).toList → e ∈ es.toList ∨ e = ⟨kv v p, ptr B, clock⟩ := fun e he => by simpa using he
  have old : ∀ e ∈ es.toList, bk e < w.heap.size ∧ cb (bk e) < w.heap.size ∧ vb (bk e) < w.heap.size := fun e he => by
    have hb := h.bal e he
    obtain ⟨_, _, cur, hv, _⟩ := hb.v
    exact ⟨lt_of_heap hb.b, lt_of_heap hb.c, lt_of_heap hv⟩
  have hvw := vw_mk v p (ptr B) clock
  have hpr := pr_mk v p (ptr B) clock
  have hbk := bk_mk (kv v p) B clock
  generalize (⟨kv v p, ptr B, clock⟩ : MapEntry) = e1 at *
  refine ⟨⟨?_, ?_, fun i hi => ?_⟩, ?_, ?_, hbm, h.lvat.keep (hblk _ (by omega) (Ne.symm ap.2.2.2.2.2.1) (Ne.symm ap.2.2.1.2.2.2)), fun e he => ?_, fun e he => ?_, fun e he e' he' hx => ?_, fun e he j => ?_, fun e he => ?_, fun j hj hcj => ?_, h.bnd, by omega⟩
  · rw [World.cell?_of_block (hblk E.G (by omega) ap.1.2.2.2.2.1 ap.1.2.1)]; exact h.gen.val
  · rw [World.cell?_of_block (hblk E.G (by omega) ap.1.2.2.2.2.1 ap.1.2.1)]; exact h.gen.tot
  · rw [World.cell?_of_block (hblk E.gv (by omega) ap.2.1.2.2.2.1 ap.2.1.1)]; exact h.gen.stake i hi
  · exact (hblk E.Tm (by omega) ap.2.2.2.1.2.1 (Ne.symm ap.2.2.1.1)).trans h.tm
  · obtain ⟨es', cl, h1, h2⟩ := h.cm
    exact ⟨es', cl, (hblk E.Cm (by omega) ap.2.2.2.2.1.1 (Ne.symm ap.2.2.1.2.1)).trans h1, h2⟩
  · rcases cases_ e he with he | rfl
    · have ho := old e he
      have hn := h.new e he
      rw [upd_other _ _ _ (by omega), upd_other _ _ _ (by omega), upd_other _ _ _ (by omega), upd_other _ _ _ (by omega)]
      exact (h.bal e he).keep (hblk _ ho.1 (by omega) (by omega)) (hblk _ ho.2.1 (by omega) (by omega)) (hblk _ ho.2.2 (by omega) (by omega))
    · rw [hbk, upd_same, upd_same, upd_same, upd_same]; exact hbal
  · rcases cases_ e he with he | rfl
    · have ho := old e he
      rw [upd_other _ _ _ (by omega), upd_other _ _ _ (by omega)]; exact h.new e he
    · rw [hbk, upd_same, upd_same]; omega
  · rcases cases_ e he with he | rfl
    · have ho := old e he
      rw [upd_other _ _ _ (by omega : bk e ≠ B), upd_other _ _ _ (by omega : bk e ≠ B)] at hx
      rcases cases_ e' he' with he' | rfl
      · have ho' := old e' he'
        rw [upd_other _ _ _ (by omega : bk e' ≠ B), upd_other _ _ _ (by omega : bk e' ≠ B)] at hx
        exact h.inj e he e' he' hx
      · rw [hbk, upd_same, upd_same] at hx; omega
    · rcases cases_ e' he' with he' | h'
      · have ho' := old e' he'
        rw [upd_other _ _ _ (by omega : bk e' ≠ B), upd_other _ _ _ (by omega : bk e' ≠ B), hbk, upd_same, upd_same] at hx
        omega
      · exact h'.symm
  · rcases cases_ e he with he | rfl
    · have ho := old e he
      rw [upd_other _ _ _ (by omega), h.mem e he j]
      by_cases hji : j = i
      · subst hji
        rw [upd_same, hci]
        constructor
        · rintro ⟨_, a, _⟩; cases a
        · rintro ⟨_, _, a, b⟩
          exact absurd ⟨a.symm.trans hkv, b.symm.trans hkp⟩ (hno e he)
      · rw [upd_other _ _ _ hji]
    · rw [hbk, upd_same, hvw, hpr]
      by_cases hji : j = i
      · subst hji; rw [upd_same]; simp [hi, hkv, hkp]
      · rw [upd_other _ _ _ hji]
        constructor
        · intro hm; exact absurd (by simpa using hm) hji
        · rintro ⟨a, b, c, d⟩
          obtain ⟨e', he', x1, x2⟩ := h.has j a b
          exact absurd ⟨x1.trans c, x2.trans d⟩ (hno e' he')
  · rcases cases_ e he with he | rfl
    · have ho := old e he
      rw [upd_other _ _ _ (by omega)]; exact h.nd e he
    · rw [hbk, upd_same]; simp
  · by_cases hji : j = i
    · subst hji; exact ⟨e1, by simp, hvw.trans hkv.symm, hpr.trans hkp.symm⟩
    · rw [upd_other _ _ _ hji] at hcj
      obtain ⟨e', he', x⟩ := h.has j hj hcj
      exact ⟨e', by simp; left; simpa using he', x⟩

/-- a quorum at view s sweeps the ballots of views up to s -/
theorem St.swept (h : St w E lv lp cnt es clock cb vb cp vs) (ok : E.Ok) {s : Nat} {es' : Array MapEntry} (hes : es'.toList = es.toList.filter (fun x => decide (s < vw x))) (hbm : BMap w' E.Bm es' clock)
    (hsz : w.heap.size ≤ w'.heap.size) (hblk : ∀ b, b < w.heap.size → b ≠ E.Bm → b ≠ E.O → w'.heap[b]? = w.heap[b]?) :
    St w' E lv lp (fun j => cnt j && decide (s < lv j)) es' clock cb vb cp vs := by
  have sub : ∀ e, e ∈ es'.toList → e ∈ es.toList ∧ s < vw e := fun e he => by rw [hes] at he; simpa using List.mem_filter.1 he
  have ap := ok.apart
  simp only [List.nodup_cons, List.mem_cons, List.not_mem_nil, or_false, not_or, List.nodup_nil, and_true] at ap
  have s0 := h.siz
  have oG := ok.G
  have ogv := ok.gv
  have oT := ok.Tm
  have oC := ok.Cm
  have oL := ok.LV
  have oB := ok.Bm
  have oO := ok.O
  refine ⟨⟨?_, ?_, fun i hi => ?_⟩, ?_, ?_, hbm, h.lvat.keep (hblk _ (by omega) (Ne.symm ap.2.2.2.2.2.1) (Ne.symm ap.2.2.1.2.2.2)), fun e he => ?_, fun e he => h.new e (sub e he).1, fun e he e' he' => h.inj e (sub e he).1 e' (sub e' he').1, fun e he j => ?_, fun e he => h.nd e (sub e he).1, fun j hj hcj => ?_, h.bnd, by omega⟩
  · rw [World.cell?_of_block (hblk E.G (by omega) ap.1.2.2.2.2.1 ap.1.2.1)]; exact h.gen.val
  · rw [World.cell?_of_block (hblk E.G (by omega) ap.1.2.2.2.2.1 ap.1.2.1)]; exact h.gen.tot
  · rw [World.cell?_of_block (hblk E.gv (by omega) ap.2.1.2.2.2.1 ap.2.1.1)]; exact h.gen.stake i hi
  · exact (hblk E.Tm (by omega) ap.2.2.2.1.2.1 (Ne.symm ap.2.2.1.1)).trans h.tm
  · obtain ⟨es', cl, h1, h2⟩ := h.cm
    exact ⟨es', cl, (hblk E.Cm (by omega) ap.2.2.2.2.1.1 (Ne.symm ap.2.2.1.2.1)).trans h1, h2⟩
  · have hb := h.bal e (sub e he).1
    have hn := h.new e (sub e he).1
    obtain ⟨_, _, cur, hv, _⟩ := hb.v
    exact hb.keep (hblk _ (lt_of_heap hb.b) (by omega) (by omega)) (hblk _ (lt_of_heap hb.c) (by omega) (by omega)) (hblk _ (lt_of_heap hv) (by omega) (by omega))
  · rw [h.mem e (sub e he).1 j]
    have hs := (sub e he).2
    constructor
    · rintro ⟨a, b, c, d⟩; exact ⟨a, by simp [b]; omega, c, d⟩
    · rintro ⟨a, b, c, d⟩; exact ⟨a, by simp at b; exact b.1, c, d⟩
  · simp at hcj
    obtain ⟨e, he, h1, h2⟩ := h.has j hj hcj.1
    refine ⟨e, ?_, h1, h2⟩
    rw [hes]
    exact List.mem_filter.2 ⟨he, by simp; omega⟩
end
end Go.Proofs.Ybulkmns
