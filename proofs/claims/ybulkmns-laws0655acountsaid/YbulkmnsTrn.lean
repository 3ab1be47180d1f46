/-
  How the state turns: a vote goes out of its ballot; an empty ballot goes; the last vote is written.
-/
import Derived.Test.YbulkmnsSta
namespace Go.Proofs.Ybulkmns
open Go.RowKit Go.MapKept
open Go.ChangeMaps (setBlock heap_setBlock_same heap_setBlock_other)
set_option linter.unusedSimpArgs false
set_option linter.unusedVariables false

section
variable {w w' : World} {E : Env} {lv lp : Nat → Nat} {cnt : Nat → Bool} {es : Array MapEntry} {clock : Nat} {cb vb cp : Nat → Nat} {vs : Nat → List Nat}

theorem lt_of_heap {b : Nat} {o : Obj} (hb : w.heap[b]? = some o) : b < w.heap.size := (Array.getElem?_eq_some_iff.1 hb).1

/-- the fixed parts, where only new blocks, the orderer's and those of ballots turn -/
theorem St.fixed (h : St w E lv lp cnt es clock cb vb cp vs) (ok : E.Ok) (S : List Nat) (hc : Chg S w w') (hS : ∀ x ∈ S, x = E.O ∨ E.base ≤ x) :
    Gen w' E.G E.gv E.nv E.cg E.st E.T ∧ w'.heap[E.Tm]? = some (.map #[] 0) ∧ CMap w' E.Cm ∧ w'.heap[E.Bm]? = w.heap[E.Bm]? ∧ w'.heap[E.LV]? = w.heap[E.LV]? := by
  have blk : ∀ b, b < E.base → b ≠ E.O → w'.heap[b]? = w.heap[b]? := fun b hb hn => hc.block b (by have := h.siz; omega) (fun hm => by
    rcases hS b hm with e | e
    · exact hn e
    · omega)
  have ap := ok.apart
  simp only [List.nodup_cons, List.mem_cons, List.not_mem_nil, or_false, not_or, List.nodup_nil, and_true] at ap
  refine ⟨⟨?_, ?_, fun i hi => ?_⟩, ?_, ?_, ?_, ?_⟩
  · rw [World.cell?_of_block (blk E.G ok.G ap.1.2.1)]; exact h.gen.val
  · rw [World.cell?_of_block (blk E.G ok.G ap.1.2.1)]; exact h.gen.tot
  · rw [World.cell?_of_block (blk E.gv ok.gv ap.2.1.1)]; exact h.gen.stake i hi
  · exact (blk E.Tm ok.Tm (Ne.symm ap.2.2.1.1)).trans h.tm
  · obtain ⟨es', cl, h1, h2⟩ := h.cm
    exact ⟨es', cl, (blk E.Cm ok.Cm (Ne.symm ap.2.2.1.2.1)).trans h1, h2⟩
  · exact blk E.Bm ok.Bm (Ne.symm ap.2.2.1.2.2.1)
  · exact blk E.LV ok.LV (Ne.symm ap.2.2.1.2.2.2)

theorem St.key_inj (h : St w E lv lp cnt es clock cb vb cp vs) {e e' : MapEntry} (he : e ∈ es.toList) (he' : e' ∈ es.toList) (hv : vw e = vw e') (hp : pr e = pr e') : e = e' :=
  entry_eq_of_key ((stamped_iff es clock).1 h.bm.st).2.2 he he' (by rw [(h.bm.good e he).key, (h.bm.good e' he').key, hv, hp])

/-- the three blocks of another ballot are none of this one's -/
theorem St.apart (h : St w E lv lp cnt es clock cb vb cp vs) {e e0 : MapEntry} (he : e ∈ es.toList) (h0 : e0 ∈ es.toList) (hne : e ≠ e0) :
    (∀ x ∈ [bk e0, cb (bk e0), vb (bk e0)], x ≠ bk e ∧ x ≠ cb (bk e) ∧ x ≠ vb (bk e)) := by
  have hb := h.bal e he
  have hb0 := h.bal e0 h0
  obtain ⟨_, _, cur, hv, _⟩ := hb.v
  obtain ⟨_, _, cur0, hv0, _⟩ := hb0.v
  have n1 : bk e0 ≠ bk e := fun x => hne (h.inj e he e0 h0 (.inl x.symm))
  have n2 : cb (bk e0) ≠ cb (bk e) := fun x => hne (h.inj e he e0 h0 (.inr (.inl x.symm)))
  have n3 : vb (bk e0) ≠ vb (bk e) := fun x => hne (h.inj e he e0 h0 (.inr (.inr x.symm)))
  have tbc : ∀ {b c : Nat} {C s m : Nat} {X : Value}, w.heap[b]? = some (tb C s X) → w.heap[c]? = some (tc m) → b ≠ c := fun h1 h2 x => by rw [x, h2] at h1; cases h1
  have tbv : ∀ {b c : Nat} {C s : Nat} {X : Value} {cur : Array Value}, w.heap[b]? = some (tb C s X) → w.heap[c]? = some (.cells cur 66 (0, 0)) → b ≠ c := fun h1 h2 x => by rw [x, h2] at h1; cases h1
  have tcv : ∀ {b c : Nat} {m : Nat} {cur : Array Value}, w.heap[b]? = some (tc m) → w.heap[c]? = some (.cells cur 66 (0, 0)) → b ≠ c := fun h1 h2 x => by rw [x, h2] at h1; cases h1
  intro x hx
  simp only [List.mem_cons, List.not_mem_nil, or_false] at hx
  rcases hx with rfl | rfl | rfl
  · exact ⟨n1, tbc hb0.b hb.c, tbv hb0.b hv⟩
  · exact ⟨(tbc hb.b hb0.c).symm, n2, tcv hb0.c hv⟩
  · exact ⟨(tbv hb.b hv0).symm, (tcv hb.c hv0).symm, n3⟩

theorem Bal.chg {B C V cap : Nat} {l : List Nat} (h : Bal w E.st B C V cap l) {S : List Nat} (hc : Chg S w w') (hB : B ∉ S) (hC : C ∉ S) (hV : V ∉ S) : Bal w' E.st B C V cap l := by
  obtain ⟨_, _, cur, hv, _⟩ := h.v
  exact h.keep (hc.block B (lt_of_heap h.b) hB) (hc.block C (lt_of_heap h.c) hC) (hc.block V (lt_of_heap hv) hV)

/-- the vote of i goes out of its ballot -/
theorem St.removed (h : St w E lv lp cnt es clock cb vb cp vs) (ok : E.Ok) {i : Nat} {e0 : MapEntry} (h0 : e0 ∈ es.toList) (hkv : lv i = vw e0) (hkp : lp i = pr e0) {l1 l2 : List Nat} (hvs : vs (bk e0) = l1 ++ i :: l2)
    (hc : Chg [bk e0, cb (bk e0), vb (bk e0)] w w') (hbal : Bal w' E.st (bk e0) (cb (bk e0)) (vb (bk e0)) (cp (bk e0)) (l1 ++ l2)) :
    St w' E lv lp (upd cnt i false) es clock cb vb cp (upd vs (bk e0) (l1 ++ l2)) := by
  obtain ⟨f1, f2, f3, f4, f5⟩ := h.fixed ok _ hc (fun x hx => by
    have := h.new e0 h0
    simp only [List.mem_cons, List.not_mem_nil, or_false] at hx
    rcases hx with rfl | rfl | rfl <;> omega)
  have hnd := h.nd e0 h0
  rw [hvs] at hnd
  have hni : i ∉ l1 ++ l2 := by
    have := (same_rem l1 l2 i hnd).1
    simpa using this
  refine ⟨f1, f2, f3, ⟨f4.trans h.bm.at_, h.bm.st, h.bm.good⟩, h.lvat.keep f5, fun e he => ?_, h.new, h.inj, fun e he j => ?_, fun e he => ?_, fun j hj hcj => ?_, h.bnd, Nat.le_trans h.siz hc.size⟩
  · by_cases hee : e = e0
    · subst hee; rw [upd_same]; exact hbal
    · have hap := h.apart he h0 hee
      have hbk : bk e ≠ bk e0 := Ne.symm (hap (bk e0) (by simp)).1
      rw [upd_other _ _ _ hbk]
      exact (h.bal e he).chg hc (fun hm => (hap _ hm).1 rfl) (fun hm => (hap _ hm).2.1 rfl) (fun hm => (hap _ hm).2.2 rfl)
  · by_cases hee : e = e0
    · subst hee
      rw [upd_same]
      have hm := h.mem e he j
      rw [hvs] at hm
      by_cases hji : j = i
      · subst hji; rw [upd_same]; simp [hni]
      · rw [upd_other _ _ _ hji, ← hm]; simp [hji]
    · have hbk : bk e ≠ bk e0 := Ne.symm (h.apart he h0 hee (bk e0) (by simp)).1
      rw [upd_other _ _ _ hbk, h.mem e he j]
      by_cases hji : j = i
      · subst hji
        rw [upd_same]
        constructor
        · rintro ⟨_, _, a, b⟩
          exact absurd (h.key_inj he h0 (a.symm.trans hkv) (b.symm.trans hkp)) hee
        · rintro ⟨_, a, _⟩
          cases a
      · rw [upd_other _ _ _ hji]
  · by_cases hee : e = e0
    · subst hee
      rw [upd_same]
      simp [List.nodup_append] at hnd ⊢
      exact ⟨hnd.1, hnd.2.1.2, fun a ha b hb => (hnd.2.2 a ha).2 b hb⟩
    · have hbk : bk e ≠ bk e0 := Ne.symm (h.apart he h0 hee (bk e0) (by simp)).1
      rw [upd_other _ _ _ hbk]; exact h.nd e he
  · by_cases hji : j = i
    · subst hji; rw [upd_same] at hcj; cases hcj
    · rw [upd_other _ _ _ hji] at hcj; exact h.has j hj hcj

/-- an empty ballot goes out of the map -/
theorem St.dropped (h : St w E lv lp cnt es clock cb vb cp vs) (ok : E.Ok) {e0 : MapEntry} (h0 : e0 ∈ es.toList) (hvs : vs (bk e0) = []) {es' : Array MapEntry} (hes : es'.toList = es.toList.filter (fun x => x.born != e0.born)) (hbm : BMap w' E.Bm es' clock)
    (hw : w' = setBlock w E.Bm (.map es' clock)) : St w' E lv lp cnt es' clock cb vb cp vs := by
  have sub : ∀ e, e ∈ es'.toList → e ∈ es.toList := fun e he => by rw [hes] at he; exact (List.mem_filter.1 he).1
  have blk : ∀ b, b ≠ E.Bm → w'.heap[b]? = w.heap[b]? := fun b hb => by rw [hw]; exact heap_setBlock_other h.bm.at_ _ hb
  have ap := ok.apart
  simp only [List.nodup_cons, List.mem_cons, List.not_mem_nil, or_false, not_or, List.nodup_nil, and_true] at ap
  have hBm := ok.Bm
  have hsz : w'.heap.size = w.heap.size := by rw [hw]; simp [setBlock]
  refine ⟨⟨?_, ?_, fun i hi => ?_⟩, ?_, ?_, hbm, h.lvat.keep (blk _ (Ne.symm ap.2.2.2.2.2.1)), fun e he => ?_, fun e he => h.new e (sub e he), fun e he e' he' => h.inj e (sub e he) e' (sub e' he'), fun e he => h.mem e (sub e he), fun e he => h.nd e (sub e he), fun j hj hcj => ?_, h.bnd, by rw [hsz]; exact h.siz⟩
  · rw [World.cell?_of_block (blk E.G ap.1.2.2.2.2.1)]; exact h.gen.val
  · rw [World.cell?_of_block (blk E.G ap.1.2.2.2.2.1)]; exact h.gen.tot
  · rw [World.cell?_of_block (blk E.gv ap.2.1.2.2.2.1)]; exact h.gen.stake i hi
  · exact (blk E.Tm ap.2.2.2.1.2.1).trans h.tm
  · obtain ⟨es', cl, h1, h2⟩ := h.cm
    exact ⟨es', cl, (blk E.Cm ap.2.2.2.2.1.1).trans h1, h2⟩
  · have hn := h.new e (sub e he)
    exact (h.bal e (sub e he)).keep (blk _ (by omega)) (blk _ (by omega)) (blk _ (by omega))
  · obtain ⟨e, he, h1, h2⟩ := h.has j hj hcj
    refine ⟨e, ?_, h1, h2⟩
    rw [hes]
    refine List.mem_filter.2 ⟨he, ?_⟩
    have hm := (h.mem e he j).2 ⟨hj, hcj, h1.symm, h2.symm⟩
    have hne : e ≠ e0 := fun x => by rw [x, hvs] at hm; cases hm
    simp
    exact fun hb => hne (born_inj ((stamped_iff es clock).1 h.bm.st).2.1 he h0 hb)

/-- the last vote of i, who is in no ballot, is written -/
theorem St.voted (h : St w E lv lp cnt es clock cb vb cp vs) (ok : E.Ok) {i : Nat} (hi : i < E.nv) (hci : cnt i = false) {v p : Nat} (hv : v < 2 ^ 64) (hp : p < 256) (hlv : LvAt w' E.LV E.nv (upd lv i v) (upd lp i p))
    (hc : Chg [E.LV] w w') : St w' E (upd lv i v) (upd lp i p) cnt es clock cb vb cp vs := by
  have ap := ok.apart
  simp only [List.nodup_cons, List.mem_cons, List.not_mem_nil, or_false, not_or, List.nodup_nil, and_true] at ap
  have hsz := h.siz
  have hL := ok.LV
  have blk : ∀ b, b < w.heap.size → b ≠ E.LV → w'.heap[b]? = w.heap[b]? := fun b hb hn => hc.block b hb (by simpa using hn)
  have oG := ok.G
  have ogv := ok.gv
  have oT := ok.Tm
  have oC := ok.Cm
  have oB := ok.Bm
  refine ⟨⟨?_, ?_, fun i hi => ?_⟩, ?_, ?_, ⟨(blk E.Bm (by omega) ap.2.2.2.2.2.1).trans h.bm.at_, h.bm.st, h.bm.good⟩, hlv, fun e he => ?_, h.new, h.inj, fun e he j => ?_, h.nd, fun j hj hcj => ?_, fun j hj => ?_, Nat.le_trans h.siz hc.size⟩
  · rw [World.cell?_of_block (blk E.G (by omega) ap.1.2.2.2.2.2)]; exact h.gen.val
  · rw [World.cell?_of_block (blk E.G (by omega) ap.1.2.2.2.2.2)]; exact h.gen.tot
  · rw [World.cell?_of_block (blk E.gv (by omega) ap.2.1.2.2.2.2)]; exact h.gen.stake i hi
  · exact (blk E.Tm (by omega) ap.2.2.2.1.2.2).trans h.tm
  · obtain ⟨es', cl, h1, h2⟩ := h.cm
    exact ⟨es', cl, (blk E.Cm (by omega) ap.2.2.2.2.1.2).trans h1, h2⟩
  · have hn := h.new e he
    exact (h.bal e he).chg hc (by simp; omega) (by simp; omega) (by simp; omega)
  · rw [h.mem e he j]
    by_cases hji : j = i
    · subst hji; simp [hci]
    · rw [upd_other _ _ _ hji, upd_other _ _ _ hji]
  · have hji : j ≠ i := fun x => by rw [x, hci] at hcj; cases hcj
    rw [upd_other _ _ _ hji, upd_other _ _ _ hji]
    exact h.has j hj hcj
  · by_cases hji : j = i
    · subst hji; rw [upd_same, upd_same]; exact ⟨hv, hp⟩
    · rw [upd_other _ _ _ hji, upd_other _ _ _ hji]; exact h.bnd j hj
end
end Go.Proofs.Ybulkmns
