/-
  The plain law: sums over the first validators; how many ballots there are; the law's own arrays of four.
-/
import Derived.Test.YbulkmnsOde
namespace Go.Proofs.Ybulkmns
open Go.RowKit Go.MapKept
set_option linter.unusedSimpArgs false
set_option linter.unusedVariables false

def sumTo (st : Nat → Nat) (f : Nat → Bool) : Nat → Nat
  | 0 => 0
  | k + 1 => sumTo st f k + bit (f k) (st k)
theorem sumTo_le (st : Nat → Nat) (f : Nat → Bool) (m : Nat) (h : ∀ j, st j ≤ m) : ∀ k, sumTo st f k ≤ m * k
  | 0 => by simp [sumTo]
  | k + 1 => by
    have := sumTo_le st f m h k
    have h2 := h k
    unfold sumTo bit
    rw [Nat.mul_add]
    split <;> omega
theorem tot_sum (st : Nat → Nat) (f : Nat → Bool) (nv : Nat) (hnv : nv ≤ 4) (l : List Nat) (h : ∀ j, j ∈ l ↔ j < nv ∧ f j = true) : tot st l = sumTo st f nv := by
  have hc : ∀ j, l.contains j = (decide (j < nv) && f j) := fun j => by
    rw [Bool.eq_iff_iff]
    simp [h j]
  unfold tot sum4
  simp only [hc]
  have : nv = 0 ∨ nv = 1 ∨ nv = 2 ∨ nv = 3 ∨ nv = 4 := by omega
  rcases this with rfl | rfl | rfl | rfl | rfl <;> simp [sumTo, bit]
theorem lenTot : ∀ l : List Nat, l.Nodup → (∀ x ∈ l, x < 4) → l.length = tot (fun _ => 1) l
  | [], _, _ => rfl
  | x :: r, hn, hl => by
    obtain ⟨h1, h2⟩ := List.nodup_cons.1 hn
    have ih := lenTot r h2 (fun y hy => hl y (by simp [hy]))
    have := tot_add (st := fun _ => 1) (vs := r) (vs' := x :: r) (hl x (by simp)) h1 ⟨by simp, fun j hj => by simp [hj]⟩
    rw [this, List.length_cons, ih]
theorem len_sum (f : Nat → Bool) (nv : Nat) (hnv : nv ≤ 4) (l : List Nat) (hn : l.Nodup) (h : ∀ j, j ∈ l ↔ j < nv ∧ f j = true) : l.length = sumTo (fun _ => 1) f nv := by
  rw [lenTot l hn (fun x hx => by have := ((h x).1 hx).1; omega)]
  exact tot_sum _ f nv hnv l h

/-- does h vote as j does? -/
def twin (lv lp : Nat → Nat) (cnt : Nat → Bool) (j h : Nat) : Bool := cnt h && lv h == lv j && lp h == lp j
/-- j's vote is counted, and no earlier one is like it -/
def fst (lv lp : Nat → Nat) (cnt : Nat → Bool) (j : Nat) : Bool := cnt j && !(List.range j).any (twin lv lp cnt j)
def dst (lv lp : Nat → Nat) (cnt : Nat → Bool) (k : Nat) : Nat := ((List.range k).filter (fst lv lp cnt)).length
theorem dst_succ (lv lp : Nat → Nat) (cnt : Nat → Bool) (k : Nat) : dst lv lp cnt (k + 1) = dst lv lp cnt k + bit (fst lv lp cnt k) 1 := by
  unfold dst bit
  rw [List.range_succ, List.filter_append, List.length_append]
  cases h : fst lv lp cnt k <;> simp [h]
theorem dst_le (lv lp : Nat → Nat) (cnt : Nat → Bool) (k : Nat) : dst lv lp cnt k ≤ k := by
  unfold dst
  have := List.length_filter_le (fst lv lp cnt) (List.range k)
  simpa using this

theorem len_le_of_mem {α : Type} [DecidableEq α] : ∀ (l1 l2 : List α), l1.Nodup → (∀ x ∈ l1, x ∈ l2) → l1.length ≤ l2.length
  | [], _, _, _ => by simp
  | x :: r, l2, hn, h => by
    obtain ⟨h1, h2⟩ := List.nodup_cons.1 hn
    have hx := h x (by simp)
    have := len_le_of_mem r (l2.erase x) h2 (fun y hy => by
      have hyx : y ≠ x := fun e => h1 (e ▸ hy)
      exact (List.mem_erase_of_ne hyx).2 (h y (by simp [hy])))
    rw [List.length_erase_of_mem hx] at this
    have hp : 0 < l2.length := List.length_pos_of_mem hx
    rw [List.length_cons]
    omega

theorem nodup_map_of {α β : Type} (f : α → β) : ∀ l : List α, l.Pairwise (fun x y => f x ≠ f y) → (l.map f).Nodup := fun l h => by
  unfold List.Nodup
  exact List.pairwise_map.2 h

section
variable {w : World} {E : Env} {lv lp : Nat → Nat} {cnt cnt' : Nat → Bool} {es : Array MapEntry} {clock : Nat} {cb vb cp : Nat → Nat} {vs : Nat → List Nat}

theorem first_is (j : Nat) (hj : cnt j = true) : ∃ h, h ≤ j ∧ fst lv lp cnt h = true ∧ lv h = lv j ∧ lp h = lp j := by
  induction j using Nat.strongRecOn with
  | ind j ih =>
    by_cases hf : fst lv lp cnt j = true
    · exact ⟨j, Nat.le_refl _, hf, rfl, rfl⟩
    · unfold fst at hf
      rw [hj] at hf
      simp at hf
      obtain ⟨h, hh, ht⟩ := hf
      unfold twin at ht
      simp at ht
      obtain ⟨k, hk, k1, k2, k3⟩ := ih h hh ht.1.1
      exact ⟨k, by omega, k1, k2.trans ht.1.2, k3.trans ht.2⟩

/-- there are as many ballots as first votes -/
theorem St.count (h : St w E lv lp cnt es clock cb vb cp vs) (full : Full es vs) : es.size = dst lv lp cnt E.nv := by
  have key : ∀ e ∈ es.toList, ∀ e' ∈ es.toList, vw e = vw e' → pr e = pr e' → e = e' := fun e he e' he' a b => h.key_inj he he' a b
  have hst := (stamped_iff es clock).1 h.bm.st
  have n2 : (es.toList.map (fun e => (vw e, pr e))).Nodup := by
    refine nodup_map_of _ _ (hst.2.2.imp_of_mem fun {x y} hx hy hne e => hne ?_)
    simp at e
    rw [(h.bm.good x hx).key, (h.bm.good y hy).key, e.1, e.2]
  have n1 : (((List.range E.nv).filter (fst lv lp cnt)).map (fun j => (lv j, lp j))).Nodup := by
    refine nodup_map_of _ _ ?_
    have hp : ((List.range E.nv).filter (fst lv lp cnt)).Pairwise (· < ·) := List.Pairwise.filter _ List.pairwise_lt_range
    refine hp.imp_of_mem fun {x y} hx hy hlt e => ?_
    have fx := (List.mem_filter.1 hx).2
    have fy := (List.mem_filter.1 hy).2
    simp at e
    unfold fst at fx fy
    simp at fx fy
    have := fy.2 x hlt
    unfold twin at this
    rw [fx.1] at this
    simp at this
    exact this e.1 e.2
  have a1 : ∀ x ∈ ((List.range E.nv).filter (fst lv lp cnt)).map (fun j => (lv j, lp j)), x ∈ es.toList.map (fun e => (vw e, pr e)) := fun x hx => by
    obtain ⟨j, hj, rfl⟩ := List.mem_map.1 hx
    obtain ⟨hj1, hj2⟩ := List.mem_filter.1 hj
    unfold fst at hj2
    simp at hj1 hj2
    obtain ⟨e, he, x1, x2⟩ := h.has j hj1 hj2.1
    exact List.mem_map.2 ⟨e, he, by rw [x1, x2]⟩
  have a2 : ∀ x ∈ es.toList.map (fun e => (vw e, pr e)), x ∈ ((List.range E.nv).filter (fst lv lp cnt)).map (fun j => (lv j, lp j)) := fun x hx => by
    obtain ⟨e, he, rfl⟩ := List.mem_map.1 hx
    obtain ⟨j, hj⟩ := List.exists_mem_of_ne_nil _ (full e he)
    obtain ⟨m1, m2, m3, m4⟩ := (h.mem e he j).1 hj
    obtain ⟨k, k0, k1, k2, k3⟩ := first_is (lv := lv) (lp := lp) j m2
    exact List.mem_map.2 ⟨k, List.mem_filter.2 ⟨by simp; omega, k1⟩, by rw [k2, k3, m3, m4]⟩
  have l1 := len_le_of_mem _ _ n1 a1
  have l2 := len_le_of_mem _ _ n2 a2
  simp only [List.length_map] at l1 l2
  unfold dst
  have : es.toList.length = es.size := by simp
  omega

theorem St.congr (h : St w E lv lp cnt es clock cb vb cp vs) (hc : ∀ j, j < E.nv → cnt' j = cnt j) : St w E lv lp cnt' es clock cb vb cp vs :=
  ⟨h.gen, h.tm, h.cm, h.bm, h.lvat, h.bal, h.new, h.inj, fun e he j => by
    rw [h.mem e he j]
    constructor
    · rintro ⟨a, b, c⟩; exact ⟨a, by rw [hc j a]; exact b, c⟩
    · rintro ⟨a, b, c⟩; exact ⟨a, by rw [← hc j a]; exact b, c⟩, h.nd, fun j hj hcj => h.has j hj (by rw [← hc j hj]; exact hcj), h.bnd, h.siz⟩
end

/-- the law's sweep of 'counted', as far as k -/
def swc (s : Nat) (lv : Nat → Nat) (cnt : Nat → Bool) (k : Nat) : Nat → Bool := fun j => if j < k then cnt j && decide (s < lv j) else cnt j
theorem swc_zero (s : Nat) (lv : Nat → Nat) (cnt : Nat → Bool) : swc s lv cnt 0 = cnt := funext fun j => by simp [swc]
theorem swc_drop (s : Nat) (lv : Nat → Nat) (cnt : Nat → Bool) (k : Nat) (h : (cnt k && decide (lv k ≤ s)) = true) : upd (swc s lv cnt k) k false = swc s lv cnt (k + 1) := funext fun j => by
  simp at h
  by_cases hj : j = k
  · subst hj; rw [upd_same]; simp [swc, h.1]; omega
  · rw [upd_other _ _ _ hj]; unfold swc
    by_cases hlt : j < k
    · rw [if_pos hlt, if_pos (by omega)]
    · rw [if_neg hlt, if_neg (by omega)]
theorem swc_stay (s : Nat) (lv : Nat → Nat) (cnt : Nat → Bool) (k : Nat) (h : (cnt k && decide (lv k ≤ s)) = false) : swc s lv cnt k = swc s lv cnt (k + 1) := funext fun j => by
  unfold swc
  by_cases hlt : j < k
  · rw [if_pos hlt, if_pos (by omega)]
  · rw [if_neg hlt]
    by_cases hj : j = k
    · subst hj
      rw [if_pos (by omega)]
      cases hc : cnt j
      · rfl
      · rw [hc] at h; simp at h; simp; omega
    · rw [if_neg (by omega)]

/-- an array of four of the law's own -/
def a4 (f : Nat → Value) : Array Value := #[f 0, f 1, f 2, f 3]
def Arr (w : World) (b : Nat) (t : TypeId) (f : Nat → Value) : Prop := w.heap[b]? = some (.cells (a4 f) t (0, 0))
theorem Arr.cell {w : World} {b : Nat} {t : TypeId} {f : Nat → Value} (h : Arr w b t f) {j : Nat} (hj : j < 4) : w.cell? ⟨b, j, none⟩ = some (f j) := by
  refine cell_of h j _ ?_
  have : j = 0 ∨ j = 1 ∨ j = 2 ∨ j = 3 := by omega
  rcases this with rfl | rfl | rfl | rfl <;> rfl
theorem Arr.soft {w : World} {b : Nat} {t : TypeId} {f : Nat → Value} (h : Arr w b t f) (j : Nat) : w.frozen? ⟨b, j, none⟩ = false := frozen_of h j
theorem Arr.put {w : World} {b : Nat} {t : TypeId} {f : Nat → Value} (h : Arr w b t f) {j : Nat} (hj : j < 4) (v : Value) : Arr (w.setCell ⟨b, j, none⟩ v) b t (upd f j v) := by
  have e := heap_setCell_same w b j (a4 f) t v h
  unfold Arr
  rw [e]
  have : j = 0 ∨ j = 1 ∨ j = 2 ∨ j = 3 := by omega
  rcases this with rfl | rfl | rfl | rfl <;> rfl
theorem Arr.keep {w w' : World} {b : Nat} {t : TypeId} {f : Nat → Value} (h : Arr w b t f) (e : w'.heap[b]? = w.heap[b]?) : Arr w' b t f := e.trans h
theorem Arr.fr {w w' : World} {lo b : Nat} {t : TypeId} {f : Nat → Value} (h : Arr w b t f) (hf : Fr lo w w') (ht : t = 32 ∨ t = 22 ∨ t = 60) : Arr w' b t f :=
  by rcases ht with rfl | rfl | rfl <;> exact hf.typ b _ _ _ h (by decide) (by decide) (by decide) (by decide) (by decide)
theorem upd_int (k : IntKind) (f : Nat → Nat) (i x : Nat) : upd (fun j => Value.int k (f j)) i (.int k x) = fun j => Value.int k (upd f i x j : Nat) := funext fun j => by
  by_cases hj : j = i
  · subst hj; rw [upd_same, upd_same]
  · rw [upd_other _ _ _ hj, upd_other _ _ _ hj]
theorem upd_bool (f : Nat → Bool) (i : Nat) (x : Bool) : upd (fun j => Value.bool (f j)) i (.bool x) = fun j => Value.bool (upd f i x j) := funext fun j => by
  by_cases hj : j = i
  · subst hj; rw [upd_same, upd_same]
  · rw [upd_other _ _ _ hj, upd_other _ _ _ hj]
end Go.Proofs.Ybulkmns
