/-
  The votes of a ballot: a row of signers.
-/
import Derived.Test.YbulkmnsAdn
import Derived.Deep.MidRow
import Derived.Deep.AppendLies
import Derived.Deep.RegionLaw
namespace Go.Proofs.Ybulkmns
open Go.RowKit
set_option linter.unusedSimpArgs false
set_option linter.unusedVariables false

def scs (vs : List Nat) : List Value := vs.flatMap sc
theorem scs_len (vs : List Nat) : (scs vs).length = vs.length * 65 := by
  induction vs with
  | nil => rfl
  | cons a r ih => unfold scs at *; rw [List.flatMap_cons, List.length_append, ih, sc_len, List.length_cons]; omega
theorem scs_get : ∀ (vs : List Nat) (k x j : Nat), vs[k]? = some x → j < 65 → (scs vs)[k * 65 + j]? = (sc x)[j]?
  | [], k, x, j, h, _ => by simp at h
  | a :: r, 0, x, j, h, hj => by
    simp at h
    subst h
    unfold scs
    rw [List.flatMap_cons, Nat.zero_mul, Nat.zero_add, List.getElem?_append_left (by rw [sc_len]; exact hj)]
  | a :: r, k + 1, x, j, h, hj => by
    simp only [List.getElem?_cons_succ] at h
    have := scs_get r k x j h hj
    unfold scs at *
    rw [List.flatMap_cons, List.getElem?_append_right (by rw [sc_len]; omega), sc_len, ← this]
    congr 1
    omega
theorem sc_one (x : Nat) : ∀ u ∈ sc x, u.oneCell' = true := by
  intro u hu
  rcases List.mem_cons.1 hu with rfl | h
  · rfl
  · rw [List.eq_of_mem_replicate h]; rfl
theorem scs_one (vs : List Nat) : ∀ u ∈ scs vs, u.oneCell' = true := by
  intro u hu
  obtain ⟨x, _, h⟩ := List.mem_flatMap.1 hu
  exact sc_one x u h

/-- block V is a row of cap signers, of which the first are vs -/
structure Vt (w : World) (V cap : Nat) (vs : List Nat) : Prop where
  le : vs.length ≤ cap
  max : cap ≤ maxLen
  at_ : ∃ cur, w.heap[V]? = some (.cells cur 66 (0, 0)) ∧ cur.size = cap * 65 ∧ cur.toList.take (vs.length * 65) = scs vs
theorem Vt.owns {w : World} {V cap : Nat} {vs : List Nat} (h : Vt w V cap vs) (base : Nat) (hb : base ≤ V) : w.ownsRow base 66 65 (.slice (some ⟨V, 0, none⟩) vs.length cap) vs.length (scs vs) := by
  obtain ⟨h1, h2, cur, h3, h4, h5⟩ := h
  exact ⟨scs_len vs, .inr ⟨V, cap, cur, rfl, hb, h3, h1, h2, h4, h5⟩⟩
theorem Vt.of_owns {w : World} {base V cap n : Nat} {vs : List Nat} (hn : n = vs.length) (h : w.ownsRow base 66 65 (.slice (some ⟨V, 0, none⟩) n cap) n (scs vs)) : Vt w V cap vs := by
  subst hn
  obtain ⟨_, ⟨h, _⟩ | ⟨g, c, cur, e, _, h3, h1, h2, h4, h5⟩⟩ := h
  · cases h
  · injection e with e1 e2 e3
    injection e1 with e1
    injection e1 with e1
    subst e1
    subst e3
    exact ⟨h1, h2, cur, h3, h4, h5⟩
theorem Vt.keep {w w' : World} {V cap : Nat} {vs : List Nat} (h : Vt w V cap vs) (e : w'.heap[V]? = w.heap[V]?) : Vt w' V cap vs := by
  obtain ⟨h1, h2, cur, h3, h4⟩ := h
  exact ⟨h1, h2, cur, e.trans h3, h4⟩
theorem Vt.cell {w : World} {V cap : Nat} {vs : List Nat} (h : Vt w V cap vs) {j : Nat} {u : Value} (hu : (scs vs)[j]? = some u) : w.cell? ⟨V, j, none⟩ = some u := by
  obtain ⟨h1, h2, cur, h3, h4, h5⟩ := h
  refine cell_of h3 j u ?_
  rw [← h5] at hu
  rw [List.getElem?_take] at hu
  split at hu
  · simpa using hu
  · cases hu
theorem Vt.range {w : World} {V cap : Nat} {vs : List Nat} (h : Vt w V cap vs) {k x : Nat} (hk : vs[k]? = some x) : w.rangeAt V (k * 65) (sc x) := fun j v hv => by
  have hj : j < 65 := by have := (List.getElem?_eq_some_iff.1 hv).1; rwa [sc_len] at this
  exact h.cell ((scs_get vs k x j hk hj).trans hv)
theorem Vt.spare {w : World} {V cap : Nat} {vs : List Nat} (h : Vt w V cap vs) (j : Nat) (hj : j < cap * 65) : (w.cell? ⟨V, j, none⟩).isSome = true ∧ w.frozen? ⟨V, j, none⟩ = false := by
  obtain ⟨h1, h2, cur, h3, h4, h5⟩ := h
  refine ⟨?_, frozen_of h3 j⟩
  have : j < cur.size := by omega
  rw [cell_of h3 j cur[j] (by simp [this])]
  rfl

theorem setCells_heap (t : TypeId) (b : Nat) : ∀ (news : List Value) (o : Nat) (w : World) (cur : Array Value), w.heap[b]? = some (.cells cur t (0, 0)) → o + news.length ≤ cur.size →
    ∃ cur' : Array Value, (w.setCells b o news).heap[b]? = some (.cells cur' t (0, 0)) ∧ cur'.size = cur.size ∧ cur'.toList = cur.toList.take o ++ news ++ cur.toList.drop (o + news.length)
  | [], o, w, cur, h, _ => ⟨cur, h, rfl, by simp⟩
  | v :: r, o, w, cur, h, hl => by
    simp only [List.length_cons] at hl
    have h1 := heap_setCell_same w b o cur t v h
    obtain ⟨cur', h2, h3, h4⟩ := setCells_heap t b r (o + 1) _ _ h1 (by simp; omega)
    refine ⟨cur', h2, by simpa using h3, ?_⟩
    rw [h4]
    have ho : o < cur.toList.length := by simp; omega
    simp only [Array.toList_setIfInBounds, List.length_cons]
    rw [List.take_succ_eq_append_getElem (by simpa using ho), List.take_set_of_le (Nat.le_refl _), List.getElem_set_self, List.drop_set_of_lt (by omega)]
    simp [Nat.add_assoc, Nat.add_comm 1]

/-- the vote at place k goes, those behind it move up -/
theorem Vt.erase {w : World} {V cap : Nat} {l1 l2 : List Nat} {i : Nat} (h : Vt w V cap (l1 ++ i :: l2)) : Vt (w.setCells V (l1.length * 65) (scs l2)) V cap (l1 ++ l2) := by
  obtain ⟨h1, h2, cur, h3, h4, h5⟩ := h
  simp only [List.length_append, List.length_cons] at h1 h5
  obtain ⟨cur', e1, e2, e3⟩ := setCells_heap 66 V (scs l2) (l1.length * 65) w cur h3 (by rw [scs_len, h4]; omega)
  refine ⟨by simp; omega, h2, cur', e1, by rw [e2, h4], ?_⟩
  rw [e3, List.length_append]
  have ht : cur.toList.take (l1.length * 65) = scs l1 := by
    have hh := congrArg (List.take (l1.length * 65)) h5
    rw [List.take_take, Nat.min_eq_left (by omega)] at hh
    rw [hh]
    unfold scs
    rw [List.flatMap_append, List.take_append_of_le_length (by have := scs_len l1; unfold scs at this; omega), List.take_of_length_le (by have := scs_len l1; unfold scs at this; omega)]
  rw [ht, List.take_append_of_le_length (by rw [List.length_append, scs_len, scs_len]; omega), List.take_of_length_le (by rw [List.length_append, scs_len, scs_len]; omega)]
  unfold scs
  rw [List.flatMap_append]
end Go.Proofs.Ybulkmns
