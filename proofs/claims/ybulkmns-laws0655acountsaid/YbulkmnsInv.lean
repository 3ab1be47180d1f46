/-
  What a ballot is; the sums over at most four validators.
-/
import Derived.Test.YbulkmnsEnt
namespace Go.Proofs.Ybulkmns
open Go.RowKit Go.MapKept
set_option linter.unusedSimpArgs false
set_option linter.unusedVariables false

def bit (b : Bool) (n : Nat) : Nat := if b then n else 0
def mask4 (a b c d : Bool) : Nat := bit a 1 + bit b 2 + bit c 4 + bit d 8
def mask (vs : List Nat) : Nat := mask4 (vs.contains 0) (vs.contains 1) (vs.contains 2) (vs.contains 3)
def sum4 (st : Nat → Nat) (f : Nat → Bool) : Nat := bit (f 0) (st 0) + bit (f 1) (st 1) + bit (f 2) (st 2) + bit (f 3) (st 3)

theorem mask_and (a b c d : Bool) : (bits .and .u64 (mask4 a b c d : Int) 1 = if a then 1 else 0) ∧ (bits .and .u64 (mask4 a b c d : Int) 2 = if b then 2 else 0) ∧ (bits .and .u64 (mask4 a b c d : Int) 4 = if c then 4 else 0) ∧ (bits .and .u64 (mask4 a b c d : Int) 8 = if d then 8 else 0) := by
  revert a b c d; decide
theorem mask_or (a b c d : Bool) : (bits .or .u64 (mask4 a b c d : Int) 1 = mask4 true b c d) ∧ (bits .or .u64 (mask4 a b c d : Int) 2 = mask4 a true c d) ∧ (bits .or .u64 (mask4 a b c d : Int) 4 = mask4 a b true d) ∧ (bits .or .u64 (mask4 a b c d : Int) 8 = mask4 a b c true) := by
  revert a b c d; decide
theorem mask_andNot (a b c d : Bool) : (bits .andNot .u64 (mask4 a b c d : Int) 1 = mask4 false b c d) ∧ (bits .andNot .u64 (mask4 a b c d : Int) 2 = mask4 a false c d) ∧ (bits .andNot .u64 (mask4 a b c d : Int) 4 = mask4 a b false d) ∧ (bits .andNot .u64 (mask4 a b c d : Int) 8 = mask4 a b c false) := by
  revert a b c d; decide

theorem mask_in {vs : List Nat} {i : Nat} (hi : i < 4) (h : i ∈ vs) : bits .and .u64 (mask vs : Int) (p2 i) = p2 i := by
  have e : vs.contains i = true := by simpa using h
  obtain ⟨h0, h1, h2, h3⟩ := mask_and (vs.contains 0) (vs.contains 1) (vs.contains 2) (vs.contains 3)
  have hii : i = 0 ∨ i = 1 ∨ i = 2 ∨ i = 3 := by omega
  rcases hii with rfl | rfl | rfl | rfl
  · exact h0.trans (by rw [e]; rfl)
  · exact h1.trans (by rw [e]; rfl)
  · exact h2.trans (by rw [e]; rfl)
  · exact h3.trans (by rw [e]; rfl)
theorem mask_out {vs : List Nat} {i : Nat} (hi : i < 4) (h : i ∉ vs) : bits .and .u64 (mask vs : Int) (p2 i) = 0 := by
  have e : vs.contains i = false := by simpa using h
  obtain ⟨h0, h1, h2, h3⟩ := mask_and (vs.contains 0) (vs.contains 1) (vs.contains 2) (vs.contains 3)
  have hii : i = 0 ∨ i = 1 ∨ i = 2 ∨ i = 3 := by omega
  rcases hii with rfl | rfl | rfl | rfl
  · exact h0.trans (by rw [e]; rfl)
  · exact h1.trans (by rw [e]; rfl)
  · exact h2.trans (by rw [e]; rfl)
  · exact h3.trans (by rw [e]; rfl)
/-- vs' is vs but for i, which it holds just if b -/
def Same (vs vs' : List Nat) (i : Nat) (b : Bool) : Prop := vs'.contains i = b ∧ ∀ j, j ≠ i → vs'.contains j = vs.contains j
theorem mask_rem {vs vs' : List Nat} {i : Nat} (hi : i < 4) (h : Same vs vs' i false) : bits .andNot .u64 (mask vs : Int) (p2 i) = mask vs' := by
  obtain ⟨h0, h1, h2, h3⟩ := mask_andNot (vs.contains 0) (vs.contains 1) (vs.contains 2) (vs.contains 3)
  have hii : i = 0 ∨ i = 1 ∨ i = 2 ∨ i = 3 := by omega
  unfold mask at *
  rcases hii with rfl | rfl | rfl | rfl
  · rw [h.1, h.2 1 (by omega), h.2 2 (by omega), h.2 3 (by omega)]; exact h0
  · rw [h.1, h.2 0 (by omega), h.2 2 (by omega), h.2 3 (by omega)]; exact h1
  · rw [h.1, h.2 0 (by omega), h.2 1 (by omega), h.2 3 (by omega)]; exact h2
  · rw [h.1, h.2 0 (by omega), h.2 1 (by omega), h.2 2 (by omega)]; exact h3
theorem mask_add {vs vs' : List Nat} {i : Nat} (hi : i < 4) (h : Same vs vs' i true) : bits .or .u64 (mask vs : Int) (p2 i) = mask vs' := by
  obtain ⟨h0, h1, h2, h3⟩ := mask_or (vs.contains 0) (vs.contains 1) (vs.contains 2) (vs.contains 3)
  have hii : i = 0 ∨ i = 1 ∨ i = 2 ∨ i = 3 := by omega
  unfold mask at *
  rcases hii with rfl | rfl | rfl | rfl
  · rw [h.1, h.2 1 (by omega), h.2 2 (by omega), h.2 3 (by omega)]; exact h0
  · rw [h.1, h.2 0 (by omega), h.2 2 (by omega), h.2 3 (by omega)]; exact h1
  · rw [h.1, h.2 0 (by omega), h.2 1 (by omega), h.2 3 (by omega)]; exact h2
  · rw [h.1, h.2 0 (by omega), h.2 1 (by omega), h.2 2 (by omega)]; exact h3
def tot (st : Nat → Nat) (vs : List Nat) : Nat := sum4 st (fun j => vs.contains j)
theorem tot_le (st : Nat → Nat) (vs : List Nat) (h : ∀ j, st j ≤ 4) : tot st vs ≤ 16 := by
  unfold tot sum4 bit
  have := h 0; have := h 1; have := h 2; have := h 3
  split <;> split <;> split <;> split <;> omega
theorem tot_rem {st : Nat → Nat} {vs vs' : List Nat} {i : Nat} (hi : i < 4) (hin : i ∈ vs) (h : Same vs vs' i false) : st i ≤ tot st vs ∧ tot st vs' = tot st vs - st i := by
  have e : vs.contains i = true := by simpa using hin
  have hii : i = 0 ∨ i = 1 ∨ i = 2 ∨ i = 3 := by omega
  unfold tot sum4
  dsimp only
  rcases hii with rfl | rfl | rfl | rfl
  · rw [h.1, h.2 1 (by omega), h.2 2 (by omega), h.2 3 (by omega), e]; simp [bit]; first | done | omega
  · rw [h.1, h.2 0 (by omega), h.2 2 (by omega), h.2 3 (by omega), e]; simp [bit]; first | done | omega
  · rw [h.1, h.2 0 (by omega), h.2 1 (by omega), h.2 3 (by omega), e]; simp [bit]; first | done | omega
  · rw [h.1, h.2 0 (by omega), h.2 1 (by omega), h.2 2 (by omega), e]; simp [bit]
theorem tot_add {st : Nat → Nat} {vs vs' : List Nat} {i : Nat} (hi : i < 4) (hin : i ∉ vs) (h : Same vs vs' i true) : tot st vs' = tot st vs + st i := by
  have e : vs.contains i = false := by simpa using hin
  have hii : i = 0 ∨ i = 1 ∨ i = 2 ∨ i = 3 := by omega
  unfold tot sum4
  dsimp only
  rcases hii with rfl | rfl | rfl | rfl
  · rw [h.1, h.2 1 (by omega), h.2 2 (by omega), h.2 3 (by omega), e]; simp [bit]; first | done | omega
  · rw [h.1, h.2 0 (by omega), h.2 2 (by omega), h.2 3 (by omega), e]; simp [bit]; first | done | omega
  · rw [h.1, h.2 0 (by omega), h.2 1 (by omega), h.2 3 (by omega), e]; simp [bit]; first | done | omega
  · rw [h.1, h.2 0 (by omega), h.2 1 (by omega), h.2 2 (by omega), e]; simp [bit]
theorem same_add (vs : List Nat) (i : Nat) : Same vs (vs ++ [i]) i true := ⟨by simp, fun j hj => by simp [hj]⟩
theorem same_rem (l1 l2 : List Nat) (i : Nat) (h : (l1 ++ i :: l2).Nodup) : Same (l1 ++ i :: l2) (l1 ++ l2) i false := by
  refine ⟨?_, fun j hj => by simp [hj]⟩
  simp [List.nodup_append] at h
  simp
  exact ⟨fun hm => (h.2.2 i hm).1 rfl, h.2.1.1⟩
theorem mask_one (i : Nat) (hi : i < 4) : (p2 i).toNat = mask [i] := by
  have hii : i = 0 ∨ i = 1 ∨ i = 2 ∨ i = 3 := by omega
  rcases hii with rfl | rfl | rfl | rfl <;> decide
theorem tot_one (st : Nat → Nat) (i : Nat) (hi : i < 4) : tot st [i] = st i := by
  have := tot_add (st := st) (vs := []) hi (by simp) (same_add [] i)
  simpa [tot, sum4, bit] using this

structure Bal (w : World) (st : Nat → Nat) (B C V cap : Nat) (vs : List Nat) : Prop where
  b : w.heap[B]? = some (tb C (tot st vs) (.slice (some ⟨V, 0, none⟩) vs.length cap))
  c : w.heap[C]? = some (tc (mask vs))
  v : Vt w V cap vs
theorem Bal.keep {w w' : World} {st : Nat → Nat} {B C V cap : Nat} {vs : List Nat} (h : Bal w st B C V cap vs) (hb : w'.heap[B]? = w.heap[B]?) (hc : w'.heap[C]? = w.heap[C]?) (hv : w'.heap[V]? = w.heap[V]?) : Bal w' st B C V cap vs :=
  ⟨hb.trans h.b, hc.trans h.c, h.v.keep hv⟩
end Go.Proofs.Ybulkmns
