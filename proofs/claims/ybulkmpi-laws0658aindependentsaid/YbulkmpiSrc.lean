/-
  The source of entries, as a state that goes on.
-/
import Derived.Test.YbulkmpiBuild
namespace Go.Proofs.Ybulkmpi
open Go.RowKit

/-- w' is w but for the cells of block p, and new blocks -/
structure Kp (p : Nat) (w w' : World) : Prop where
  os : w'.os = w.os
  tape : w'.tape = w.tape
  output : w'.output = w.output
  size : w.heap.size ≤ w'.heap.size
  block : ∀ b, b < w.heap.size → b ≠ p → w'.heap[b]? = w.heap[b]?

theorem Kp.refl (p : Nat) (w : World) : Kp p w w := ⟨rfl, rfl, rfl, Nat.le_refl _, fun _ _ _ => rfl⟩
theorem Kp.trans {p : Nat} {a b c : World} (h : Kp p a b) (k : Kp p b c) : Kp p a c :=
  ⟨k.os.trans h.os, k.tape.trans h.tape, k.output.trans h.output, Nat.le_trans h.size k.size, fun i hi hp => (k.block i (by have := h.size; omega) hp).trans (h.block i hi hp)⟩
theorem Kp.alloc {p : Nat} {a w : World} (h : Kp p a w) (o : Obj) : Kp p a (w.alloc o) :=
  h.trans ⟨rfl, rfl, rfl, by simp, fun b hb _ => Below.heap_alloc w o b hb⟩
theorem Kp.drew {p : Nat} {a w : World} (h : Kp p a w) : Kp p a w.drew := ⟨h.os, h.tape, h.output, h.size, h.block⟩
theorem Kp.setCell {p : Nat} {a w : World} (h : Kp p a w) (v : Value) : Kp p a (w.setCell ⟨p, 0, none⟩ v) :=
  h.trans ⟨rfl, rfl, rfl, by simp [World.setCell], fun b _ hp => Below.heap_setCell w ⟨p, 0, none⟩ v b hp⟩
theorem Kp.below {p B : Nat} {a w w' : World} (h : Below B a w) (k : Kp p w w') (hB : B ≤ w.heap.size) (hp : B ≤ p) : Below B a w' :=
  h.trans ⟨k.os, k.tape, k.output, k.size, fun b hb => k.block b (by omega) (by omega)⟩
theorem Kp.cell {p : Nat} {w w' : World} (k : Kp p w w') {b o : Nat} (hb : b < w.heap.size) (hp : b ≠ p) : w'.cell? ⟨b, o, none⟩ = w.cell? ⟨b, o, none⟩ := World.cell?_of_block (k.block b hb hp)
theorem Kp.frozen {p : Nat} {w w' : World} (k : Kp p w w') {b o : Nat} (hb : b < w.heap.size) (hp : b ≠ p) : w'.frozen? ⟨b, o, none⟩ = w.frozen? ⟨b, o, none⟩ := World.frozen?_of_block (k.block b hb hp)
theorem Kp.range {p : Nat} {w w' : World} (k : Kp p w w') {b o : Nat} {C : List Value} (hb : b < w.heap.size) (hp : b ≠ p) (h : w.rangeAt b o C) : w'.rangeAt b o C := fun j v hv => by
  rw [k.cell hb hp]; exact h j v hv

/-- what the source's variable holds behind k of n entries -/
def srcVal (g n k : Nat) (S : Value) : Prop := (k < n ∧ S = .slice (some ⟨g, k * 33, none⟩) (n - k) (n - k)) ∨ (k = n ∧ ∃ a c, S = .slice a 0 c)

structure SrcAt (w : World) (p g n k : Nat) : Prop where
  lt : p < w.heap.size
  cell : ∃ S, w.cell? ⟨p, 0, none⟩ = some S ∧ srcVal g n k S
  frz : w.frozen? ⟨p, 0, none⟩ = false

theorem SrcAt.keep {w w' : World} {p q g n k : Nat} (h : SrcAt w p g n k) (hk : Kp q w w') (hpq : p ≠ q) : SrcAt w' p g n k := by
  obtain ⟨h1, ⟨S, h2, h3⟩, h4⟩ := h
  exact ⟨by have := hk.size; omega, ⟨S, (hk.cell h1 hpq).trans h2, h3⟩, (hk.frozen h1 hpq).trans h4⟩

theorem rest_val (g n k : Nat) (hk : k < n) : srcVal g n (k + 1) (rest g (k * 33) (n - k) (n - k)) := by
  unfold rest
  by_cases h : n - k = 1
  · rw [if_pos h]
    exact .inr ⟨by omega, _, 0, by rw [show n - k - 1 = 0 by omega]⟩
  · rw [if_neg h]
    refine .inl ⟨by omega, ?_⟩
    rw [show k * 33 + 33 = (k + 1) * 33 by omega, show n - k - 1 = n - (k + 1) by omega]

/-- the source gives entry k -/
theorem next_step (p g n k : Nat) (C : List Value) (w : World) (hs : SrcAt w p g n k) (hk : k < n) (hg : g < w.heap.size) (hC : Ec C) (hr : w.rangeAt g (k * 33) C) :
    Calls Yba.prog 8 #[.pointer (some ⟨p, 0, none⟩)] w fun e w' => e = .returned (.tuple #[.agg C.toArray, .bool true, .nilIface]) ∧ SrcAt w' p g n (k + 1) ∧ Kp p w w' := by
  obtain ⟨hlt, ⟨S, hc, hv⟩, hf⟩ := hs
  rcases hv with ⟨_, rfl⟩ | ⟨h, _⟩
  · refine (next_some p g (k * 33) (n - k) (n - k) C w hlt hg (by omega) (Nat.le_refl _) hc hf hC hr).mono ?_
    rintro e w' ⟨rfl, rfl⟩
    have hkp : Kp p w (((w.setCell ⟨p, 0, none⟩ (rest g (k * 33) (n - k) (n - k))).alloc (.cells C.toArray 31)).alloc (.cells C.toArray 31)) := (((Kp.refl p w).setCell _).alloc _).alloc _
    refine ⟨rfl, ⟨by have := hkp.size; omega, ⟨_, ?_, rest_val g n k hk⟩, ?_⟩, hkp⟩
    · rw [World.cell?_alloc_past _ _ _ (by simp [World.setCell]; omega), World.cell?_alloc_past _ _ _ (by simpa [World.setCell] using hlt)]
      exact World.cell?_setCell_same _ _ _ hc
    · rw [World.frozen?_alloc_past _ _ _ (by simp [World.setCell]; omega), World.frozen?_alloc_past _ _ _ (by simpa [World.setCell] using hlt), World.frozen?_setCell]
      exact hf
  · omega

/-- the source is at its end, and stays there -/
theorem next_end (p g n : Nat) (w : World) (hs : SrcAt w p g n n) :
    Calls Yba.prog 8 #[.pointer (some ⟨p, 0, none⟩)] w fun e w' => e = .returned (.tuple #[.agg Z.toArray, .bool false, .nilIface]) ∧ SrcAt w' p g n n ∧ Kp p w w' := by
  obtain ⟨hlt, ⟨S, hc, hv⟩, hf⟩ := hs
  rcases hv with ⟨h, _⟩ | ⟨_, a, c, rfl⟩
  · omega
  · refine (next_none p a c w hlt hc).mono ?_
    rintro e w' ⟨rfl, rfl⟩
    refine ⟨rfl, ⟨by simp; omega, ⟨_, ?_, .inr ⟨rfl, a, c, rfl⟩⟩, ?_⟩, (Kp.refl p w).alloc _⟩
    · rw [World.cell?_alloc_past _ _ _ hlt]; exact hc
    · rw [World.frozen?_alloc_past _ _ _ hlt]; exact hf

/-- the source at its start -/
theorem src_start (w : World) (g n : Nat) : SrcAt (w.alloc (.cells #[.slice (some ⟨g, 0, none⟩) n n] 23)) w.heap.size g n 0 := by
  refine ⟨by simp, ⟨.slice (some ⟨g, 0, none⟩) n n, ?_, ?_⟩, World.frozen?_alloc_at _ _ _ _ rfl⟩
  · rw [World.cell?_alloc_at _ _ _ _ rfl]; rfl
  · by_cases h : n = 0
    · exact .inr ⟨h.symm, _, n, by rw [h]⟩
    · exact .inl ⟨by omega, by simp⟩
end Go.Proofs.Ybulkmpi
