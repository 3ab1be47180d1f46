/-
  A slice of entries that came in, opened.
-/
import Derived.Test.YbulkmpiBuild
import Derived.ProofKit
import Derived.OpenShut
import Derived.Deep.Slices
namespace Go.Proofs.Ybulkmpi
open Go.ChangeShapes Go.WideShapes Go.ChangeAt Go.RowKit Go.Deep

theorem cells37 : Yba.prog.cellsOf 37 = 33 := by kernel_rfl
theorem cells27 : Yba.prog.cellsOf 27 = 32 := by kernel_rfl
theorem cells29 : Yba.prog.cellsOf 29 = 1 := by kernel_rfl
theorem cells5 : Yba.prog.cellsOf 5 = 1 := by kernel_rfl

theorem cell_lt {w : World} {a : Addr} {v : Value} (h : w.cell? a = some v) : a.block < w.heap.size := by
  rcases Nat.lt_or_ge a.block w.heap.size with hlt | hge
  · exact hlt
  · simp [World.cell?, Array.getElem?_eq_none hge] at h

theorem drop_take_one {l : List Value} {i : Nat} {v : Value} (h : (l.drop i).take 1 = [v]) : l[i]? = some v := by
  have : (l.drop i)[0]? = some v := by
    cases hd : l.drop i with
    | nil => rw [hd] at h; cases h
    | cons x xs => rw [hd] at h; simp at h; simp [h]
  simpa [List.getElem?_drop] using this

theorem ec_of {H : Type} {enc : TypeId × Value → H} {W : World} {spare : Nat → Bool} {held : Bool} {n : Nat} {cs : List Value} {y : DataW H × List MemPlace}
    (hl : cs.length = 33) (h2 : DataW.trod enc Yba.prog W 0 spare held n 37 cs = some y) : Ec cs := by
  obtain ⟨xs, k, hk, hxy, _, hxl, hf⟩ := DataW.trod_struct Yba.underlying37 h2
  have hx2 : xs.length = 2 := hxl
  have g0 : DataW.trod enc Yba.prog W 0 spare held k 27 ((cs.drop 0).take (Yba.prog.cellsOf 27)) = xs[0]? := hf 0 _ rfl
  have g1 : DataW.trod enc Yba.prog W 0 spare held k 29 ((cs.drop 32).take (Yba.prog.cellsOf 29)) = xs[1]? := hf 1 _ rfl
  rw [List.getElem?_eq_getElem (by omega), cells27, List.drop_zero] at g0
  rw [List.getElem?_eq_getElem (by omega), cells29] at g1
  obtain ⟨ys, m, _, _, _, hyl, hy⟩ := DataW.trod_array Yba.underlying27 g0
  obtain ⟨h, e1, _, _⟩ := DataW.trod_int Yba.underlying29 g1
  refine ⟨hl, fun i hi => ?_, h, drop_take_one e1⟩
  have hyi := hy i hi
  rw [List.getElem?_eq_getElem (by omega)] at hyi
  simp only [cells5, Nat.mul_one] at hyi
  obtain ⟨u, e0, _, _⟩ := DataW.trod_int Yba.underlying5 hyi
  have := drop_take_one e0
  rw [List.getElem?_take_of_lt hi] at this
  exact ⟨u, this⟩

theorem open_in {H : Type} {enc : TypeId × Value → H} {W : World} {spare : Nat → Bool} {held : Bool} {a : Option Addr} {n c : Nat} {d : DataW H} {ps : List MemPlace}
    (h : DataW.Trod enc Yba.prog W 0 spare held 22 (.slice a n c) d ps) : ∃ C, IsIn W a n C := by
  obtain ⟨fuel, hf⟩ := h
  rcases open_slice Yba.underlying22 hf with ⟨hcs, _⟩ | ⟨x, l, cp, m, k, D, Pl, hcs, _, hl, _, hm, _, hx⟩
  · simp [Value.cells] at hcs
    exact ⟨fun _ => [], .inl hcs.2.1⟩
  · simp [Value.cells] at hcs
    obtain ⟨rfl, rfl, rfl⟩ := hcs
    by_cases hn : n = 0
    · exact ⟨fun _ => [], .inl hn⟩
    have hnm : n ≤ m := by rw [hm]; split <;> omega
    rw [cells37] at hx
    obtain ⟨f, hfn⟩ := choose_lt (α := List Value) (n := n) (p := fun i q => W.cells? 0 (x.add (i * 33)) 33 = some q ∧ Ec q)
      (fun i hi => by
        obtain ⟨cs', e1, e2⟩ := hx i (by omega)
        exact ⟨cs', e1, ec_of (World.cells?_some e1).2.1 e2⟩)
    have hcell : ∀ i, i < n → ∀ j v, (f i)[j]? = some v → W.cell? (x.add (i * 33 + j)) = some v := by
      intro i hi j v hv
      obtain ⟨_, hlen, hc⟩ := World.cells?_some (hfn i hi).1
      have hj : j < 33 := by rw [← hlen]; exact (List.getElem?_eq_some_iff.1 hv).1
      have := hc j hj
      rw [add_add, hv] at this
      exact this
    obtain ⟨v0, hv0⟩ : ∃ v, (f 0)[0]? = some v := by
      obtain ⟨u, hu⟩ := (hfn 0 (by omega)).2.u8 0 (by omega)
      exact ⟨_, hu⟩
    have h00 := hcell 0 (by omega) 0 v0 hv0
    obtain ⟨b, o, spot⟩ := x
    have hspot : spot = none := by simpa [Addr.add] using World.cell?_spot h00
    subst hspot
    refine ⟨f, .inr ⟨b, o, rfl, ?_, fun i hi => ⟨fun j v hv => ?_, (hfn i hi).2⟩⟩⟩
    · rw [add_plain] at h00
      exact cell_lt h00
    · have := hcell i hi j v hv
      rw [add_plain] at this
      rw [Nat.add_assoc]
      exact this
end Go.Proofs.Ybulkmpi
