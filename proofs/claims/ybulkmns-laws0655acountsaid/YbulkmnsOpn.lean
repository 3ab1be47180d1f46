/-
  What came in, opened: the stakes, the steps.
-/
import Derived.Test.YbulkmnsLsu
import Derived.ProofKit
import Derived.OpenShut
import Derived.Deep.Slices
namespace Go.Proofs.Ybulkmns
open Go.ChangeShapes Go.WideShapes Go.ChangeAt Go.RowKit Go.Deep
set_option linter.unusedVariables false
set_option linter.unusedSimpArgs false
set_option linter.constructorNameAsVariable false

theorem cells22 : Yba.prog.cellsOf 22 = 4 := by kernel_rfl
theorem cells62 : Yba.prog.cellsOf 62 = 3 := by kernel_rfl

/-- the steps that came in -/
def IsStp (w : World) (a : Option Addr) (n : Nat) (who vws prp : Nat → Nat) : Prop :=
  n = 0 ∨ ∃ b o, a = some ⟨b, o, none⟩ ∧ b < w.heap.size ∧ ∀ k, k < n → w.cell? ⟨b, o + k * 3, none⟩ = some (.int .u8 (who k)) ∧ w.cell? ⟨b, o + k * 3 + 1, none⟩ = some (.int .u64 (vws k)) ∧ w.cell? ⟨b, o + k * 3 + 2, none⟩ = some (.int .u8 (prp k)) ∧ who k < 256 ∧ vws k < 2 ^ 64 ∧ prp k < 256

theorem cell_lt {w : World} {a : Addr} {v : Value} (h : w.cell? a = some v) : a.block < w.heap.size := by
  rcases Nat.lt_or_ge a.block w.heap.size with hlt | hge
  · exact hlt
  · simp [World.cell?, Array.getElem?_eq_none hge] at h
theorem drop_take_one {l : List Value} {i : Nat} {v : Value} (h : (l.drop i).take 1 = [v]) : l[i]? = some v := by
  have : (l.drop i)[0]? = some v := by
    cases hd : l.drop i with
    | nil => rw [hd] at h; cases h
    | cons x xs => rw [hd] at h; simp at h; simp [h]
  simpa [List.getElem?_drop] using this

section
variable {H : Type} {enc : TypeId × Value → H} {W : World} {spare : Nat → Bool} {held : Bool}

theorem u8_of {n : Nat} {cs : List Value} {y : DataW H × List MemPlace} (h : DataW.trod enc Yba.prog W 0 spare held n 5 cs = some y) : ∃ a : Nat, cs = [.int .u8 a] ∧ a < 256 := by
  obtain ⟨z, e, _, hw⟩ := DataW.trod_int Yba.underlying5 h
  have hb := bounds_u8 hw
  exact ⟨z.toNat, by rw [e, Int.toNat_of_nonneg hb.1], by omega⟩
theorem u64_of {n : Nat} {cs : List Value} {y : DataW H × List MemPlace} (h : DataW.trod enc Yba.prog W 0 spare held n 29 cs = some y) : ∃ a : Nat, cs = [.int .u64 a] ∧ a < 2 ^ 64 := by
  obtain ⟨z, e, _, hw⟩ := DataW.trod_int Yba.underlying29 h
  have hb := bounds_u64 hw
  exact ⟨z.toNat, by rw [e, Int.toNat_of_nonneg hb.1], by omega⟩

theorem open_four {r : Reach} {b0 : Nat} {v : Value} {d : DataW H} {ps : List MemPlace} (hval : Value.okWide Yba.prog W r b0 22 v) (h : DataW.Trod enc Yba.prog W 0 spare held 22 v d ps) :
    ∃ x : Nat → Nat, (∀ j, x j < 256) ∧ v = .agg #[.int .u8 (x 0), .int .u8 (x 1), .int .u8 (x 2), .int .u8 (x 3)] := by
  have hv : ∃ cs, v = .agg cs ∧ cs.size = Yba.prog.cellsOf 22 := by
    simp only [Value.okWide, Yba.underlying22] at hval
    obtain ⟨cs, h1, h2, _⟩ := hval
    exact ⟨cs, h1, h2⟩
  obtain ⟨cs, rfl, hs⟩ := hv
  rw [cells22] at hs
  obtain ⟨fuel, hf⟩ := h
  obtain ⟨xs, m, _, _, _, hxl, hx⟩ := DataW.trod_array Yba.underlying22 hf
  have key : ∀ i, i < 4 → ∃ a : Nat, cs.toList[i]? = some (.int .u8 a) ∧ a < 256 := fun i hi => by
    have hi' := hx i hi
    rw [List.getElem?_eq_getElem (by omega), cells5, Nat.mul_one] at hi'
    obtain ⟨a, e, ha⟩ := u8_of hi'
    exact ⟨a, by simpa [Value.cells] using drop_take_one e, ha⟩
  obtain ⟨a0, e0, g0⟩ := key 0 (by omega)
  obtain ⟨a1, e1, g1⟩ := key 1 (by omega)
  obtain ⟨a2, e2, g2⟩ := key 2 (by omega)
  obtain ⟨a3, e3, g3⟩ := key 3 (by omega)
  refine ⟨fun j => if j = 0 then a0 else if j = 1 then a1 else if j = 2 then a2 else if j = 3 then a3 else 0, fun j => ?_, ?_⟩
  · dsimp only
    split
    · exact g0
    · split
      · exact g1
      · split
        · exact g2
        · split
          · exact g3
          · omega
  · have hl : cs.toList = [.int .u8 a0, .int .u8 a1, .int .u8 a2, .int .u8 a3] := by
      have hlen : cs.toList.length = 4 := by simpa using hs
      match hcs : cs.toList, hlen with
      | [c0, c1, c2, c3], _ =>
        rw [hcs] at e0 e1 e2 e3
        simp at e0 e1 e2 e3
        rw [e0, e1, e2, e3]
    have : cs = #[.int .u8 a0, .int .u8 a1, .int .u8 a2, .int .u8 a3] := by
      rw [← Array.toArray_toList (xs := cs), hl]
    rw [this]
    simp

/-- the cells of a step -/
def Est (cs : List Value) (q : Nat × Nat × Nat) : Prop := cs[0]? = some (.int .u8 q.1) ∧ cs[1]? = some (.int .u64 q.2.1) ∧ cs[2]? = some (.int .u8 q.2.2) ∧ q.1 < 256 ∧ q.2.1 < 2 ^ 64 ∧ q.2.2 < 256

theorem est_of {n : Nat} {cs : List Value} {y : DataW H × List MemPlace} (h2 : DataW.trod enc Yba.prog W 0 spare held n 62 cs = some y) : ∃ q, Est cs q := by
  obtain ⟨xs, k, hk, hxy, _, hxl, hf⟩ := DataW.trod_struct Yba.underlying62 h2
  have hx2 : xs.length = 3 := hxl
  have g0 : DataW.trod enc Yba.prog W 0 spare held k 5 ((cs.drop 0).take (Yba.prog.cellsOf 5)) = xs[0]? := hf 0 _ rfl
  have g1 : DataW.trod enc Yba.prog W 0 spare held k 29 ((cs.drop 1).take (Yba.prog.cellsOf 29)) = xs[1]? := hf 1 _ rfl
  have g2 : DataW.trod enc Yba.prog W 0 spare held k 5 ((cs.drop 2).take (Yba.prog.cellsOf 5)) = xs[2]? := hf 2 _ rfl
  rw [List.getElem?_eq_getElem (by omega), cells5] at g0
  rw [List.getElem?_eq_getElem (by omega), cells29] at g1
  rw [List.getElem?_eq_getElem (by omega), cells5] at g2
  obtain ⟨a, e0, b0⟩ := u8_of g0
  obtain ⟨s, e1, b1⟩ := u64_of g1
  obtain ⟨c, e2, b2⟩ := u8_of g2
  exact ⟨(a, s, c), drop_take_one e0, drop_take_one e1, drop_take_one e2, b0, b1, b2⟩

theorem open_steps {a : Option Addr} {n c : Nat} {d : DataW H} {ps : List MemPlace} (h : DataW.Trod enc Yba.prog W 0 spare held 23 (.slice a n c) d ps) : ∃ who vws prp, IsStp W a n who vws prp := by
  obtain ⟨fuel, hf⟩ := h
  rcases open_slice Yba.underlying23 hf with ⟨hcs, _⟩ | ⟨x, l, cp, m, k, D, Pl, hcs, _, hl, _, hm, _, hx⟩
  · simp [Value.cells] at hcs
    exact ⟨fun _ => 0, fun _ => 0, fun _ => 0, .inl hcs.2.1⟩
  · simp [Value.cells] at hcs
    obtain ⟨rfl, rfl, rfl⟩ := hcs
    by_cases hn : n = 0
    · exact ⟨fun _ => 0, fun _ => 0, fun _ => 0, .inl hn⟩
    have hnm : n ≤ m := by rw [hm]; split <;> omega
    rw [cells62] at hx
    obtain ⟨f, hfn⟩ := choose_lt (α := Nat × Nat × Nat) (n := n) (p := fun i q => ∃ cs, W.cells? 0 (x.add (i * 3)) 3 = some cs ∧ Est cs q)
      (fun i hi => by
        obtain ⟨cs', e1, e2⟩ := hx i (by omega)
        obtain ⟨q, hq⟩ := est_of e2
        exact ⟨q, cs', e1, hq⟩)
    have hcell : ∀ i, i < n → ∀ j v, j < 3 → (∀ cs, W.cells? 0 (x.add (i * 3)) 3 = some cs → cs[j]? = some v) → W.cell? (x.add (i * 3 + j)) = some v := by
      intro i hi j v hj hv
      obtain ⟨cs, hcs, _⟩ := hfn i hi
      obtain ⟨_, hlen, hc⟩ := World.cells?_some hcs
      have := hc j hj
      rw [add_add, hv cs hcs] at this
      exact this
    have all : ∀ i, i < n → W.cell? (x.add (i * 3)) = some (.int .u8 (f i).1) ∧ W.cell? (x.add (i * 3 + 1)) = some (.int .u64 (f i).2.1) ∧ W.cell? (x.add (i * 3 + 2)) = some (.int .u8 (f i).2.2) ∧ (f i).1 < 256 ∧ (f i).2.1 < 2 ^ 64 ∧ (f i).2.2 < 256 := fun i hi => by
      obtain ⟨cs, hcs, h0, h1, h2, b0, b1, b2⟩ := hfn i hi
      refine ⟨hcell i hi 0 _ (by omega) (fun cs' h' => ?_), hcell i hi 1 _ (by omega) (fun cs' h' => ?_), hcell i hi 2 _ (by omega) (fun cs' h' => ?_), b0, b1, b2⟩ <;> (rw [hcs] at h'; injection h' with h'; subst h'; assumption)
    have h00 := (all 0 (by omega)).1
    obtain ⟨b, o, spot⟩ := x
    have hspot : spot = none := by simpa [Addr.add] using World.cell?_spot h00
    subst hspot
    refine ⟨fun i => (f i).1, fun i => (f i).2.1, fun i => (f i).2.2, .inr ⟨b, o, rfl, ?_, fun i hi => ?_⟩⟩
    · rw [add_plain] at h00
      exact cell_lt h00
    · obtain ⟨q0, q1, q2, r⟩ := all i hi
      rw [add_plain] at q0 q1 q2
      rw [← Nat.add_assoc] at q1 q2
      exact ⟨q0, q1, q2, r⟩
end
end Go.Proofs.Ybulkmns
