/-
  The proof of 'Rows.LawS0652BMinSaid': the frame after the guide's shell for slices; the slice of structs opened by hand.
-/
import Derived.Test.YbulkmmcBmin
import Derived.ProofKit
import Derived.OpenShut
import Derived.ShutString
import Derived.ChangeOld
import Derived.Below
import Derived.Deep.Slices
namespace Go.Proofs.Ybulkmmc.lawS0652BMin
open Go.ChangeShapes Go.WideShapes Go.ChangeAt Go.RowKit Go.Deep
set_option linter.unusedVariables false

theorem own : ownKnob Yba.prog.godebug = none := by kernel_rfl
theorem laidOut : laidOutB Yba.prog = true := by kernel_rfl
theorem cells67 : Yba.prog.cellsOf 67 = 3 := by kernel_rfl
theorem cells21 : Yba.prog.cellsOf 21 = 1 := by kernel_rfl
theorem cells2 : Yba.prog.cellsOf 2 = 1 := by kernel_rfl
theorem cells5 : Yba.prog.cellsOf 5 = 1 := by kernel_rfl

/-! ### THE WALK -/
theorem big1 (a1 a2 : Option Addr) (n1 c1 n2 c2 : Nat) (now : Int) (w : World) (h : 1024 < n1) :
    Calls Yba.prog 5 #[.slice a1 n1 c1, .slice a2 n2 c2, .int .i64 now] w fun e w' => e = .returned (.bool true) ∧ Below w.heap.size w w' := by
  have t1 : decide ((1024 : Int) < (n1 : Int)) = true := by simp; omega
  go_enter Yba.func5, Yba.ntmps5
  go_wp2_with fail
  go_ret
  exact ⟨rfl, Below.refl _ _⟩

theorem big2 (a1 a2 : Option Addr) (n1 c1 n2 c2 : Nat) (now : Int) (w : World) (h1 : n1 ≤ 1024) (h : 1024 < n2) :
    Calls Yba.prog 5 #[.slice a1 n1 c1, .slice a2 n2 c2, .int .i64 now] w fun e w' => e = .returned (.bool true) ∧ Below w.heap.size w w' := by
  have t1 : decide ((1024 : Int) < (n1 : Int)) = false := by simp; omega
  have t2 : decide ((1024 : Int) < (n2 : Int)) = true := by simp; omega
  go_enter Yba.func5, Yba.ntmps5
  go_wp2_with fail
  go_ret
  exact ⟨rfl, Below.refl _ _⟩

theorem walk (a1 a2 : Option Addr) (n1 c1 n2 c2 : Nat) (now : Int) (w : World) (R S U Q : Nat → Int) (h1 : IsHs w a1 n1 R S U) (h2 : IsQs w a2 n2 Q) :
    Calls Yba.prog 5 #[.slice a1 n1 c1, .slice a2 n2 c2, .int .i64 now] w fun e w' => e = .returned (.bool true) ∧ Below w.heap.size w w' := by
  by_cases b1 : 1024 < n1
  · exact big1 a1 a2 n1 c1 n2 c2 now w b1
  by_cases b2 : 1024 < n2
  · exact big2 a1 a2 n1 c1 n2 c2 now w (by omega) b2
  exact bmin_main a1 a2 n1 c1 n2 c2 now w R S U Q (by omega) (by omega) h1 h2

/-! ### THE ARGUMENTS OPENED -/
theorem three {α : Type} (l : List α) (h : l.length = 3) : ∃ a b c, l = [a, b, c] := by
  match l, h with
  | [a, b, c], _ => exact ⟨a, b, c, rfl⟩
theorem cell_lt {w : World} {a : Addr} {v : Value} (h : w.cell? a = some v) : a.block < w.heap.size := by
  rcases Nat.lt_or_ge a.block w.heap.size with hlt | hge
  · exact hlt
  · simp [World.cell?, Array.getElem?_eq_none hge] at h
theorem elem_of {H : Type} {enc : TypeId × Value → H} {W : World} {spare : Nat → Bool} {held : Bool} {a : Addr} {n : Nat} {cs : List Value} {y : DataW H × List MemPlace}
    (h1 : W.cells? 0 a 3 = some cs) (h2 : DataW.trod enc Yba.prog W 0 spare held n 67 cs = some y) :
    ∃ q : Int × Int × Int, W.cell? a = some (.int .i32 q.1) ∧ W.cell? (a.add 1) = some (.int .i64 q.2.1) ∧ W.cell? (a.add 2) = some (.int .u8 q.2.2) ∧ (Lit.int .i32 q.1).wf = true ∧ (Lit.int .u8 q.2.2).wf = true := by
  obtain ⟨_, hlen, hcell⟩ := World.cells?_some h1
  obtain ⟨xs, k, hk, hxy, _, hxl, hf⟩ := DataW.trod_struct Yba.underlying67 h2
  obtain ⟨y0, y1, y2, rfl⟩ := three xs hxl
  obtain ⟨v0, v1, v2, rfl⟩ := three cs hlen
  have g0 := hf 0 _ rfl
  have g1 := hf 1 _ rfl
  have g2 := hf 2 _ rfl
  simp [cells21, cells2, cells5] at g0 g1 g2
  obtain ⟨r, e0, _, w0⟩ := DataW.trod_int Yba.underlying21 g0
  obtain ⟨s, e1, _, w1⟩ := DataW.trod_int Yba.underlying2 g1
  obtain ⟨u, e2, _, w2⟩ := DataW.trod_int Yba.underlying5 g2
  simp at e0 e1 e2
  subst e0 e1 e2
  have c0 := hcell 0 (by omega)
  have c1 := hcell 1 (by omega)
  have c2 := hcell 2 (by omega)
  exact ⟨(r, s, u), by simpa [Addr.add] using c0, by simpa using c1, by simpa using c2, w0, w2⟩

theorem open_hs {H : Type} {enc : TypeId × Value → H} {W : World} {spare : Nat → Bool} {held : Bool} {a : Option Addr} {n c : Nat} {d : DataW H} {ps : List MemPlace}
    (h : DataW.Trod enc Yba.prog W 0 spare held 42 (.slice a n c) d ps) : ∃ R S U, IsHs W a n R S U := by
  obtain ⟨fuel, hf⟩ := h
  rcases open_slice Yba.underlying42 hf with ⟨hcs, _⟩ | ⟨x, l, cp, m, k, D, Pl, hcs, _, hl, _, hm, _, hx⟩
  · simp [Value.cells] at hcs
    exact ⟨fun _ => 0, fun _ => 0, fun _ => 0, .inl hcs.2.1⟩
  · simp [Value.cells] at hcs
    obtain ⟨rfl, rfl, rfl⟩ := hcs
    by_cases hn : n = 0
    · exact ⟨fun _ => 0, fun _ => 0, fun _ => 0, .inl hn⟩
    have hnm : n ≤ m := by rw [hm]; split <;> omega
    rw [cells67] at hx
    obtain ⟨f, hfn⟩ := choose_lt (α := Int × Int × Int) (n := n) (p := fun i q => W.cell? (x.add (i * 3)) = some (.int .i32 q.1) ∧ W.cell? ((x.add (i * 3)).add 1) = some (.int .i64 q.2.1) ∧ W.cell? ((x.add (i * 3)).add 2) = some (.int .u8 q.2.2) ∧ (Lit.int .i32 q.1).wf = true ∧ (Lit.int .u8 q.2.2).wf = true)
      (fun i hi => by
        obtain ⟨cs', e1, e2⟩ := hx i (by omega)
        exact elem_of e1 e2)
    obtain ⟨b, o, spot⟩ := x
    have hspot : spot = none := by simpa [Addr.add] using World.cell?_spot (hfn 0 (by omega)).1
    subst hspot
    refine ⟨fun i => (f i).1, fun i => (f i).2.1, fun i => (f i).2.2, .inr ⟨b, o, rfl, ?_, fun i hi => ?_⟩⟩
    · have := (hfn 0 (by omega)).1
      rw [add_plain] at this
      exact cell_lt this
    · obtain ⟨g1, g2, g3, g4, g5⟩ := hfn i hi
      rw [add_plain] at g1 g2 g3
      rw [add_plain] at g2 g3
      exact ⟨g1, g2, g3, (bounds_u8 g5).1, bounds_i32 g4⟩

theorem open_qs {H : Type} {enc : TypeId × Value → H} {W : World} {spare : Nat → Bool} {held : Bool} {a : Option Addr} {n c : Nat} {d : DataW H} {ps : List MemPlace}
    (h : DataW.Trod enc Yba.prog W 0 spare held 43 (.slice a n c) d ps) : ∃ Q, IsQs W a n Q := by
  obtain ⟨fuel, hf⟩ := h
  rcases open_slice1 Yba.underlying43 cells21 hf with ⟨hcs, _⟩ | ⟨x, l, cp, m, k, V, D, Pl, hcs, _, hl, _, hm, _, hx⟩
  · simp [Value.cells] at hcs
    exact ⟨fun _ => 0, .inl hcs.2.1⟩
  · simp [Value.cells] at hcs
    obtain ⟨rfl, rfl, rfl⟩ := hcs
    by_cases hn : n = 0
    · exact ⟨fun _ => 0, .inl hn⟩
    have hnm : n ≤ m := by rw [hm]; split <;> omega
    obtain ⟨f, hfn⟩ := choose_lt (α := Int) (n := n) (p := fun i q => W.cell? (x.add i) = some (.int .i32 q)) (fun i hi => by
      obtain ⟨e1, e2⟩ := hx i (by omega)
      obtain ⟨r, e0, _, w0⟩ := DataW.trod_int Yba.underlying21 e2
      simp at e0
      exact ⟨r, by rw [e1, e0]⟩)
    obtain ⟨b, o, spot⟩ := x
    have hspot : spot = none := by simpa [Addr.add] using World.cell?_spot (hfn 0 (by omega))
    subst hspot
    refine ⟨f, .inr ⟨b, o, rfl, ?_, fun i hi => ?_⟩⟩
    · have := hfn 0 (by omega)
      rw [add_plain] at this
      exact cell_lt this
    · have := hfn i hi
      rw [add_plain] at this
      exact this

/-! ### THE ROW's STEP -/
set_option maxRecDepth 100000 in
theorem lifted (os : Os) (started : os.Started) (H : Type) (enc : TypeId × Value → H) :
    ReturnsInHanded {} Yba.checked os 5 .any (Rows.lawS0652BMinSpec.pre6 enc Yba.prog Yba.f5 Rows.lawS0652BMinRow.domain false) (Rows.lawS0652BMinSpec.post enc Yba.prog Yba.f5 false true false false) := by
  refine returnsInHanded_of_change (C := Yba.checked) own started (by kernel_rfl) Yba.func5
    (ChangeSpec.witness6 (enc := enc) (C := Yba.checked) false ⟨#[], #[.slice none 0 0, .slice none 0 0, .int .i64 0], []⟩ 8 (by kernel_rfl) (by kernel_rfl) (by kernel_rfl) (by kernel_rfl)) ?_
  intro W base args ds gs before hval0 hW hcnd _
  have hval : ∀ (j : Nat) t v, Yba.f5.params[j]? = some t → args[j]? = some v → Value.okWide Yba.prog W .any base t v := hval0
  have hW' := hW
  obtain ⟨p, q, hA0, hV, rfl, hfz, hnd⟩ := hW
  have hA : DataW.TrodAll enc Yba.prog W 0 (fun _ => true) true Yba.f5.params.toList args.toList ds p := hA0
  rw [Yba.params5] at hA hval
  obtain ⟨v0, vs0, d0, ds0, p0, q0, hargs, rfl, rfl, h0, r0⟩ := trodAll_cons hA
  obtain ⟨v1, vs1, d1, ds1, p1, q1, rfl, rfl, rfl, h1, r1⟩ := trodAll_cons r0
  obtain ⟨v2, vs2, d2, ds2, p2, q2, rfl, rfl, rfl, h2, r2⟩ := trodAll_cons r1
  obtain ⟨rfl, rfl, rfl⟩ := trodAll_nil r2
  obtain rfl : args = #[v0, v1, v2] := by cases args; simp_all
  obtain ⟨rfl, rfl⟩ := trodVars_none hV
  obtain ⟨a0, len0, cap0, rfl⟩ := okWide_slice Yba.underlying42 (hval 0 42 v0 rfl rfl)
  obtain ⟨a1, len1, cap1, rfl⟩ := okWide_slice Yba.underlying43 (hval 1 43 v1 rfl rfl)
  have k0 := h0
  have k1 := h1
  have lt0 : ∀ x ∈ p0, x.block < W.heap.size := by obtain ⟨m, hm⟩ := k0; exact DataW.trod_lt m _ _ _ hm
  have lt1 : ∀ x ∈ p1, x.block < W.heap.size := by obtain ⟨m, hm⟩ := k1; exact DataW.trod_lt m _ _ _ hm
  obtain ⟨R, S, U, w0⟩ := open_hs h0
  obtain ⟨Q, w1⟩ := open_qs h1
  obtain ⟨a2, rfl, rfl, rfl, w2⟩ := open_int Yba.underlying2 (hval 2 2 v2 rfl rfl) h2
  clear hA0 hval0
  refine (walk a0 a1 len0 cap0 len1 cap1 a2 W R S U Q w0 w1).mono fun e W' ⟨he, bel⟩ => ?_
  subst he
  exact ⟨_, rfl, _, _, _, [], _, [], hW', trodAll_mk1 (shut_bool Yba.underlying4 _), (trodAll_cons_mk (Below.trod laidOut (by kernel_rfl) (of_decide_eq_true (by kernel_rfl)) k0 bel lt0) (trodAll_cons_mk (Below.trod laidOut (by kernel_rfl) (of_decide_eq_true (by kernel_rfl)) k1 bel lt1) (trodAll_cons_mk (shut_int Yba.underlying2 w2) trodAll_mk0))), rfl, bel.frame _, fun h => by cases h⟩

theorem over : Rows.lawS0652BMinRow.holds Yba.pinned (OpenSpec.ofChange Rows.lawS0652BMinSpec) :=
  OpenClaim.holds_of_wide 5 Yba.f5 rfl rfl rfl rfl rfl rfl rfl ⟨rfl, rfl, rfl, rfl, rfl⟩ rfl rfl rfl rfl rfl (by kernel_rfl) Yba.func5 (by kernel_rfl)
    (of_decide_eq_true (by kernel_rfl)) (by unfold Func.isWrapper; first | (rw [if_pos (by decide +kernel)]; kernel_rfl) | (rw [if_neg (by decide +kernel)]; exact ⟨rfl, rfl⟩))
    (fun os started H enc _ => lifted os started H enc)

/-- THE STATEMENT -/
theorem proved : Rows.LawS0652BMinSaid := over
end Go.Proofs.Ybulkmmc.lawS0652BMin
