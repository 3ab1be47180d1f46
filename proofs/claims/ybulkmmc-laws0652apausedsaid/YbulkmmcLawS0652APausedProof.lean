/-
  The proof of 'Rows.LawS0652APausedSaid': the frame is the guide's shell.
-/
import Derived.Test.YbulkmmcAex
import Derived.WalkKit
import Derived.ProofKit
import Derived.OpenShut
import Derived.ShutString
namespace Go.Proofs.Ybulkmmc.lawS0652APaused
open Go.ChangeShapes Go.WideShapes Go.ChangeAt Go.RowKit
open Go.ChangeMaps (open_string shut_string)
set_option linter.unusedVariables false      -- a walk need not use every 'w<i>' (that an integer argument fits its kind)

theorem own : ownKnob Yba.prog.godebug = none := by kernel_rfl

/-! ### STEP 1: THE WALK: the Go text returns true. 'Grown w w'': the world has at most new blocks (Derived/RowKit3.lean). Part the cases AHEAD of 'go_enter' where a test parts the walk; take each callee by a contract of your own. -/
theorem walk (a0 : Int) (a1 : Int) (a2 : Int) (a3 : Int) (w0 : (Lit.int .i64 a0).wf = true) (w1 : (Lit.int .i64 a1).wf = true) (w2 : (Lit.int .i64 a2).wf = true) (w3 : (Lit.int .i64 a3).wf = true) (w : World) :
    Calls Yba.prog 4 #[.int .i64 a0, .int .i64 a1, .int .i64 a2, .int .i64 a3] w fun e w' => e = .returned (.bool true) ∧ Grown w w' := by
  have fin : ∀ (e : Ending) (w' : World), (e = .returned (.bool true) ∧ w' = w) → (e = .returned (.bool true) ∧ Grown w w') := fun e w' h => ⟨h.1, by rw [h.2]; exact Grown.refl _⟩
  have fin' : ∀ (e : Ending) (w' : World), (e = .returned (.bool true) ∧ ∃ l p f, w' = w.alloc (bud l p f)) → (e = .returned (.bool true) ∧ Grown w w') := fun e w' h => by
    obtain ⟨h1, l, p, f, rfl⟩ := h
    exact ⟨h1, (Grown.refl _).alloc _ _⟩
  by_cases g0 : ¬ InB a0
  · exact (apa_out0 a0 a1 a2 a3 w g0).mono fin
  have h0 := Decidable.not_not.1 g0
  by_cases g1 : ¬ InB a1
  · exact (apa_out1 a0 a1 a2 a3 w h0 g1).mono fin
  have h1 := Decidable.not_not.1 g1
  by_cases g2 : ¬ InB a2
  · exact (apa_out2 a0 a1 a2 a3 w h0 h1 g2).mono fin
  have h2 := Decidable.not_not.1 g2
  by_cases g3 : ¬ InB a3
  · exact (apa_out3 a0 a1 a2 a3 w h0 h1 h2 g3).mono fin
  have h3 := Decidable.not_not.1 g3
  by_cases hx : a1 ≤ 0
  · exact (apa_no a0 a1 a2 a3 w h0 h1 h2 h3 hx).mono fin'
  by_cases hb : a2 < a0 + 250000 + a1
  · by_cases hl : a1 ≤ a3
    · exact (apa_less1 a0 a1 a2 a3 w h0 h1 h2 h3 (by omega) hb hl).mono fin'
    · exact (apa_past1 a0 a1 a2 a3 w h0 h1 h2 h3 (by omega) hb (by omega)).mono fin'
  · by_cases hl : (a2 - (a0 + 250000 + a1)) / 4 + a1 ≤ a3
    · exact (apa_less2 a0 a1 a2 a3 w h0 h1 h2 h3 (by omega) (by omega) hl).mono fin'
    · exact (apa_past2 a0 a1 a2 a3 w h0 h1 h2 h3 (by omega) (by omega) (by omega)).mono fin'

/-! ### THE ROW's STEP: WRITTEN OUT: LEAVE IT -/
set_option maxRecDepth 100000 in
theorem lifted (os : Os) (started : os.Started) (H : Type) (enc : TypeId × Value → H) :
    ReturnsInHanded {} Yba.checked os 4 .any (Rows.lawS0652APausedSpec.pre6 enc Yba.prog Yba.f4 Rows.lawS0652APausedRow.domain false) (Rows.lawS0652APausedSpec.post enc Yba.prog Yba.f4 false true false false) := by
  refine returnsInHanded_of_change (C := Yba.checked) own started (by kernel_rfl) Yba.func4
    (ChangeSpec.witness6 (enc := enc) (C := Yba.checked) false ⟨#[], #[.int .i64 0, .int .i64 0, .int .i64 0, .int .i64 0], []⟩ 8 (by kernel_rfl) (by kernel_rfl) (by kernel_rfl) (by kernel_rfl)) ?_
  intro W base args ds gs before hval0 hW hcnd _
  have hval : ∀ (j : Nat) t v, Yba.f4.params[j]? = some t → args[j]? = some v → Value.okWide Yba.prog W .any base t v := hval0
  have hW' := hW
  obtain ⟨p, q, hA0, hV, rfl, hfz, hnd⟩ := hW
  have hA : DataW.TrodAll enc Yba.prog W 0 (fun _ => true) true Yba.f4.params.toList args.toList ds p := hA0
  rw [Yba.params4] at hA hval
  obtain ⟨v0, vs0, d0, ds0, p0, q0, hargs, rfl, rfl, h0, r0⟩ := trodAll_cons hA
  obtain ⟨v1, vs1, d1, ds1, p1, q1, rfl, rfl, rfl, h1, r1⟩ := trodAll_cons r0
  obtain ⟨v2, vs2, d2, ds2, p2, q2, rfl, rfl, rfl, h2, r2⟩ := trodAll_cons r1
  obtain ⟨v3, vs3, d3, ds3, p3, q3, rfl, rfl, rfl, h3, r3⟩ := trodAll_cons r2
  obtain ⟨rfl, rfl, rfl⟩ := trodAll_nil r3
  obtain rfl : args = #[v0, v1, v2, v3] := by cases args; simp_all
  obtain ⟨rfl, rfl⟩ := trodVars_none hV
  obtain ⟨a0, rfl, rfl, rfl, w0⟩ := open_int Yba.underlying2 (hval 0 2 v0 rfl rfl) h0
  obtain ⟨a1, rfl, rfl, rfl, w1⟩ := open_int Yba.underlying2 (hval 1 2 v1 rfl rfl) h1
  obtain ⟨a2, rfl, rfl, rfl, w2⟩ := open_int Yba.underlying2 (hval 2 2 v2 rfl rfl) h2
  obtain ⟨a3, rfl, rfl, rfl, w3⟩ := open_int Yba.underlying2 (hval 3 2 v3 rfl rfl) h3
  clear hA0 hval0
  simp only [List.append_nil] at hW'
  refine (walk a0 a1 a2 a3 w0 w1 w2 w3 W).mono fun e W' ⟨he, hg⟩ => ?_
  subst he
  exact ⟨_, rfl, post_of_same (pa := []) (pv := []) hW' (fun _ _ _ => (trodAll_cons_mk (shut_bool Yba.underlying4 _) trodAll_mk0)) (fun sp _ => (trodAll_cons_mk (shut_int Yba.underlying2 w0) (trodAll_cons_mk (shut_int Yba.underlying2 w1) (trodAll_cons_mk (shut_int Yba.underlying2 w2) (trodAll_cons_mk (shut_int Yba.underlying2 w3) trodAll_mk0))))) (fun _ _ => rfl) rfl
    (hg.frame _) hg.2.1 (ok_one (by kernel_rfl) rfl (okWide_bool_mk Yba.underlying4 _))⟩

theorem over : Rows.lawS0652APausedRow.holds Yba.pinned (OpenSpec.ofChange Rows.lawS0652APausedSpec) :=
  OpenClaim.holds_of_wide 4 Yba.f4 rfl rfl rfl rfl rfl rfl rfl ⟨rfl, rfl, rfl, rfl, rfl⟩ rfl rfl rfl rfl rfl (by kernel_rfl) Yba.func4 (by kernel_rfl)
    (of_decide_eq_true (by kernel_rfl)) (by unfold Func.isWrapper; first | (rw [if_pos (by decide +kernel)]; kernel_rfl) | (rw [if_neg (by decide +kernel)]; exact ⟨rfl, rfl⟩))
    (fun os started H enc _ => lifted os started H enc)

/-- ████ THE STATEMENT ████ -/
theorem proved : Rows.LawS0652APausedSaid :=
  over
end Go.Proofs.Ybulkmmc.lawS0652APaused
