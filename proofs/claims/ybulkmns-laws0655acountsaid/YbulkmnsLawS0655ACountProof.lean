/-
  The proof of 'Rows.LawS0655ACountSaid': the frame after the guide's shell for slices.
-/
import Derived.Test.YbulkmnsLaw
import Derived.Test.YbulkmnsOpn
import Derived.ProofKit
import Derived.OpenShut
import Derived.ChangeOld
import Derived.Below
namespace Go.Proofs.Ybulkmns.lawS0655ACount
open Go.ChangeShapes Go.WideShapes Go.ChangeAt Go.RowKit
set_option linter.unusedVariables false

theorem own : ownKnob Yba.prog.godebug = none := by kernel_rfl
theorem laidOut : laidOutB Yba.prog = true := by kernel_rfl

set_option maxRecDepth 100000 in
theorem big (v0 v1 : Value) (cs : Array Value) (hv : v1 = .agg cs) (a : Option Addr) (n c : Nat) (w : World) (h : 1024 < n) :
    Calls Yba.prog 3 #[v0, v1, .slice a n c] w fun e w' => e = .returned (.bool true) ∧ Below w.heap.size w w' := by
  subst hv
  have t1 : decide ((1024 : Int) < (n : Int)) = true := by simp; omega
  go_enter Yba.func3, Yba.ntmps3
  go_wp2_with (first | refine wpList_box rfl 22 (.tmp 1) _ rfl rfl ?_)
  go_ret
  exact ⟨rfl, (Below.refl _ _).alloc (Nat.le_refl _) _⟩

theorem walk (n : Nat) (hn : n < 256) (x : Nat → Nat) (hx : ∀ j, x j < 256) (a : Option Addr) (len cap : Nat) (who vws prp : Nat → Nat) (w : World) (hs : IsStp w a len who vws prp) :
    Calls Yba.prog 3 #[.int .u8 n, .agg #[.int .u8 (x 0), .int .u8 (x 1), .int .u8 (x 2), .int .u8 (x 3)], .slice a len cap] w fun e w' => e = .returned (.bool true) ∧ Below w.heap.size w w' := by
  by_cases hb : 1024 < len
  · exact big _ _ _ rfl a len cap w hb
  · exact law_main n hn x hx a len cap who vws prp w (by omega) hs

set_option maxRecDepth 100000 in
theorem lifted (os : Os) (started : os.Started) (H : Type) (enc : TypeId × Value → H) :
    ReturnsInHanded {} Yba.checked os 3 .any (Rows.lawS0655ACountSpec.pre6 enc Yba.prog Yba.f3 Rows.lawS0655ACountRow.domain false) (Rows.lawS0655ACountSpec.post enc Yba.prog Yba.f3 false true false false) := by
  refine returnsInHanded_of_change (C := Yba.checked) own started (by kernel_rfl) Yba.func3
    (ChangeSpec.witness6 (enc := enc) (C := Yba.checked) false ⟨#[], #[.int .u8 0, .agg #[.int .u8 0, .int .u8 0, .int .u8 0, .int .u8 0], .slice none 0 0], []⟩ 8 (by kernel_rfl) (by kernel_rfl) (by kernel_rfl) (by kernel_rfl)) ?_
  intro W base args ds gs before hval0 hW hcnd _
  have hval : ∀ (j : Nat) t v, Yba.f3.params[j]? = some t → args[j]? = some v → Value.okWide Yba.prog W .any base t v := hval0
  have hW' := hW
  obtain ⟨p, q, hA0, hV, rfl, hfz, hnd⟩ := hW
  have hA : DataW.TrodAll enc Yba.prog W 0 (fun _ => true) true Yba.f3.params.toList args.toList ds p := hA0
  rw [Yba.params3] at hA hval
  obtain ⟨v0, vs0, d0, ds0, p0, q0, hargs, rfl, rfl, h0, r0⟩ := trodAll_cons hA
  obtain ⟨v1, vs1, d1, ds1, p1, q1, rfl, rfl, rfl, h1, r1⟩ := trodAll_cons r0
  obtain ⟨v2, vs2, d2, ds2, p2, q2, rfl, rfl, rfl, h2, r2⟩ := trodAll_cons r1
  obtain ⟨rfl, rfl, rfl⟩ := trodAll_nil r2
  obtain rfl : args = #[v0, v1, v2] := by cases args; simp_all
  obtain ⟨rfl, rfl⟩ := trodVars_none hV
  obtain ⟨n0, rfl, rfl, rfl, wf0⟩ := open_int Yba.underlying5 (hval 0 5 v0 rfl rfl) h0
  have hb0 := bounds_u8 wf0
  obtain ⟨n, rfl⟩ : ∃ n : Nat, n0 = (n : Int) := ⟨n0.toNat, by omega⟩
  have k1 := h1
  have lt1 : ∀ x ∈ p1, x.block < W.heap.size := by obtain ⟨m, hm⟩ := k1; exact DataW.trod_lt m _ _ _ hm
  obtain ⟨x, hx, rfl⟩ := open_four (hval 1 22 v1 rfl rfl) h1
  obtain ⟨a2, len2, cap2, rfl⟩ := okWide_slice Yba.underlying23 (hval 2 23 v2 rfl rfl)
  have k2 := h2
  have lt2 : ∀ x ∈ p2, x.block < W.heap.size := by obtain ⟨m, hm⟩ := k2; exact DataW.trod_lt m _ _ _ hm
  obtain ⟨who, vws, prp, w2⟩ := open_steps h2
  clear hA0 hval0
  refine (walk n (by omega) x hx a2 len2 cap2 who vws prp W w2).mono fun e W' ⟨he, bel⟩ => ?_
  subst he
  exact ⟨_, rfl, _, _, _, [], _, [], hW', trodAll_mk1 (shut_bool Yba.underlying4 _), (trodAll_cons_mk (shut_int Yba.underlying5 wf0) (trodAll_cons_mk (Below.trod laidOut (by kernel_rfl) (of_decide_eq_true (by kernel_rfl)) k1 bel lt1) (trodAll_cons_mk (Below.trod laidOut (by kernel_rfl) (of_decide_eq_true (by kernel_rfl)) k2 bel lt2) trodAll_mk0))), rfl, bel.frame _, fun h => by cases h⟩

theorem over : Rows.lawS0655ACountRow.holds Yba.pinned (OpenSpec.ofChange Rows.lawS0655ACountSpec) :=
  OpenClaim.holds_of_wide 3 Yba.f3 rfl rfl rfl rfl rfl rfl rfl ⟨rfl, rfl, rfl, rfl, rfl⟩ rfl rfl rfl rfl rfl (by kernel_rfl) Yba.func3 (by kernel_rfl)
    (of_decide_eq_true (by kernel_rfl)) (by unfold Func.isWrapper; first | (rw [if_pos (by decide +kernel)]; kernel_rfl) | (rw [if_neg (by decide +kernel)]; exact ⟨rfl, rfl⟩))
    (fun os started H enc _ => lifted os started H enc)

/-- THE STATEMENT -/
theorem proved : Rows.LawS0655ACountSaid := over
end Go.Proofs.Ybulkmns.lawS0655ACount
