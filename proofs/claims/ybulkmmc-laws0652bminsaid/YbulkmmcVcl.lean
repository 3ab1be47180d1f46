/-
  The virtual clock: the least of the holders' virtual runtimes and the front waiter's.
-/
import Derived.Test.YbulkmmcVck
namespace Go.Proofs.Ybulkmmc
open Go.RowKit

def Grp (w : World) (b : Nat) (r s u : Int) : Prop := w.cell? ⟨b, 14, none⟩ = some (.float .f64 (floatOfInt .f64 r)) ∧ w.cell? ⟨b, 3, none⟩ = some (.int .i64 s) ∧ w.cell? ⟨b, 2, none⟩ = some (.float .f64 (Flt.wt u))

/-- the virtual runtime of holder i at now -/
def val (R S U : Nat → Int) (now : Int) (i : Nat) : Nat := Flt.vb (R i) (IntKind.i64.wrap (now - S i)) (U i)

/-- what the front of the queue is: nil, or a group whose virtual runtime is the word x -/
def IsFront (w : World) (p : Value) (x : Option Nat) : Prop :=
  (p = .pointer none ∧ x = none) ∨ ∃ fb y, p = .pointer (some ⟨fb, 0, none⟩) ∧ x = some y ∧ Flt.NN Flt.F y ∧ w.cell? ⟨fb, 14, none⟩ = some (.float .f64 y)

def least (k : Int) : Option Nat → Int
  | none => k
  | some y => min k (Flt.key Flt.F y)

theorem vrt_at {w : World} {b : Nat} {r s u now : Int} (h : Grp w b r s u) (hr : -2147483648 ≤ r ∧ r ≤ 2147483647) (q : Nat) :
    Calls Yba.prog 18 #[.pointer (some ⟨b, 0, none⟩), .int .i64 now] (w.drewN q) fun e w' => e = .returned (.float .f64 (Flt.vb r (IntKind.i64.wrap (now - s)) u)) ∧ w' = w.drewN (q + 1) :=
  vrt_any b r s u now hr.1 hr.2 (w.drewN q) h.1 h.2.1 h.2.2

theorem vclock_nil (sb : Nat) (a : Option Addr) (c : Nat) (now : Int) (w : World) (hH : w.cell? ⟨sb, 15, none⟩ = some (.slice a 0 c)) :
    Calls Yba.prog 13 #[.pointer (some ⟨sb, 0, none⟩), .int .i64 now] w fun e w' => e = .returned (.float .f64 0) ∧ w' = w := by
  go_enter Yba.func13, Yba.ntmps13
  go_wp2_with fail
  go_ret
  exact ⟨rfl, rfl⟩

theorem vclock_some (sb hb n c : Nat) (gs : Nat → Nat) (R S U : Nat → Int) (now : Int) (p : Value) (x : Option Nat) (w : World) (hn : 0 < n) (hn' : n ≤ 1024) (hnc : n ≤ c)
    (hH : w.cell? ⟨sb, 15, none⟩ = some (.slice (some ⟨hb, 0, none⟩) n c))
    (hE : ∀ i, i < n → w.cell? ⟨hb, i, none⟩ = some (.pointer (some ⟨gs i, 0, none⟩)))
    (hG : ∀ i, i < n → Grp w (gs i) (R i) (S i) (U i)) (hR : ∀ i, i < n → -2147483648 ≤ R i ∧ R i ≤ 2147483647)
    (hF : ∀ q, Calls Yba.prog 19 #[.pointer (some ⟨sb, 16, none⟩)] (w.drewN q) fun e w' => e = .returned p ∧ w' = w.drewN q) (hx : IsFront w p x) :
    Calls Yba.prog 13 #[.pointer (some ⟨sb, 0, none⟩), .int .i64 now] w fun e w' => ∃ v q, e = .returned (.float .f64 v) ∧ w' = w.drewN q ∧ Flt.NN Flt.F v ∧ Flt.key Flt.F v = least (Flt.lo (val R S U now) (n - 1)) x := by
  have h0 : ((n : Int) == 0) = false := by simp; omega
  have hE0 := hE 0 hn
  have HG : Hid (∀ i, i < n → Grp w (gs i) (R i) (S i) (U i)) := hG
  have HE : Hid (∀ i, i < n → w.cell? ⟨hb, i, none⟩ = some (.pointer (some ⟨gs i, 0, none⟩))) := hE
  have HR : Hid (∀ i, i < n → -2147483648 ≤ R i ∧ R i ≤ 2147483647) := hR
  have HF : Hid (∀ q, Calls Yba.prog 19 #[.pointer (some ⟨sb, 16, none⟩)] (w.drewN q) fun e w' => e = .returned p ∧ w' = w.drewN q) := hF
  have HX : Hid (IsFront w p x) := hx
  clear hG hE hR hF hx
  go_enter Yba.func13, Yba.ntmps13
  go_wp2_with fail
  refine (vrt_at (HG.out 0 hn) (HR.out 0 hn) 0).mono ?_
  rintro e w' ⟨rfl, rfl⟩
  go_wp2_with fail
  all_goals
    go_loopw [5, 29] (fun v i wr => ∃ k m q : Nat, k ≤ n - 1 ∧ i = .int .i64 k ∧ v = .float .f64 m ∧ Flt.NN Flt.F m ∧ Flt.key Flt.F m = Flt.lo (val R S U now) k ∧ wr = w.drewN q) (fun _ i _ => n - (intOf i).toNat)
    case atStart => exact ⟨0, _, 1, Nat.zero_le _, rfl, rfl, (Flt.vb_eq _ _ _ (HR.out 0 hn).1 (HR.out 0 hn).2).2, rfl, rfl⟩
    case round =>
      obtain ⟨k, m, q, hk, rfl, rfl, hnn, hkey, rfl⟩ := hrel
      have HK : Hid (Flt.key Flt.F m = Flt.lo (val R S U now) k) := hkey
      have HN : Hid (Flt.NN Flt.F m) := hnn
      clear hkey hnn
      by_cases hlt : k < n - 1
      · first
        | (exfalso; omega)
        | have hEk := HE.out (1 + k) (by omega)
          have hnv := (Flt.vb_eq (R (1 + k)) (IntKind.i64.wrap (now - S (1 + k))) (U (1 + k)) (HR.out (1 + k) (by omega)).1 (HR.out (1 + k) (by omega)).2).2
          have hmin := fun (w : World) => Flt.run_min (P := Yba.prog) #[65, 65] 65 m _ HN.out hnv w
          have HM : Hid (Flt.NN Flt.F (Flt.fmin m (Flt.vb (R (1 + k)) (wrap64 (now - S (1 + k))) (U (1 + k)))) ∧ Flt.key Flt.F (Flt.fmin m (Flt.vb (R (1 + k)) (wrap64 (now - S (1 + k))) (U (1 + k)))) = Flt.lo (val R S U now) (k + 1)) := by
            rw [← IntWalk.i64_left]
            have e := Flt.fmin_key m _ HN.out hnv
            refine ⟨e.2, ?_⟩
            rw [e.1, HK.out, Nat.add_comm 1 k]
            rfl
          clear hnv
          go_wp2_with (go_at_call 18; refine (vrt_at (HG.out (1 + k) (by omega)) (HR.out (1 + k) (by omega)) q).mono ?_; rintro e w' ⟨rfl, rfl⟩)
          go_roundw
          case rel => exact ⟨k + 1, _, q + 1, by omega, by go_num, rfl, HM.out.1, HM.out.2, rfl⟩
          case measure => simp [intOf]; omega
      · have hkn : k = n - 1 := by omega
        rw [hkn] at HK
        clear hkn
        go_wp2_with fail
        refine (HF.out q).mono ?_
        rintro e w' ⟨rfl, rfl⟩
        rcases HX.out with ⟨rfl, rfl⟩ | ⟨fb, y, rfl, rfl, hy, hc⟩
        · go_wp2
          go_ret
          exact ⟨m, q, rfl, rfl, HN.out, HK.out⟩
        · have hmin := fun (w : World) => Flt.run_min (P := Yba.prog) #[65, 65] 65 m y HN.out hy w
          have HM : Hid (Flt.NN Flt.F (Flt.fmin m y) ∧ Flt.key Flt.F (Flt.fmin m y) = min (Flt.lo (val R S U now) (n - 1)) (Flt.key Flt.F y)) := by
            have e := Flt.fmin_key m y HN.out hy
            exact ⟨e.2, by rw [e.1, HK.out]⟩
          go_wp2
          go_ret
          exact ⟨_, q, rfl, rfl, HM.out.1, HM.out.2⟩
end Go.Proofs.Ybulkmmc
