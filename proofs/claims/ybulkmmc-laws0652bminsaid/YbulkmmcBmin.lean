/-
  LawS0652BMin: the walk.
-/
import Derived.Test.YbulkmmcClk
namespace Go.Proofs.Ybulkmmc
open Go.RowKit
attribute [local go_sem ↓] Go.wp_at_zero Go.wp_at_succ

theorem Yba.info63 : (Yba.prog.info? 63).map (fun i => (i.zero, i.size, i.bytes)) = some (some (.pointer none), 1, 8) := by kernel_rfl

/-- a slice of holders that came in -/
def IsHs (w : World) (a : Option Addr) (n : Nat) (R S U : Nat → Int) : Prop :=
  n = 0 ∨ ∃ b o, a = some ⟨b, o, none⟩ ∧ b < w.heap.size ∧ ∀ i, i < n → w.cell? ⟨b, o + i * 3, none⟩ = some (.int .i32 (R i)) ∧ w.cell? ⟨b, o + i * 3 + 1, none⟩ = some (.int .i64 (S i)) ∧
    w.cell? ⟨b, o + i * 3 + 2, none⟩ = some (.int .u8 (U i)) ∧ 0 ≤ U i ∧ -2147483648 ≤ R i ∧ R i ≤ 2147483647
/-- a slice of int32 that came in -/
def IsQs (w : World) (a : Option Addr) (n : Nat) (Q : Nat → Int) : Prop :=
  n = 0 ∨ ∃ b o, a = some ⟨b, o, none⟩ ∧ b < w.heap.size ∧ ∀ i, i < n → w.cell? ⟨b, o + i, none⟩ = some (.int .i32 (Q i))

theorem lo_pos (v : Nat → Nat) (j : Nat) (h : 0 < j) : Flt.lo v j = min (Flt.lo v (j - 1)) (Flt.key Flt.F (v j)) := by
  obtain ⟨i, rfl⟩ : ∃ i, j = i + 1 := ⟨j - 1, by omega⟩
  rfl

theorem lo_first {v : Nat → Nat} {j y : Nat} (hj : j = 0) (hv : y = v j) : Flt.key Flt.F y = Flt.lo v (1 - 1) := by
  subst hj; rw [hv]; rfl
theorem lo_less {v : Nat → Nat} {j y z : Nat} (hj : ¬ j = 0) (hv : y = v j) (hz : Flt.key Flt.F z = Flt.lo v (j - 1)) (hc : Flt.key Flt.F y < Flt.key Flt.F z) : Flt.key Flt.F y = Flt.lo v (j + 1 - 1) := by
  rw [Nat.add_sub_cancel, lo_pos v j (by omega), ← hz, ← hv]; omega
theorem lo_more {v : Nat → Nat} {j y z : Nat} (hj : ¬ j = 0) (hv : y = v j) (hz : Flt.key Flt.F z = Flt.lo v (j - 1)) (hc : ¬ Flt.key Flt.F y < Flt.key Flt.F z) : Flt.key Flt.F z = Flt.lo v (j + 1 - 1) := by
  rw [Nat.add_sub_cancel, lo_pos v j (by omega), ← hz, ← hv]; omega

theorem Sch.drewN {B : Nat} {wr : World} {v q : Value} (h : Sch B wr v q) (n : Nat) : Sch B (wr.drewN n) v q := h

set_option maxRecDepth 100000 in
set_option maxHeartbeats 4000000 in
theorem bmin_main (a1 a2 : Option Addr) (n1 c1 n2 c2 : Nat) (now : Int) (w : World) (R S U Q : Nat → Int) (hn1 : n1 ≤ 1024) (hn2 : n2 ≤ 1024) (h1 : IsHs w a1 n1 R S U) (h2 : IsQs w a2 n2 Q) :
    Calls Yba.prog 5 #[.slice a1 n1 c1, .slice a2 n2 c2, .int .i64 now] w fun e w' => e = .returned (.bool true) ∧ Below w.heap.size w w' := by
  obtain ⟨i0, hi, hz0, hz1, hz2⟩ := info_parts Yba.info63
  obtain ⟨cs, hb, h15, h16⟩ := sched_ex
  have HB : Hid (∀ w : World, (Instr.build 62 #[]).run Yba.prog w = .ok (.agg cs) w) := hb
  have H1 : Hid (IsHs w a1 n1 R S U) := h1
  have H2 : Hid (IsQs w a2 n2 Q) := h2
  have HI : Hid (Yba.prog.info? 63 = some i0 ∧ i0.zero = some (.pointer none) ∧ i0.size = 1 ∧ i0.bytes = 8) := ⟨hi, hz0, hz1, hz2⟩
  clear hb h1 h2 hi hz0 hz1 hz2
  have t1 : decide ((1024 : Int) < (n1 : Int)) = false := by simp; omega
  have t2 : decide ((1024 : Int) < (n2 : Int)) = false := by simp; omega
  have g13 : ∀ (x y : Nat) (s i : Int), (gcells x y s i)[13]? = some (.int .i64 i) := fun _ _ _ _ => rfl
  have gset : ∀ (x y : Nat) (s i j : Int), (gcells x y s i).setIfInBounds 13 (.int .i64 j) = gcells x y s j := fun _ _ _ _ _ => rfl
  go_enter Yba.func5, Yba.ntmps5
  go_wp2_with (first | refine wpList_build62 HB.out rfl rfl ?_ | refine wpList_box62 rfl _ cs rfl rfl ?_)
  go_loopw [8] (fun i wr => ∃ (k : Nat) (L : List Nat) (v : Value), k ≤ n1 ∧ i = .int .i64 k ∧ Made w R S U k wr L v ∧ Sch w.heap.size wr v (.slice none 0 0)) (fun i _ => n1 - (intOf i).toNat)
  case atStart =>
    refine ⟨0, [], .slice none 0 0, Nat.zero_le _, rfl, ⟨rfl, World.ownsRow_nil _ _ _ _, (Below.refl _ _).alloc (Nat.le_refl _) _, by simp, fun j hj => by omega, fun j hj => by omega⟩, ?_⟩
    exact ⟨by simp [h15], by simp, by simp [h16], by simp⟩
  case round =>
    clear h15 h16
    obtain ⟨k, L, v, hk, rfl, hm, hc15, hf15, hc16, hf16⟩ := hrel
    have HSC : Hid (Sch w.heap.size wr v (.slice none 0 0)) := ⟨hc15, hf15, hc16, hf16⟩
    have HM : Hid (Made w R S U k wr L v) := hm
    have hsz := hm.size
    by_cases hlt : k < n1
    · rcases H1.out with h0 | ⟨b1, o1, rfl, hb1, hcs⟩
      · omega
      have x0 : wr.cell? ⟨b1, o1 + k * 3, none⟩ = some (.int .i32 (R k)) := (hm.bel.cell (by exact hb1)).trans (hcs k hlt).1
      have x1 : wr.cell? ⟨b1, o1 + k * 3 + 1, none⟩ = some (.int .i64 (S k)) := (hm.bel.cell (by exact hb1)).trans (hcs k hlt).2.1
      have x2 : wr.cell? ⟨b1, o1 + k * 3 + 2, none⟩ = some (.int .u8 (U k)) := (hm.bel.cell (by exact hb1)).trans (hcs k hlt).2.2.1
      have hu0 := (hcs k hlt).2.2.2.1
      have hlt' : (k : Int) < (n1 : Int) := by omega
      have hk0 : (0 : Int) ≤ (k : Int) := by omega
      clear hm hcs
      go_wp2_with fail
      go_region_held3 (fun w' => w'.cell? ⟨b1, o1 + k * 3, none⟩ = some (.int .i32 (R k)) ∧ w'.cell? ⟨b1, o1 + k * 3 + 1, none⟩ = some (.int .i64 (S k)) ∧ w'.cell? ⟨b1, o1 + k * 3 + 2, none⟩ = some (.int .u8 (U k))) (go_keep)
        (first | (go_at_call 12; refine (weight_any (U k) hu0 _).mono ?_; rintro e w' ⟨rfl, rfl⟩) | (go_at_call 11; refine (group_any _ _ _ _).mono ?_; rintro e w' ⟨rfl, rfl⟩))
      go_wp2_with (at_builtin; refine wpList_append_lies _ rfl _ _ 53 rfl (w.heap.size + 1) 63 i0 (.pointer none) 1 8 Yba.underlying53 HI.out.1 HI.out.2.1 HI.out.2.2.1 HI.out.2.2.2 rfl (by decide) v k (L.map Ptr) rfl ((Two.mk1 _ _ _).owns HM.out.own) ⟨wr.heap.size + 1, 0, none⟩ 1 1 [Ptr wr.heap.size] rfl rfl (Two.mk1 _ _ _).news ?d1 (by decide) ?d2 ?d3 ?d4 _ rfl ?_)
      case d1 => intro u hu; simp at hu; subst hu; rfl
      case d2 => unfold maxLen; omega
      case d3 => omega
      case d4 => simp; omega
      intro g cap w1 hown1 hgrow _ _
      have HST : Hid (Made w R S U (k + 1) (w1.setCell ⟨w.heap.size, 15, none⟩ (.slice (some ⟨g, 0, none⟩) (k + 1) cap)) (L ++ [wr.heap.size]) (.slice (some ⟨g, 0, none⟩) (k + 1) cap) ∧
        Sch w.heap.size (w1.setCell ⟨w.heap.size, 15, none⟩ (.slice (some ⟨g, 0, none⟩) (k + 1) cap)) (.slice (some ⟨g, 0, none⟩) (k + 1) cap) (.slice none 0 0)) := made_step HM.out HSC.out (Two.mk1 _ _ _) hown1 hgrow
      obtain ⟨_, _, _, m4, m5, _⟩ := step_heap (B := w.heap.size) (o := 15) (u := .slice none 0 0) (Two.mk1 _ _ _) HM.out.own (by omega) hsz hgrow
      have y15 := (m4 15).trans hc15
      have z15 := (m5 15).trans hf15
      clear hown1 hgrow m4 m5 hc15 hf15 hc16 hf16 x0 x1 x2
      go_wp2_with fail
      go_roundw
      case rel => exact ⟨k + 1, _, _, by omega, by go_num, HST.out.1, HST.out.2⟩
      case measure => simp [intOf]; omega
    · have hkn : k = n1 := by omega
      subst hkn
      clear hlt hk hm hc15 hf15 hc16 hf16
      obtain ⟨wa, rfl⟩ : ∃ wa, wa = wr := ⟨_, rfl⟩
      go_wp2_with fail
      go_loopw [10] (fun i wq => ∃ (m : Nat) (L2 : List Nat) (q : Value), m ≤ n2 ∧ i = .int .i64 m ∧ Qued w wa Q m wq L2 q ∧ Sch w.heap.size wq v q) (fun i _ => n2 - (intOf i).toNat)
      case atStart =>
        exact ⟨0, [], .slice none 0 0, Nat.zero_le _, rfl, ⟨rfl, World.ownsRow_nil _ _ _ _, HM.out.bel, Nat.le_refl _, fun hj => by omega, fun hj => by omega, fun _ _ _ => rfl⟩, HSC.out⟩
      case round =>
        obtain ⟨m, L2, q, hm, rfl, hq, hc15, hf15, hc16, hf16⟩ := hrel
        have HSD : Hid (Sch w.heap.size wr v q) := ⟨hc15, hf15, hc16, hf16⟩
        have HQ : Hid (Qued w wa Q m wr L2 q) := hq
        have hsq := hq.size
        have hszr : w.heap.size < wr.heap.size := by omega
        by_cases hlt : m < n2
        · rcases H2.out with h0 | ⟨b2, o2, rfl, hb2, hcs⟩
          · omega
          have x0 : wr.cell? ⟨b2, o2 + m, none⟩ = some (.int .i32 (Q m)) := (hq.bel.cell (by exact hb2)).trans (hcs m hlt)
          have hlt' : (m : Int) < (n2 : Int) := by omega
          have hk0 : (0 : Int) ≤ (m : Int) := by omega
          clear hq hcs
          go_wp2_with (first | (go_at_call 11; refine (group_any _ _ _ _).mono ?_; rintro e w' ⟨rfl, rfl⟩) | (at_builtin; refine wpList_append_lies _ rfl _ _ 54 rfl wa.heap.size 63 i0 (.pointer none) 1 8 Yba.underlying54 HI.out.1 HI.out.2.1 HI.out.2.2.1 HI.out.2.2.2 rfl (by decide) q m (L2.map Ptr) rfl ((Two.mk0 _ _ _).owns HQ.out.own) ⟨wr.heap.size + 1, 0, none⟩ 1 1 [Ptr wr.heap.size] rfl rfl (Two.mk0 _ _ _).news ?f1 (by decide) ?f2 ?f3 ?f4 _ rfl ?_))
          case f1 => intro u hu; simp at hu; subst hu; rfl
          case f2 => unfold maxLen; omega
          case f3 => omega
          case f4 => simp; omega
          intro g cap w1 hown1 hgrow _ _
          have HST : Hid (Qued w wa Q (m + 1) (w1.setCell ⟨w.heap.size, 16, none⟩ (.slice (some ⟨g, 0, none⟩) (m + 1) cap)) (L2 ++ [wr.heap.size]) (.slice (some ⟨g, 0, none⟩) (m + 1) cap) ∧
            Sch w.heap.size (w1.setCell ⟨w.heap.size, 16, none⟩ (.slice (some ⟨g, 0, none⟩) (m + 1) cap)) v (.slice (some ⟨g, 0, none⟩) (m + 1) cap)) := qued_step hsz HQ.out HSD.out (Two.mk0 _ _ _) hown1 hgrow
          obtain ⟨_, _, _, m4, m5, _⟩ := step_heap (B := w.heap.size) (o := 16) (u := .slice none 0 0) (Two.mk0 _ _ _) HQ.out.own (by omega) (by omega) hgrow
          have y16 := (m4 16).trans hc16
          have z16 := (m5 16).trans hf16
          clear hown1 hgrow m4 m5 hc15 hf15 hc16 hf16 x0
          go_wp2_with fail
          go_roundw
          case rel => exact ⟨m + 1, _, _, by omega, by go_num, HST.out.1, HST.out.2⟩
          case measure => simp [intOf]; omega
        · have hmn : m = n2 := by omega
          subst hmn
          clear hlt hm hq hc15 hf15 hc16 hf16
          have hbel := HQ.out.bel
          go_wp2_with fail
          by_cases hk : k = 0
          · subst hk
            have he : (FloatKind.f64.format.order 0 0 == some Ordering.eq) = true := by decide +kernel
            refine (vclock_of_nil HM.out HSD.out now).mono ?_
            rintro e w' ⟨rfl, rfl⟩
            go_wp2_with fail
            go_ret
            exact ⟨rfl, hbel⟩
          · rcases H1.out with h0 | ⟨b1, o1, rfl, hb1, hcs⟩
            · exact absurd h0 hk
            have hk0 : ((k : Int) == 0) = false := by simp; omega
            refine (vclock_of HM.out HQ.out HSD.out (by omega) hn1 (fun i hi => (hcs i hi).2.2.2.2) now).mono ?_
            rintro e w' ⟨x, n, rfl, rfl, hx, hkx⟩
            have HX : Hid (Flt.NN Flt.F x) := hx
            have HK : Hid (Flt.key Flt.F x = least (Flt.lo (val R S U now) (k - 1)) (if m = 0 then none else some (floatOfInt .f64 (Q 0)))) := hkx
            have HCS : Hid (∀ i, i < k → w.cell? ⟨b1, o1 + i * 3, none⟩ = some (.int .i32 (R i)) ∧ w.cell? ⟨b1, o1 + i * 3 + 1, none⟩ = some (.int .i64 (S i)) ∧
              w.cell? ⟨b1, o1 + i * 3 + 2, none⟩ = some (.int .u8 (U i)) ∧ 0 ≤ U i ∧ -2147483648 ≤ R i ∧ R i ≤ 2147483647) := hcs
            clear hx hkx hcs
            obtain ⟨wb, rfl⟩ : ∃ wb, wb = wr := ⟨_, rfl⟩
            go_wp2_with fail
            go_loopw [13, 14] (fun y i wq => ∃ (j z r : Nat), j ≤ k ∧ i = .int .i64 j ∧ y = .float .f64 z ∧ wq = wb.drewN r ∧ (0 < j → Flt.NN Flt.F z ∧ Flt.key Flt.F z = Flt.lo (val R S U now) (j - 1))) (fun _ i _ => k - (intOf i).toNat)
            case atStart => exact ⟨0, 0, n, Nat.zero_le _, rfl, rfl, rfl, fun h => by omega⟩
            case round =>
              obtain ⟨j, z, r, hj, rfl, rfl, rfl, hz⟩ := hrel
              have HZ : Hid (0 < j → Flt.NN Flt.F z ∧ Flt.key Flt.F z = Flt.lo (val R S U now) (j - 1)) := hz
              clear hz
              by_cases hlt : j < k
              · have x0 : wb.cell? ⟨b1, o1 + j * 3, none⟩ = some (.int .i32 (R j)) := (hbel.cell (by exact hb1)).trans (HCS.out j hlt).1
                have x1 : wb.cell? ⟨b1, o1 + j * 3 + 1, none⟩ = some (.int .i64 (S j)) := (hbel.cell (by exact hb1)).trans (HCS.out j hlt).2.1
                have x2 : wb.cell? ⟨b1, o1 + j * 3 + 2, none⟩ = some (.int .u8 (U j)) := (hbel.cell (by exact hb1)).trans (HCS.out j hlt).2.2.1
                obtain ⟨hu0, hr1, hr2⟩ := (HCS.out j hlt).2.2.2
                have hj0 : (0 : Int) ≤ (j : Int) := by omega
                have hjk : (j : Int) < (k : Int) := by omega
                have HV : Hid (Flt.vb (R j) (wrap64 (now - S j)) (U j) = val R S U now j) := by show _ = Flt.vb _ _ _; rw [IntWalk.i64_left]
                have k1 := fun (w : World) => run_float_arith (P := Yba.prog) w .quo 65 .f64 _ _ _ (Flt.qd_eq (wrap64 (now - S j)) (U j)).1
                have k2 := fun (w : World) => run_float_arith (P := Yba.prog) w .add 65 .f64 _ _ _ (Flt.vb_eq (R j) (wrap64 (now - S j)) (U j) hr1 hr2).1
                have HNV : Hid (Flt.NN Flt.F (Flt.vb (R j) (wrap64 (now - S j)) (U j))) := (Flt.vb_eq (R j) (wrap64 (now - S j)) (U j) hr1 hr2).2
                clear hr1 hr2
                go_wp2_with fail
                go_region_held3 (fun w' => w'.cell? ⟨b1, o1 + j * 3, none⟩ = some (.int .i32 (R j)) ∧ w'.cell? ⟨b1, o1 + j * 3 + 2, none⟩ = some (.int .u8 (U j))) (go_keep)
                  (first | (go_at_call 12; refine (weight_any (U j) hu0 _).mono ?_; rintro e w' ⟨rfl, rfl⟩))
                clear x0 x1 x2 k1 k2
                by_cases hj1 : j = 0
                · have hje : ((j : Int) == 0) = true := by simp; omega
                  go_wp2_with fail
                  go_roundw
                  case rel => exact ⟨1, _, r + 1, by omega, rfl, rfl, rfl, fun _ => ⟨HNV.out, lo_first hj1 HV.out⟩⟩
                  case measure => simp [intOf]; omega
                · have hje : ((j : Int) == 0) = false := by simp; omega
                  obtain ⟨hzn, hzk⟩ := HZ.out (by omega)
                  have HZK : Hid (Flt.key Flt.F z = Flt.lo (val R S U now) (j - 1)) := hzk
                  have HZN : Hid (Flt.NN Flt.F z) := hzn
                  have hcmp := Flt.lt_iff _ z HNV.out hzn
                  clear hzn hzk
                  by_cases hc : Flt.key Flt.F (Flt.vb (R j) (wrap64 (now - S j)) (U j)) < Flt.key Flt.F z
                  · have HC : Hid (Flt.key Flt.F (Flt.vb (R j) (wrap64 (now - S j)) (U j)) < Flt.key Flt.F z) := hc
                    rw [decide_eq_true hc] at hcmp
                    clear hc
                    go_wp2_with fail
                    go_roundw
                    case rel => exact ⟨j + 1, _, r + 1, by omega, by go_num, rfl, rfl, fun _ => ⟨HNV.out, lo_less hj1 HV.out HZK.out HC.out⟩⟩
                    case measure => simp [intOf]; omega
                  · have HC : Hid (¬ Flt.key Flt.F (Flt.vb (R j) (wrap64 (now - S j)) (U j)) < Flt.key Flt.F z) := hc
                    rw [decide_eq_false hc] at hcmp
                    clear hc
                    go_wp2_with fail
                    go_roundw
                    case rel => exact ⟨j + 1, _, r + 1, by omega, by go_num, rfl, rfl, fun _ => ⟨HZN.out, lo_more hj1 HV.out HZK.out HC.out⟩⟩
                    case measure => simp [intOf]; omega
              · obtain ⟨hzn, hzk⟩ := HZ.out (by omega)
                rw [show j - 1 = k - 1 by omega] at hzk
                have HZK : Hid (Flt.key Flt.F z = Flt.lo (val R S U now) (k - 1)) := hzk
                have HZN : Hid (Flt.NN Flt.F z) := hzn
                have hbel' := below_drewN hbel r
                clear hzk hzn
                by_cases hm0 : m = 0
                · have hmt : decide ((0 : Int) < (m : Int)) = false := by simp; omega
                  have hfin : (FloatKind.f64.format.order x z == some .eq) = true := by
                    rw [Flt.eq_iff x z HX.out HZN.out, HK.out, HZK.out, if_pos hm0]; simp [least]
                  go_wp2_with fail
                  go_ret
                  exact ⟨rfl, hbel'⟩
                · have hmt : decide ((0 : Int) < (m : Int)) = true := by simp; omega
                  rcases H2.out with h0 | ⟨b2, o2, rfl, hb2, hcs⟩
                  · exact absurd h0 hm0
                  have x0 : wb.cell? ⟨b2, o2, none⟩ = some (.int .i32 (Q 0)) := (hbel.cell (by exact hb2)).trans (hcs 0 (by omega))
                  have HK2 : Hid (Flt.key Flt.F x = min (Flt.key Flt.F z) (Flt.key Flt.F (floatOfInt .f64 (Q 0)))) := by
                    show _ = _
                    rw [HK.out, HZK.out, if_neg hm0]; rfl
                  have hcmp := Flt.lt_iff (floatOfInt .f64 (Q 0)) z (Flt.nn_int _) HZN.out
                  have hm1 : (0 : Int) < (m : Int) := by omega
                  clear hcs hbel
                  by_cases hc : Flt.key Flt.F (floatOfInt .f64 (Q 0)) < Flt.key Flt.F z
                  · rw [decide_eq_true hc] at hcmp
                    have hfin : (FloatKind.f64.format.order x (floatOfInt .f64 (Q 0)) == some .eq) = true := by
                      rw [Flt.eq_iff x _ HX.out (Flt.nn_int _), HK2.out]; simp; omega
                    clear hc
                    go_wp2_with fail
                    go_ret
                    exact ⟨rfl, hbel'⟩
                  · rw [decide_eq_false hc] at hcmp
                    have hfin : (FloatKind.f64.format.order x z == some .eq) = true := by
                      rw [Flt.eq_iff x _ HX.out HZN.out, HK2.out]; simp; omega
                    clear hc
                    go_wp2_with fail
                    go_ret
                    exact ⟨rfl, hbel'⟩
end Go.Proofs.Ybulkmmc
