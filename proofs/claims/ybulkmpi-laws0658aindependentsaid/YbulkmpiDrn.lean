/-
  LawS0658ADrains: the walk.
-/
import Derived.Test.YbulkmpiSrc
namespace Go.Proofs.Ybulkmpi
open Go.RowKit

def ldS (t : TypeId) (v : Value) : Sem Value := Instr.loadAt t v
theorem ld31 (v : Value) : Instr.loadAt 31 v = ldS 31 v := rfl
theorem ld37 (v : Value) : Instr.loadAt 37 v = ldS 37 v := rfl
def zS : Sem Value := Instr.build 31 #[]
theorem zS_map (f : Nat × Operand → Nat × Value) : Instr.build 31 (#[].map f) = zS := by simp [zS]
theorem zS_lit : Instr.build 31 #[] = zS := rfl
theorem zS_run (w : World) : zS.run Yba.prog w = .ok (.agg Z.toArray) w := build31 w
theorem zero_eq (w : World) : (Op.equalIn 10000 31 (.agg Z.toArray) (.agg Z.toArray)).run Yba.prog w = .ok true w := by kernel_rfl
attribute [local go_sem ↓] Go.wp_at_zero Go.wp_at_succ ld31 ld37 zS_map zS_lit

theorem ldS_run31 (b o : Nat) (D : List Value) (hD : D.length = 33) (w : World) (h : w.rangeAt b o D) : (ldS 31 (.pointer (some ⟨b, o, none⟩))).run Yba.prog w = .ok (.agg D.toArray) w :=
  run_loadAt_mid w b o 31 D _ h Yba.underlying31 rfl (by rw [hD]; exact Yba.size31)
theorem ldS_run37 (b o : Nat) (D : List Value) (hD : D.length = 33) (w : World) (h : w.rangeAt b o D) : (ldS 37 (.pointer (some ⟨b, o, none⟩))).run Yba.prog w = .ok (.agg D.toArray) w :=
  run_loadAt_mid w b o 37 D _ h Yba.underlying37 rfl (by rw [hD]; exact Yba.size37)

theorem enter8 (args : Array Value) (w : World) : (callFunc 8 args).run Yba.prog w = .ok (.enter 8 args) w := by
  simp [callFunc, Yba.func8]; rfl

set_option maxRecDepth 100000 in
set_option maxHeartbeats 2000000 in
theorem drains_main (a : Option Addr) (n c : Nat) (C : Nat → List Value) (w : World) (hn : n ≤ 1024) (hi : IsIn w a n C) :
    Calls Yba.prog 3 #[.slice a n c] w fun e w' => e = .returned (.bool true) ∧ Below w.heap.size w w' := by
  have t1 : decide ((1024 : Int) < (n : Int)) = false := by simp; omega
  have HX : Hid (IsIn w a n C) := hi
  clear hi
  go_enter Yba.func3, Yba.ntmps3
  go_wp2_with fail
  refine (build_any a n c C w hn HX.out).mono ?_
  rintro e wb ⟨rfl, hrow⟩
  have HR : Hid (Row w w.heap.size n C n wb) := hrow
  have hgl := hrow.lt
  clear hrow
  go_wp2_with fail
  refine (entriesOf_any _ n n wb).mono ?_
  rintro e w' ⟨rfl, rfl⟩
  have HS0 : Hid (SrcAt (wb.alloc (.cells #[.slice (some ⟨w.heap.size, 0, none⟩) n n] 23)) wb.heap.size w.heap.size n 0) := src_start wb w.heap.size n
  have HB0 : Hid (Below w.heap.size w (wb.alloc (.cells #[.slice (some ⟨w.heap.size, 0, none⟩) n n] 23))) := HR.out.bel.alloc (by omega) _
  have HRG : Hid (∀ i, i < n → (wb.alloc (.cells #[.slice (some ⟨w.heap.size, 0, none⟩) n n] 23)).rangeAt w.heap.size (i * 33) (C i)) := fun i hi => range_alloc (HR.out.rng i hi) hgl _
  obtain ⟨p, hp⟩ : ∃ p, p = wb.heap.size := ⟨_, rfl⟩
  have hsz : (wb.alloc (.cells #[.slice (some ⟨w.heap.size, 0, none⟩) n n] 23)).heap.size = p + 1 := by rw [hp]; simp
  rw [← hp] at HS0 hgl ⊢
  clear hp
  generalize wb.alloc (.cells #[.slice (some ⟨w.heap.size, 0, none⟩) n n] 23) = W at *
  have HSZ : Hid (W.heap.size = p + 1) := hsz
  clear hsz HR
  go_wp2_with fail
  go_loopw [5] (fun i wr => ∃ k : Nat, k ≤ n ∧ i = .int .i64 k ∧ SrcAt wr p w.heap.size n k ∧ Kp p W wr) (fun i _ => n - (intOf i).toNat)
  case atStart => exact ⟨0, Nat.zero_le _, rfl, HS0.out, Kp.refl _ _⟩
  case round =>
    obtain ⟨k, hk, rfl, hsrc, hkp⟩ := hrel
    have HSR : Hid (SrcAt wr p w.heap.size n k) := hsrc
    have HKP : Hid (Kp p W wr) := hkp
    clear hsrc hkp
    by_cases hlt : k < n
    · rcases HX.out with h0 | ⟨b, o, rfl, hb, hcs⟩
      · omega
      have hec := (hcs k hlt).2
      have HEC : Hid (Ec (C k)) := hec
      have hl := hec.len
      have hlt' : (k : Int) < (n : Int) := by omega
      have hk0 : (0 : Int) ≤ (k : Int) := by omega
      have HIN : Hid (W.rangeAt b (o + k * 33) (C k)) := fun j v hv => by rw [HB0.out.cell (p := ⟨b, o + k * 33 + j, none⟩) hb]; exact (hcs k hlt).1 j v hv
      have HN : Hid (Calls Yba.prog 8 #[.pointer (some ⟨p, 0, none⟩)] wr fun e w' => e = .returned (.tuple #[.agg (C k).toArray, .bool true, .nilIface]) ∧ SrcAt w' p w.heap.size n (k + 1) ∧ Kp p wr w') :=
        next_step p w.heap.size n k (C k) wr HSR.out hlt (by have := HKP.out.size; have := HSZ.out; omega) hec (HKP.out.range (by have := HSZ.out; omega) (by omega) (HRG.out k hlt))
      clear hcs hec
      generalize C k = D at *
      go_wp2_with fail
      refine HN.out.mono ?_
      rintro e w1 ⟨rfl, hs1, hk1⟩
      have HS1 : Hid (SrcAt w1 p w.heap.size n (k + 1)) := hs1
      have HK1 : Hid (Kp p W w1) := HKP.out.trans hk1
      clear hs1 hk1 HN
      go_wp2_with (first | refine wpList_alloc31 rfl rfl ?_ | (refine wpList_store31 rfl (.tmp 6) (.tmp 30) rfl w1 _ Z D Z_ec.len HEC.out rfl rfl ?_ ?_ ?_; (first | rfl | simp); (exact rfl)))
      have hr1 : (w1.alloc (.cells D.toArray 31)).rangeAt w1.heap.size 0 D := range_new w1 31 D
      have hbw : b < w1.heap.size := by have := HK1.out.size; have := HSZ.out; have := HB0.out.size; omega
      have hr2 : (w1.alloc (.cells D.toArray 31)).rangeAt b (o + k * 33) D := range_alloc (HK1.out.range (by have := HSZ.out; omega) (by omega) HIN.out) hbw _
      have l31 := ldS_run31 w1.heap.size 0 D hl
      have l37 := ldS_run37 b (o + k * 33) D hl
      go_region_held3 (fun w' => w'.rangeAt w1.heap.size 0 D ∧ w'.rangeAt b (o + k * 33) D) (first | (go_keep_ranges; done) | exact ⟨range_alloc (range_alloc hr1 (by simp) _) (by simp; omega) _, range_alloc (range_alloc hr2 (by simp; omega) _) (by simp; omega) _⟩)
        (first | (go_at_call 7; refine (same_any D HEC.out _).mono ?_; rintro e w' ⟨rfl, rfl⟩))
      have HK2 : Hid (∀ q, Kp q w1 (((w1.alloc (.cells D.toArray 31)).alloc (.cells D.toArray 31)).alloc (.cells D.toArray 37)).drew) := fun q => ((((Kp.refl q w1).alloc _).alloc _).alloc _).drew
      clear hr1 hr2 l31 l37
      go_wp2_with fail
      go_roundw
      case rel => exact ⟨k + 1, by omega, by go_num, HS1.out.keep (HK2.out (p + 1)) (by omega), HK1.out.trans (HK2.out p)⟩
      case measure => simp [intOf]; omega
    · have hkn : k = n := by omega
      subst hkn
      clear hlt hk
      go_wp2_with fail
      go_loopw [9] (fun i wq => ∃ j : Nat, j ≤ 2 ∧ i = .int .i64 j ∧ SrcAt wq p w.heap.size k k ∧ Kp p W wq) (fun i _ => 2 - (intOf i).toNat)
      case atStart => exact ⟨0, by omega, rfl, HSR.out, HKP.out⟩
      case round =>
        obtain ⟨j, hj, rfl, hsrc, hkp⟩ := hrel
        have HSQ : Hid (SrcAt wr p w.heap.size k k) := hsrc
        have HKQ : Hid (Kp p W wr) := hkp
        clear hsrc hkp
        by_cases hlt : j < 2
        · have HN : Hid (Calls Yba.prog 8 #[.pointer (some ⟨p, 0, none⟩)] wr fun e w' => e = .returned (.tuple #[.agg Z.toArray, .bool false, .nilIface]) ∧ SrcAt w' p w.heap.size k k ∧ Kp p wr w') := next_end p w.heap.size k wr HSQ.out
          have hlt' : (j : Int) < 2 := by omega
          go_wp2_with fail
          refine HN.out.mono ?_
          rintro e w1 ⟨rfl, hs1, hk1⟩
          have HS1 : Hid (SrcAt w1 p w.heap.size k k) := hs1
          have HK1 : Hid (Kp p W w1) := HKQ.out.trans hk1
          have HK2 : Hid (∀ q, Kp q w1 (w1.alloc (.cells Z.toArray 31))) := fun q => (Kp.refl q w1).alloc _
          have hr1 : (w1.alloc (.cells Z.toArray 31)).rangeAt w1.heap.size 0 Z := range_new w1 31 Z
          have l31 := ldS_run31 w1.heap.size 0 Z Z_ec.len
          have hz := zS_run
          have hq := zero_eq
          clear hs1 hk1 HN
          go_wp2_with (first | refine wpList_alloc31 rfl rfl ?_ | (refine wpList_store31 rfl (.tmp 10) (.tmp 55) rfl w1 _ Z Z Z_ec.len Z_ec rfl rfl ?_ ?_ ?_; (first | rfl | simp); (exact rfl)))
          go_roundw
          case rel => exact ⟨j + 1, by omega, by go_num, HS1.out.keep (HK2.out (p + 1)) (by omega), HK1.out.trans (HK2.out p)⟩
          case measure => simp [intOf]; omega
        · clear hj
          have hj2 : ¬ (j : Int) < 2 := by omega
          go_wp2_with fail
          go_loopw [70] (fun i wq => ∃ m : Nat, m ≤ k ∧ i = .int .i64 m ∧ Kp p W wq) (fun i _ => k - (intOf i).toNat)
          case atStart => exact ⟨0, Nat.zero_le _, rfl, HKQ.out⟩
          case round =>
            obtain ⟨m, hm, rfl, hkp⟩ := hrel
            have HKM : Hid (Kp p W wr) := hkp
            clear hkp
            by_cases hmk : m < k
            · rcases HX.out with h0 | ⟨b, o, rfl, hb, hcs⟩
              · omega
              have hec := (hcs m hmk).2
              have HEC : Hid (Ec (C m)) := hec
              have hl := hec.len
              have hmk' : (m : Int) < (k : Int) := by omega
              have hm0 : (0 : Int) ≤ (m : Int) := by omega
              have hr1 : wr.rangeAt w.heap.size (m * 33) (C m) := HKM.out.range (by have := HSZ.out; omega) (by omega) (HRG.out m hmk)
              have hr2 : wr.rangeAt b (o + m * 33) (C m) := HKM.out.range (by have := HSZ.out; omega) (by omega) (fun j v hv => by rw [HB0.out.cell (p := ⟨b, o + m * 33 + j, none⟩) hb]; exact (hcs m hmk).1 j v hv)
              have hgw : w.heap.size < wr.heap.size := by have := HKM.out.size; have := HSZ.out; omega
              clear hcs hec
              generalize C m = D at *
              have l31 := ldS_run31 w.heap.size (m * 33) D hl
              have l37 := ldS_run37 b (o + m * 33) D hl
              go_wp2_with fail
              go_region_held3 (fun w' => w'.rangeAt w.heap.size (m * 33) D ∧ w'.rangeAt b (o + m * 33) D) (first | (go_keep_ranges; done) | exact ⟨range_alloc (range_alloc hr1 hgw _) (by simp; omega) _, range_alloc (range_alloc hr2 (by omega) _) (by simp; omega) _⟩)
                (first | (go_at_call 7; refine (same_any D HEC.out _).mono ?_; rintro e w' ⟨rfl, rfl⟩))
              have HK2 : Hid (Kp p wr ((wr.alloc (.cells D.toArray 31)).alloc (.cells D.toArray 37)).drew) := (((Kp.refl p wr).alloc _).alloc _).drew
              clear hr1 hr2 l31 l37
              go_wp2_with fail
              go_roundw
              case rel => exact ⟨m + 1, by omega, by go_num, HKM.out.trans HK2.out⟩
              case measure => simp [intOf]; omega
            · have hbel : Below w.heap.size w wr := Kp.below HB0.out HKM.out (by have := HSZ.out; omega) (by omega)
              have HBE : Hid (Below w.heap.size w wr) := hbel
              clear hbel
              go_wp2_with fail
              go_ret
              exact ⟨rfl, HBE.out⟩
end Go.Proofs.Ybulkmpi
