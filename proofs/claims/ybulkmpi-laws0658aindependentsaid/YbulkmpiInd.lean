/-
  LawS0658AIndependent: the walk.
-/
import Derived.Test.YbulkmpiDrn
namespace Go.Proofs.Ybulkmpi
open Go.RowKit
attribute [local go_sem ↓] Go.wp_at_zero Go.wp_at_succ ld31 ld37

/-- w' is w but for the cells of blocks p and q, and new blocks -/
structure Kq (p q : Nat) (w w' : World) : Prop where
  os : w'.os = w.os
  tape : w'.tape = w.tape
  output : w'.output = w.output
  size : w.heap.size ≤ w'.heap.size
  block : ∀ b, b < w.heap.size → b ≠ p → b ≠ q → w'.heap[b]? = w.heap[b]?

theorem Kq.refl (p q : Nat) (w : World) : Kq p q w w := ⟨rfl, rfl, rfl, Nat.le_refl _, fun _ _ _ _ => rfl⟩
theorem Kq.left {p q : Nat} {a b c : World} (h : Kq p q a b) (k : Kp p b c) : Kq p q a c :=
  ⟨k.os.trans h.os, k.tape.trans h.tape, k.output.trans h.output, Nat.le_trans h.size k.size, fun i hi hp hq => (k.block i (by have := h.size; omega) hp).trans (h.block i hi hp hq)⟩
theorem Kq.right {p q : Nat} {a b c : World} (h : Kq p q a b) (k : Kp q b c) : Kq p q a c :=
  ⟨k.os.trans h.os, k.tape.trans h.tape, k.output.trans h.output, Nat.le_trans h.size k.size, fun i hi hp hq => (k.block i (by have := h.size; omega) hq).trans (h.block i hi hp hq)⟩
theorem Kq.below {p q B : Nat} {a w w' : World} (h : Below B a w) (k : Kq p q w w') (hB : B ≤ w.heap.size) (hp : B ≤ p) (hq : B ≤ q) : Below B a w' :=
  h.trans ⟨k.os, k.tape, k.output, k.size, fun b hb => k.block b (by omega) (by omega) (by omega)⟩
theorem Kq.range {p q : Nat} {w w' : World} (k : Kq p q w w') {b o : Nat} {C : List Value} (hb : b < w.heap.size) (hp : b ≠ p) (hq : b ≠ q) (h : w.rangeAt b o C) : w'.rangeAt b o C := fun j v hv => by
  rw [World.cell?_of_block (k.block b hb hp hq)]; exact h j v hv

set_option maxRecDepth 100000 in
set_option maxHeartbeats 2000000 in
theorem indep_main (a : Option Addr) (n c : Nat) (C : Nat → List Value) (w : World) (hn : n ≤ 1024) (hi : IsIn w a n C) :
    Calls Yba.prog 4 #[.slice a n c] w fun e w' => e = .returned (.bool true) ∧ Below w.heap.size w w' := by
  have t1 : decide ((1024 : Int) < (n : Int)) = false := by simp; omega
  have HX : Hid (IsIn w a n C) := hi
  clear hi
  go_enter Yba.func4, Yba.ntmps4
  go_wp2_with fail
  refine (build_any a n c C w hn HX.out).mono ?_
  rintro e wb ⟨rfl, hrow⟩
  have HR : Hid (Row w w.heap.size n C n wb) := hrow
  have hgl := hrow.lt
  clear hrow
  go_wp2_with fail
  refine (entriesOf_any _ n n wb).mono ?_
  rintro e w' ⟨rfl, rfl⟩
  go_wp2_with fail
  refine (entriesOf_any _ n n _).mono ?_
  rintro e w' ⟨rfl, rfl⟩
  have HS0 : Hid (SrcAt (wb.alloc (.cells #[.slice (some ⟨w.heap.size, 0, none⟩) n n] 23)) wb.heap.size w.heap.size n 0) := src_start wb w.heap.size n
  have HT0 : Hid (SrcAt ((wb.alloc (.cells #[.slice (some ⟨w.heap.size, 0, none⟩) n n] 23)).alloc (.cells #[.slice (some ⟨w.heap.size, 0, none⟩) n n] 23)) (wb.alloc (.cells #[.slice (some ⟨w.heap.size, 0, none⟩) n n] 23)).heap.size w.heap.size n 0) := src_start _ w.heap.size n
  have HB0 : Hid (Below w.heap.size w ((wb.alloc (.cells #[.slice (some ⟨w.heap.size, 0, none⟩) n n] 23)).alloc (.cells #[.slice (some ⟨w.heap.size, 0, none⟩) n n] 23))) := (HR.out.bel.alloc (by omega) _).alloc (by simp; omega) _
  have HRG : Hid (∀ i, i < n → ((wb.alloc (.cells #[.slice (some ⟨w.heap.size, 0, none⟩) n n] 23)).alloc (.cells #[.slice (some ⟨w.heap.size, 0, none⟩) n n] 23)).rangeAt w.heap.size (i * 33) (C i)) := fun i hi => range_alloc (range_alloc (HR.out.rng i hi) hgl _) (by simp; omega) _
  have HU0 : Hid (SrcAt ((wb.alloc (.cells #[.slice (some ⟨w.heap.size, 0, none⟩) n n] 23)).alloc (.cells #[.slice (some ⟨w.heap.size, 0, none⟩) n n] 23)) wb.heap.size w.heap.size n 0) := HS0.out.keep ((Kp.refl (wb.heap.size + 1) _).alloc _) (by omega)
  have hsz1 : (wb.alloc (.cells #[.slice (some ⟨w.heap.size, 0, none⟩) n n] 23)).heap.size = wb.heap.size + 1 := by simp
  have hsz2 : ((wb.alloc (.cells #[.slice (some ⟨w.heap.size, 0, none⟩) n n] 23)).alloc (.cells #[.slice (some ⟨w.heap.size, 0, none⟩) n n] 23)).heap.size = wb.heap.size + 2 := by simp
  rw [hsz1] at HT0
  try rw [hsz1]
  clear HS0 hsz1
  obtain ⟨p, hp⟩ : ∃ p, p = wb.heap.size := ⟨_, rfl⟩
  rw [← hp] at HU0 HT0 hgl hsz2 ⊢
  clear hp
  generalize (wb.alloc (.cells #[.slice (some ⟨w.heap.size, 0, none⟩) n n] 23)).alloc (.cells #[.slice (some ⟨w.heap.size, 0, none⟩) n n] 23) = W at *
  have HSZ : Hid (W.heap.size = p + 2) := hsz2
  clear hsz2 HR
  go_wp2_with fail
  go_loopw [6] (fun i wr => ∃ k : Nat, k ≤ n ∧ i = .int .i64 k ∧ SrcAt wr p w.heap.size n k ∧ SrcAt wr (p + 1) w.heap.size n k ∧ Kq p (p + 1) W wr) (fun i _ => n - (intOf i).toNat)
  case atStart => exact ⟨0, Nat.zero_le _, rfl, HU0.out, HT0.out, Kq.refl _ _ _⟩
  case round =>
    obtain ⟨k, hk, rfl, hsrc, hsrd, hkp⟩ := hrel
    have HSR : Hid (SrcAt wr p w.heap.size n k) := hsrc
    have HTR : Hid (SrcAt wr (p + 1) w.heap.size n k) := hsrd
    have HKP : Hid (Kq p (p + 1) W wr) := hkp
    clear hsrc hsrd hkp
    by_cases hlt : k < n
    · rcases HX.out with h0 | ⟨b, o, rfl, hb, hcs⟩
      · omega
      have hec := (hcs k hlt).2
      have HEC : Hid (Ec (C k)) := hec
      have hl := hec.len
      have hlt' : (k : Int) < (n : Int) := by omega
      have hk0 : (0 : Int) ≤ (k : Int) := by omega
      have HIN : Hid (W.rangeAt b (o + k * 33) (C k)) := fun j v hv => by rw [HB0.out.cell (p := ⟨b, o + k * 33 + j, none⟩) hb]; exact (hcs k hlt).1 j v hv
      have HGN : Hid (W.rangeAt w.heap.size (k * 33) (C k)) := HRG.out k hlt
      have HN : Hid (Calls Yba.prog 8 #[.pointer (some ⟨p, 0, none⟩)] wr fun e w' => e = .returned (.tuple #[.agg (C k).toArray, .bool true, .nilIface]) ∧ SrcAt w' p w.heap.size n (k + 1) ∧ Kp p wr w') :=
        next_step p w.heap.size n k (C k) wr HSR.out hlt (by have := HKP.out.size; have := HSZ.out; omega) hec (HKP.out.range (by have := HSZ.out; omega) (by omega) (by omega) (HRG.out k hlt))
      clear hcs hec
      generalize C k = D at *
      go_wp2_with fail
      refine HN.out.mono ?_
      rintro e w1 ⟨rfl, hs1, hk1⟩
      have HS1 : Hid (SrcAt w1 p w.heap.size n (k + 1)) := hs1
      have HT1 : Hid (SrcAt w1 (p + 1) w.heap.size n k) := HTR.out.keep hk1 (by omega)
      have HK1 : Hid (Kq p (p + 1) W w1) := HKP.out.left hk1
      clear hs1 hk1 HN
      go_wp2_with (first | refine wpList_alloc31 rfl rfl ?_ | (refine wpList_store31 rfl (.tmp 7) (.tmp 37) rfl w1 _ Z D Z_ec.len HEC.out rfl rfl ?_ ?_ ?_; (first | rfl | simp); (exact rfl)))
      have hr1 : (w1.alloc (.cells D.toArray 31)).rangeAt w1.heap.size 0 D := range_new w1 31 D
      have hbw : b < w1.heap.size := by have := HK1.out.size; have := HSZ.out; have := HB0.out.size; omega
      have hr2 : (w1.alloc (.cells D.toArray 31)).rangeAt b (o + k * 33) D := range_alloc (HK1.out.range (by have := HSZ.out; omega) (by omega) (by omega) HIN.out) hbw _
      have l31 := ldS_run31 w1.heap.size 0 D hl
      have l37 := ldS_run37 b (o + k * 33) D hl
      go_region_held3 (fun w' => w'.rangeAt w1.heap.size 0 D ∧ w'.rangeAt b (o + k * 33) D) (first | (go_keep_ranges; done) | exact ⟨range_alloc (range_alloc hr1 (by simp) _) (by simp; omega) _, range_alloc (range_alloc hr2 (by simp; omega) _) (by simp; omega) _⟩)
        (first | (go_at_call 7; refine (same_any D HEC.out _).mono ?_; rintro e w' ⟨rfl, rfl⟩))
      have HK2 : Hid (∀ q, Kp q w1 (((w1.alloc (.cells D.toArray 31)).alloc (.cells D.toArray 31)).alloc (.cells D.toArray 37)).drew) := fun q => ((((Kp.refl q w1).alloc _).alloc _).alloc _).drew
      clear hr1 hr2 l31 l37
      generalize (((w1.alloc (.cells D.toArray 31)).alloc (.cells D.toArray 31)).alloc (.cells D.toArray 37)).drew = w2 at *
      have HS2 : Hid (SrcAt w2 p w.heap.size n (k + 1)) := HS1.out.keep (HK2.out (p + 1)) (by omega)
      have HT2 : Hid (SrcAt w2 (p + 1) w.heap.size n k) := HT1.out.keep (HK2.out p) (by omega)
      have HK3 : Hid (Kq p (p + 1) W w2) := HK1.out.left (HK2.out p)
      clear HS1 HT1 HK1 HK2 hbw
      have HN : Hid (Calls Yba.prog 8 #[.pointer (some ⟨p + 1, 0, none⟩)] w2 fun e w' => e = .returned (.tuple #[.agg D.toArray, .bool true, .nilIface]) ∧ SrcAt w' (p + 1) w.heap.size n (k + 1) ∧ Kp (p + 1) w2 w') :=
        next_step (p + 1) w.heap.size n k D w2 HT2.out hlt (by have := HK3.out.size; have := HSZ.out; omega) HEC.out (HK3.out.range (by have := HSZ.out; omega) (by omega) (by omega) HGN.out)
      go_wp2_with fail
      refine HN.out.mono ?_
      rintro e w3 ⟨rfl, hs1, hk1⟩
      have HS3 : Hid (SrcAt w3 p w.heap.size n (k + 1)) := HS2.out.keep hk1 (by omega)
      have HT3 : Hid (SrcAt w3 (p + 1) w.heap.size n (k + 1)) := hs1
      have HK4 : Hid (Kq p (p + 1) W w3) := HK3.out.right hk1
      clear hs1 hk1 HN HS2 HT2 HK3
      go_wp2_with (first | refine wpList_alloc31 rfl rfl ?_ | (refine wpList_store31 rfl (.tmp 10) (.tmp 58) rfl w3 _ Z D Z_ec.len HEC.out rfl rfl ?_ ?_ ?_; (first | rfl | simp); (exact rfl)))
      have hr1 : (w3.alloc (.cells D.toArray 31)).rangeAt w3.heap.size 0 D := range_new w3 31 D
      have hbw : b < w3.heap.size := by have := HK4.out.size; have := HSZ.out; have := HB0.out.size; omega
      have hr2 : (w3.alloc (.cells D.toArray 31)).rangeAt b (o + k * 33) D := range_alloc (HK4.out.range (by have := HSZ.out; omega) (by omega) (by omega) HIN.out) hbw _
      have l31 := ldS_run31 w3.heap.size 0 D hl
      have l37 := ldS_run37 b (o + k * 33) D hl
      go_region_held3 (fun w' => w'.rangeAt w3.heap.size 0 D ∧ w'.rangeAt b (o + k * 33) D) (first | (go_keep_ranges; done) | exact ⟨range_alloc (range_alloc hr1 (by simp) _) (by simp; omega) _, range_alloc (range_alloc hr2 (by simp; omega) _) (by simp; omega) _⟩)
        (first | (go_at_call 7; refine (same_any D HEC.out _).mono ?_; rintro e w' ⟨rfl, rfl⟩))
      have HK2 : Hid (∀ q, Kp q w3 (((w3.alloc (.cells D.toArray 31)).alloc (.cells D.toArray 31)).alloc (.cells D.toArray 37)).drew) := fun q => ((((Kp.refl q w3).alloc _).alloc _).alloc _).drew
      clear hr1 hr2 l31 l37
      go_wp2_with fail
      go_roundw
      case rel => exact ⟨k + 1, by omega, by go_num, HS3.out.keep (HK2.out (p + 1)) (by omega), HT3.out.keep (HK2.out p) (by omega), HK4.out.left (HK2.out p)⟩
      case measure => simp [intOf]; omega
    · have hkn : k = n := by omega
      subst hkn
      clear hlt hk
      have HN : Hid (Calls Yba.prog 8 #[.pointer (some ⟨p, 0, none⟩)] wr fun e w' => e = .returned (.tuple #[.agg Z.toArray, .bool false, .nilIface]) ∧ SrcAt w' p w.heap.size k k ∧ Kp p wr w') := next_end p w.heap.size k wr HSR.out
      go_wp2_with fail
      refine HN.out.mono ?_
      rintro e w1 ⟨rfl, hs1, hk1⟩
      have HT1 : Hid (SrcAt w1 (p + 1) w.heap.size k k) := HTR.out.keep hk1 (by omega)
      have HK1 : Hid (Kq p (p + 1) W w1) := HKP.out.left hk1
      clear hs1 hk1 HN
      have HK2 : Hid (∀ q, Kp q w1 (w1.alloc (.cells Z.toArray 31))) := fun q => (Kp.refl q w1).alloc _
      go_wp2_with (first | refine wpList_alloc31 rfl rfl ?_ | (refine wpList_store31 rfl (.tmp 13) (.tmp 79) rfl w1 _ Z Z Z_ec.len Z_ec rfl rfl ?_ ?_ ?_; (first | rfl | simp); (exact rfl)))
      generalize w1.alloc (.cells Z.toArray 31) = w2 at *
      have HT2 : Hid (SrcAt w2 (p + 1) w.heap.size k k) := HT1.out.keep (HK2.out p) (by omega)
      have HK3 : Hid (Kq p (p + 1) W w2) := HK1.out.left (HK2.out p)
      have HN : Hid (Calls Yba.prog 8 #[.pointer (some ⟨p + 1, 0, none⟩)] w2 fun e w' => e = .returned (.tuple #[.agg Z.toArray, .bool false, .nilIface]) ∧ SrcAt w' (p + 1) w.heap.size k k ∧ Kp (p + 1) w2 w') := next_end (p + 1) w.heap.size k w2 HT2.out
      clear HT1 HK1 HK2
      try go_wp2_with fail
      refine HN.out.mono ?_
      rintro e w3 ⟨rfl, hs1, hk1⟩
      have HK4 : Hid (Kq p (p + 1) W (w3.alloc (.cells Z.toArray 31))) := (HK3.out.right hk1).left ((Kp.refl p w3).alloc _)
      clear hs1 hk1 HN
      go_wp2_with (first | refine wpList_alloc31 rfl rfl ?_ | (refine wpList_store31 rfl (.tmp 16) (.tmp 85) rfl w3 _ Z Z Z_ec.len Z_ec rfl rfl ?_ ?_ ?_; (first | rfl | simp); (exact rfl)))
      have hbel : Below w.heap.size w (w3.alloc (.cells Z.toArray 31)) := Kq.below HB0.out HK4.out (by have := HSZ.out; omega) (by omega) (by omega)
      have HBE : Hid (Below w.heap.size w (w3.alloc (.cells Z.toArray 31))) := hbel
      clear hbel
      go_wp2_with fail
      go_ret
      exact ⟨rfl, HBE.out⟩
end Go.Proofs.Ybulkmpi
