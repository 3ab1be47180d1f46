/-
  The entries that the laws build.
-/
import Derived.Test.YbulkmpiFill
import Derived.Deep.RegionHeld3
import Derived.Deep.DrawnRows
namespace Go.Proofs.Ybulkmpi
open Go.RowKit
attribute [local go_sem ↓] Go.wp_at_zero Go.wp_at_succ bldS_map bldS_lit

theorem Yba.info31 : (Yba.prog.info? 31).map (fun i => (i.zero, i.size, i.bytes)) = some (some (.agg Z.toArray), 33, 40) := by kernel_rfl

/-- a slice of entries that came in -/
def IsIn (w : World) (a : Option Addr) (n : Nat) (C : Nat → List Value) : Prop :=
  n = 0 ∨ ∃ b o, a = some ⟨b, o, none⟩ ∧ b < w.heap.size ∧ ∀ i, i < n → w.rangeAt b (o + i * 33) (C i) ∧ Ec (C i)

/-- behind k rounds: the made row at block g holds the first k entries; the rest is there -/
structure Row (w : World) (g n : Nat) (C : Nat → List Value) (k : Nat) (wr : World) : Prop where
  rng : ∀ i, i < k → wr.rangeAt g (i * 33) (C i)
  there : ∀ i, i < n → wr.there g (i * 33) 33
  bel : Below w.heap.size w wr
  lt : g < wr.heap.size

theorem setCells_below {B : Nat} {a : World} (g : Nat) (hg : B ≤ g) : ∀ (vs : List Value) (o : Nat) (w : World), Below B a w → Below B a (w.setCells g o vs)
  | [], _, _, h => h
  | v :: r, o, _, h => setCells_below g hg r (o + 1) _ (h.setCell (p := ⟨g, o, none⟩) hg v)

theorem setCells_size (g : Nat) : ∀ (vs : List Value) (o : Nat) (w : World), (w.setCells g o vs).heap.size = w.heap.size
  | [], _, _ => rfl
  | v :: r, o, w => by rw [World.setCells, setCells_size g r (o + 1)]; simp [World.setCell]

theorem row_step {w wr : World} {n k : Nat} {C : Nat → List Value} (h : Row w w.heap.size n C k wr) (hk : k < n) (hl : ∀ i, i < n → (C i).length = 33) : Row w w.heap.size n C (k + 1) (wr.drew.setCells w.heap.size (k * 33) (C k)) := by
  refine ⟨fun i hi => ?_, fun i hi => World.there_setCells (w := wr.drew) (h.there i hi) _ _ _, setCells_below _ (Nat.le_refl _) _ _ _ h.bel.drew, ?_⟩
  · by_cases hik : i = k
    · subst hik
      refine World.rangeAt_setCells_same _ _ _ _ ?_
      rw [hl i hk]
      exact h.there i hk
    · have hi' : i < k := by omega
      have hr : wr.drew.rangeAt w.heap.size (i * 33) (C i) := h.rng i hi'
      exact World.rangeAt_setCells_apart hr _ _ _ (.inr (.inl (by rw [hl i (by omega)]; omega)))
  · rw [setCells_size]; exact h.lt

theorem row_start {w wa : World} {n : Nat} {C : Nat → List Value} {xs : List Value} (ho : wa.ownsRow w.heap.size 31 33 (.slice (some ⟨w.heap.size, 0, none⟩) n n) n xs) (hg : w.grownBy wa none) : Row w w.heap.size n C 0 wa := by
  refine ⟨fun i hi => by omega, fun i hi j hj => ?_, (Below.refl _ _).grown hg (Nat.le_refl _) (fun k hk => by cases hk), (ho.lt w.heap.size rfl).2⟩
  have hlt : i * 33 + j < n * 33 := by omega
  refine ⟨?_, ho.frozenAt _⟩
  rw [ho.cellAt (i * 33 + j) hlt, List.getElem?_eq_getElem (by rw [ho.1]; exact hlt)]
  rfl

set_option maxHeartbeats 1000000 in
theorem build_any (a : Option Addr) (n c : Nat) (C : Nat → List Value) (w : World) (hn : n ≤ 1024) (hi : IsIn w a n C) :
    Calls Yba.prog 5 #[.slice a n c] w fun e w' => e = .returned (.slice (some ⟨w.heap.size, 0, none⟩) n n) ∧ Row w w.heap.size n C n w' := by
  obtain ⟨i0, hi0, hz0, hz1, hz2⟩ := info_parts Yba.info31
  have HI : Hid (Yba.prog.info? 31 = some i0 ∧ i0.zero = some (.agg Z.toArray) ∧ i0.size = 33 ∧ i0.bytes = 40) := ⟨hi0, hz0, hz1, hz2⟩
  have HX : Hid (IsIn w a n C) := hi
  clear hi0 hz0 hz1 hz2 hi
  go_enter Yba.func5, Yba.ntmps5
  go_wp2_with (at_make; refine wpList_make_full _ rfl _ _ 23 rfl w.heap.size 31 i0 (.agg Z.toArray) 33 Yba.underlying23 HI.out.1 HI.out.2.1 HI.out.2.2.1 _ _ _ _ n rfl rfl rfl rfl (by rw [HI.out.2.2.2]; omega) (by unfold maxLen; omega) (Nat.le_refl _) ?_)
  intro wa hoa hga
  have HA : Hid (Row w w.heap.size n C 0 wa) := row_start hoa hga
  clear hoa hga
  go_wp2_with fail
  go_loopw [10] (fun i wr => ∃ k : Nat, k ≤ n ∧ i = .int .i64 k ∧ Row w w.heap.size n C k wr) (fun i _ => n - (intOf i).toNat)
  case atStart => exact ⟨0, Nat.zero_le _, rfl, HA.out⟩
  case round =>
    obtain ⟨k, hk, rfl, hrow⟩ := hrel
    have HD : Hid (Row w w.heap.size n C k wr) := hrow
    by_cases hlt : k < n
    · rcases HX.out with h0 | ⟨b, o, rfl, hb, hcs⟩
      · omega
      obtain ⟨hr0, hec⟩ := hcs k hlt
      have hr : wr.rangeAt b (o + k * 33) (C k) := fun j v hv => by
        rw [hrow.bel.cell (p := ⟨b, o + k * 33 + j, none⟩) hb]; exact hr0 j v hv
      have ht := hrow.there k hlt
      clear hcs hr0 hrow
      obtain ⟨h, h64⟩ := hec.u64
      have hl := hec.len
      have hx0 : wr.rangeAt b (o + k * 33) ((C k).take 32) := fun j v hv => hr j v (by
        have hj : j < 32 := by have := (List.getElem?_eq_some_iff.1 hv).1; simp at this; omega
        rwa [List.getElem?_take_of_lt hj] at hv)
      have hx1 : wr.cell? ⟨b, o + k * 33 + 32, none⟩ = some (.int .u64 h) := hr 32 _ h64
      have hlh : ((C k).take 32).length = 32 := by simp [hl]
      have h1 : ∀ v ∈ (C k).take 32, v.oneCell' = true := fun v hv => hec.one v (List.mem_of_mem_take hv)
      have hbld := bldS_run (C k) h hec h64
      have h1' : ∀ v ∈ C k, v.oneCell' = true := hec.one
      have HEC : Hid (Ec (C k)) := hec
      have HRR : Hid (wr.rangeAt b (o + k * 33) (C k)) := hr
      clear hec hr h64
      generalize (C k).take 32 = H at *
      generalize hD : C k = D at *
      have hu := Yba.underlying27
      have hi : (Yba.prog.info? 27).map (·.size) = some H.length := by rw [hlh]; exact Yba.size27
      have hi2 : (Yba.prog.info? 31).map (·.size) = some D.length := by rw [hl]; exact Yba.size31
      have HDD : Hid (C k = D) := hD
      clear hD
      have hlt' : (k : Int) < (n : Int) := by omega
      have hk0 : (0 : Int) ≤ (k : Int) := by omega
      have hst : (storeCells ⟨w.heap.size, k * 33, none⟩ D).run Yba.prog wr.drew = .ok () (wr.drew.setCells w.heap.size (k * 33) D) := by
        have := run_storeCells_cells (P := Yba.prog) w.heap.size (k * 33) D 0 wr.drew (fun j hj => by simpa using (ht j (by omega)).1) (fun j hj => by simpa using (ht j (by omega)).2) h1'
        simpa using this
      have hne : b ≠ w.heap.size := by omega
      clear hi2
      go_wp2_with fail
      go_region_held3 (fun w' => w'.rangeAt b (o + k * 33) H ∧ w'.cell? ⟨b, o + k * 33 + 32, none⟩ = some (.int .u64 h) ∧ w'.there w.heap.size (k * 33) 33) (first | (go_keep_ranges; done) | (refine ⟨?_, ?_, ?_⟩; (go_keep_ranges); (rw [World.cell?_setCells_out _ _ _ _ _ (fun e => absurd e hne)]; exact hx1); (go_keep_ranges))) (fail)
      have HST : Hid (Row w w.heap.size n C (k + 1) (wr.drew.setCells w.heap.size (k * 33) D)) := by
        have := row_step HD.out hlt (fun i hi => by
          rcases HX.out with h0 | ⟨b', o', _, _, hcs'⟩
          · omega
          · exact (hcs' i hi).2.len)
        rwa [HDD.out] at this
      clear hst ht hx0 hx1
      go_wp2_with fail
      go_roundw
      case rel => exact ⟨k + 1, by omega, by go_num, HST.out⟩
      case measure => simp [intOf]; omega
    · have hkn : k = n := by omega
      subst hkn
      clear hrow
      go_wp2_with fail
      go_ret
      exact ⟨rfl, HD.out⟩

/-- entriesOf -/
theorem entriesOf_any (a : Option Addr) (n c : Nat) (w : World) : Calls Yba.prog 6 #[.slice a n c] w fun e w' => e = .returned (.func (.func 8) #[] #[.pointer (some ⟨w.heap.size, 0, none⟩)]) ∧ w' = w.alloc (.cells #[.slice a n c] 23) := by
  go_enter Yba.func6, Yba.ntmps6
  go_wp2
  go_ret
  exact ⟨rfl, rfl⟩
end Go.Proofs.Ybulkmpi
