/-
  The clock over what the two building loops have left.
-/
import Derived.Test.YbulkmmcMade
namespace Go.Proofs.Ybulkmmc
open Go.RowKit

theorem cell_of_heap {wr : World} {b o : Nat} {cs : Array Value} {t : TypeId} {u : Value} (h : wr.heap[b]? = some (.cells cs t (0, 0))) (hu : cs[o]? = some u) : wr.cell? ⟨b, o, none⟩ = some u := by
  rw [cell_of_row wr b o cs t (0, 0) h]; exact hu

theorem owns_cell {wr : World} {base n g cap i : Nat} {L : List Nat} (h : wr.ownsRow base 63 1 (.slice (some ⟨g, 0, none⟩) n cap) n (L.map Ptr)) (hl : L.length = n) (hi : i < n) : wr.cell? ⟨g, i, none⟩ = some (Ptr (L.getD i 0)) := by
  rw [h.cellAt i (by omega), List.getElem?_map, List.getD]
  rw [List.getElem?_eq_getElem (by omega)]
  simp

theorem front_of {w wa wr : World} {Q : Nat → Int} {m : Nat} {L : List Nat} {v q : Value} (hq : Qued w wa Q m wr L q) (hs : Sch w.heap.size wr v q) :
    ∃ p, (∀ n, Calls Yba.prog 19 #[.pointer (some ⟨w.heap.size, 16, none⟩)] (wr.drewN n) fun e w' => e = .returned p ∧ w' = wr.drewN n) ∧ IsFront wr p (if m = 0 then none else some (floatOfInt .f64 (Q 0))) := by
  by_cases hm : m = 0
  · subst hm
    have hv : ∃ a c, q = .slice a 0 c := by
      rcases hq.own.2 with ⟨h2, _⟩ | ⟨g, cap, cur, hv, _⟩
      · exact ⟨_, _, h2⟩
      · exact ⟨_, _, hv⟩
    obtain ⟨a, c, rfl⟩ := hv
    exact ⟨.pointer none, fun n => front_nil _ _ a c (wr.drewN n) hs.2.2.1, .inl ⟨rfl, rfl⟩⟩
  · obtain ⟨g, cap, rfl, _, _⟩ := hq.own.form (by omega)
    rw [if_neg hm]
    refine ⟨Ptr (L.getD 0 0), fun n => front_some _ _ g m cap _ (wr.drewN n) (by omega) hs.2.2.1 (owns_cell hq.own hq.len (by omega)), .inr ⟨_, _, rfl, rfl, Flt.nn_int _, ?_⟩⟩
    exact cell_of_heap (hq.grp (by omega)) rfl

theorem vclock_of_nil {w wa wr : World} {R S U : Nat → Int} {L : List Nat} {v q : Value} (hm : Made w R S U 0 wa L v) (hs : Sch w.heap.size wr v q) (now : Int) :
    Calls Yba.prog 13 #[.pointer (some ⟨w.heap.size, 0, none⟩), .int .i64 now] wr fun e w' => e = .returned (.float .f64 0) ∧ w' = wr := by
  have hv : ∃ a c, v = .slice a 0 c := by
    rcases hm.own.2 with ⟨h2, _⟩ | ⟨g, cap, cur, hv, _⟩
    · exact ⟨_, _, h2⟩
    · exact ⟨_, _, hv⟩
  obtain ⟨a, c, rfl⟩ := hv
  exact vclock_nil _ a c now wr hs.1

theorem vclock_of {w wa wr : World} {R S U Q : Nat → Int} {k m : Nat} {L L2 : List Nat} {v q : Value} (hm : Made w R S U k wa L v) (hq : Qued w wa Q m wr L2 q) (hs : Sch w.heap.size wr v q) (hk : 0 < k) (hk' : k ≤ 1024)
    (hR : ∀ i, i < k → -2147483648 ≤ R i ∧ R i ≤ 2147483647) (now : Int) :
    Calls Yba.prog 13 #[.pointer (some ⟨w.heap.size, 0, none⟩), .int .i64 now] wr fun e w' => ∃ x n, e = .returned (.float .f64 x) ∧ w' = wr.drewN n ∧ Flt.NN Flt.F x ∧
      Flt.key Flt.F x = least (Flt.lo (val R S U now) (k - 1)) (if m = 0 then none else some (floatOfInt .f64 (Q 0))) := by
  obtain ⟨p, hF, hX⟩ := front_of hq hs
  obtain ⟨g, cap, rfl, hgb, hgl⟩ := hm.own.form hk
  have hcap : k ≤ cap := by
    rcases hm.own.2 with ⟨h2, _⟩ | ⟨g', cap', cur, hv, _, _, hle, _⟩
    · cases h2
    · cases hv; exact hle
  refine vclock_some w.heap.size g k cap (fun i => L.getD i 0) R S U now p _ wr hk hk' hcap hs.1 (fun i hi => ?_) (fun i hi => ?_) hR hF hX
  · rw [World.cell?_of_block (w := wa) (hq.kept g hgl (by omega))]
    exact owns_cell hm.own hm.len hi
  · have hg := hm.grp i hi
    have hg' : wr.heap[L.getD i 0]? = some (.cells (gcells (floatOfInt .f64 (R i)) (Flt.wt (U i)) (S i) i) 75 (0, 0)) := by
      rw [hq.kept _ (lt_of_heap hg) (by have := hm.far i hi; omega)]
      exact hg
    exact ⟨cell_of_heap hg' rfl, cell_of_heap hg' rfl, cell_of_heap hg' rfl⟩
end Go.Proofs.Ybulkmmc
