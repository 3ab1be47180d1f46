/-
  permits, where the set at hand is a choice; permits in every case.
-/
import Derived.Test.YbulkmogPer
namespace Go.Proofs.Ybulkmog
open Go.RowKit

theorem permits_some (ab : Nat) (vA : Value) (E : List Nat) (nb : Nat) (vN : Value) (N : List Nat) (nAny : Bool) (w : World) (ha : AccAt w ab vA E false) (hn : AccAt w nb vN N nAny) :
    Calls Yba.prog 7 #[Ptr ab, Ptr nb] w fun e w' => e = .returned (.bool (Plain.base E N nAny)) ∧ Below w.heap.size w w' := by
  cases nAny
  · exact permits_some_all ab vA E nb vN N w ha hn
  · exact permits_some_any ab vA E nb vN N w ha hn

theorem single_at (w : World) (x : Nat) (hx : Ent w x) : AccAt ((w.alloc (.cells #[Ptr x] 33)).alloc (.cells #[.slice (some ⟨w.heap.size, 0, none⟩) 1 1, .bool false] 39)) (w.heap.size + 1) (.slice (some ⟨w.heap.size, 0, none⟩) 1 1) [x] false := by
  have hb : Below w.heap.size w ((w.alloc (.cells #[Ptr x] 33)).alloc (.cells #[.slice (some ⟨w.heap.size, 0, none⟩) 1 1, .bool false] 39)) := ((Below.refl _ _).alloc (Nat.le_refl _) _).alloc (by simp) _
  refine ⟨by simp, ?_, ?_, ⟨by simp, fun g hg => ?_, _, _, rfl, fun _ => ⟨_, _, rfl, by simp; omega, fun i hi => ?_⟩⟩⟩
  · rw [World.cell?_alloc_at _ _ _ _ (by simp)]; rfl
  · rw [World.cell?_alloc_at _ _ _ _ (by simp)]; rfl
  · simp at hg
    subst hg
    exact hx.below hb (Nat.le_refl _)
  · simp at hi
    subst hi
    rw [World.cell?_alloc_past _ _ _ (by simp), World.cell?_alloc_at _ _ _ _ rfl]
    rfl

/-- the closure 'alone' -/
theorem alone_any (nv x nb : Nat) (vN : Value) (N : List Nat) (nAny : Bool) (w : World) (hc : w.cell? ⟨nv, 0, none⟩ = some (Ptr nb)) (hlt : nv < w.heap.size) (hn : AccAt w nb vN N nAny) (hx : Ent w x) :
    Calls Yba.prog 12 #[Ptr x, Ptr nv] w fun e w' => e = .returned (.bool (Plain.base [x] N nAny)) ∧ Below w.heap.size w w' := by
  have hb : Below w.heap.size w ((w.alloc (.cells #[Ptr x] 33)).alloc (.cells #[.slice (some ⟨w.heap.size, 0, none⟩) 1 1, .bool false] 39)) := ((Below.refl _ _).alloc (Nat.le_refl _) _).alloc (by simp) _
  have HP : Hid (Calls Yba.prog 7 #[Ptr (w.heap.size + 1), Ptr nb] ((w.alloc (.cells #[Ptr x] 33)).alloc (.cells #[.slice (some ⟨w.heap.size, 0, none⟩) 1 1, .bool false] 39)) fun e w' => e = .returned (.bool (Plain.base [x] N nAny)) ∧ Below ((w.alloc (.cells #[Ptr x] 33)).alloc (.cells #[.slice (some ⟨w.heap.size, 0, none⟩) 1 1, .bool false] 39)).heap.size ((w.alloc (.cells #[Ptr x] 33)).alloc (.cells #[.slice (some ⟨w.heap.size, 0, none⟩) 1 1, .bool false] 39)) w') :=
    permits_some _ _ [x] nb vN N nAny _ (single_at w x hx) (hn.below hb (Nat.le_refl _))
  have hlt1 : nv < w.heap.size + 1 := by omega
  have HB : Hid (Below w.heap.size w ((w.alloc (.cells #[Ptr x] 33)).alloc (.cells #[.slice (some ⟨w.heap.size, 0, none⟩) 1 1, .bool false] 39))) := hb
  clear hb hn hx
  go_enter Yba.func12, Yba.ntmps12
  go_wp2_with fail
  refine HP.out.mono ?_
  rintro e w' ⟨rfl, hb'⟩
  have HB' : Hid (Below w.heap.size w w') := HB.out.trans (hb'.mono (by simp; omega))
  clear hb'
  go_wp2_with fail
  go_ret
  exact ⟨rfl, HB'.out⟩

/-- the closure that denies 'alone' -/
theorem unalone_any (f nv x nb : Nat) (vN : Value) (N : List Nat) (nAny : Bool) (w : World) (hf : w.cell? ⟨f, 0, none⟩ = some (.func (.func 12) #[] #[Ptr nv])) (hc : w.cell? ⟨nv, 0, none⟩ = some (Ptr nb)) (hlt : nv < w.heap.size) (hn : AccAt w nb vN N nAny) (hx : Ent w x) :
    Calls Yba.prog 14 #[Ptr x, Ptr f] w fun e w' => e = .returned (.bool (!(Plain.base [x] N nAny))) ∧ Below w.heap.size w w' := by
  have HP : Hid (Calls Yba.prog 12 #[Ptr x, Ptr nv] w fun e w' => e = .returned (.bool (Plain.base [x] N nAny)) ∧ Below w.heap.size w w') := alone_any nv x nb vN N nAny w hc hlt hn hx
  clear hn hx hc
  go_enter Yba.func14, Yba.ntmps14
  go_wp2_with fail
  refine HP.out.mono ?_
  rintro e w' ⟨rfl, hb'⟩
  go_wp2_with fail
  go_ret
  exact ⟨rfl, hb'⟩
/-- the four variables that permits lays for a choice -/
abbrev W4 (w : World) (n v : Value) : World := (W3 w n v).alloc (.cells #[.func (.func 12) #[] #[Ptr w.heap.size]] 41)
theorem W4.below (w : World) (n v : Value) : Below w.heap.size w (W4 w n v) := (W3.below w n v).alloc (by simp; omega) _
theorem W4.size (w : World) (n v : Value) : (W4 w n v).heap.size = w.heap.size + 4 := by simp

theorem cf_choice (w : World) (nb : Nat) (vA vN : Value) (E N : List Nat) (nAny : Bool) (hr : RowP w vA E) (hn : AccAt w nb vN N nAny) :
    Calls Yba.prog 13 #[vA, .func (.func 14) #[] #[Ptr (w.heap.size + 1 + 1 + 1)]] (W4 w (Ptr nb) vA) fun e w' => e = .returned (.bool (E.any (fun x => !(Plain.base [x] N nAny)))) ∧ Below w.heap.size w w' := by
  have hb := W4.below w (Ptr nb) vA
  have hf : (W4 w (Ptr nb) vA).cell? ⟨w.heap.size + 1 + 1 + 1, 0, none⟩ = some (.func (.func 12) #[] #[Ptr w.heap.size]) := by
    unfold W4
    rw [World.cell?_alloc_at _ _ _ _ (by simp)]
    rfl
  have hc : (W4 w (Ptr nb) vA).cell? ⟨w.heap.size, 0, none⟩ = some (Ptr nb) := by
    unfold W4
    rw [World.cell?_alloc_past _ _ _ (by simp; omega)]
    exact W3.c0 _ _ _
  have hsz := W4.size w (Ptr nb) vA
  have hr' := hr.below hb (Nat.le_refl _)
  have hn' := hn.below hb (Nat.le_refl _)
  generalize W4 w (Ptr nb) vA = W at *
  refine (containsFunc_any vA (Ptr (w.heap.size + 1 + 1 + 1)) E 14 (fun x => !(Plain.base [x] N nAny)) W hr' enter14 (fun w' => Below W.heap.size W w') (Below.refl _ _) (fun w' h q hq => h.cell hq) (fun x hx w' h => ?_)).mono ?_
  · refine (unalone_any (w.heap.size + 1 + 1 + 1) w.heap.size x nb vN N nAny w' ?_ ?_ ?_ (hn'.below h (Nat.le_refl _)) ((hr'.ent x hx).below h (Nat.le_refl _))).mono ?_
    · rw [h.cell (p := ⟨w.heap.size + 1 + 1 + 1, 0, none⟩) (by show w.heap.size + 1 + 1 + 1 < _; omega)]; exact hf
    · rw [h.cell (p := ⟨w.heap.size, 0, none⟩) (by show w.heap.size < _; omega)]; exact hc
    · have := h.size; omega
    · rintro e w'' ⟨rfl, hb'⟩
      exact ⟨rfl, h.trans (hb'.mono h.size)⟩
  · rintro e w' ⟨rfl, h⟩
    exact ⟨rfl, hb.trans (h.mono (by omega))⟩

theorem all_not_any (E : List Nat) (p : Nat → Bool) : (!(E.any (fun x => !(p x)))) = E.all p := by
  rw [Bool.eq_iff_iff]
  simp

theorem permits_choice (ab : Nat) (vA : Value) (E : List Nat) (nb : Nat) (vN : Value) (N : List Nat) (nAny : Bool) (w : World) (ha : AccAt w ab vA E true) (hn : AccAt w nb vN N nAny) :
    Calls Yba.prog 7 #[Ptr ab, Ptr nb] w fun e w' => e = .returned (.bool (E.all (fun x => Plain.base [x] N nAny))) ∧ Below w.heap.size w w' := by
  obtain ⟨aA, cA, rfl, _⟩ := ha.row.row
  have HC : Hid (Calls Yba.prog 13 #[(.slice aA E.length cA), .func (.func 14) #[] #[Ptr (w.heap.size + 1 + 1 + 1)]] (W4 w (Ptr nb) (.slice aA E.length cA)) fun e w' => e = .returned (.bool (E.any (fun x => !(Plain.base [x] N nAny)))) ∧ Below w.heap.size w w') := cf_choice w nb (.slice aA E.length cA) vN E N nAny ha.row hn
  have alt := ha.lt
  have alt1 : ab < w.heap.size + 1 := by omega
  have alt2 : ab < w.heap.size + 1 + 1 := by omega
  have ac0 := ha.c0
  have ac1 := ha.c1
  clear hn ha
  go_enter Yba.func7, Yba.ntmps7
  go_wp2_with (go_at_call 9; refine (ents_some ab (.slice aA E.length cA) _ ?_).mono ?_; (rw [World.cell?_alloc_past _ _ _ alt]; exact ac0); rintro e w' ⟨rfl, rfl⟩)
  refine HC.out.mono ?_
  rintro e w' ⟨rfl, hb⟩
  go_wp2_with fail
  go_ret
  exact ⟨ret_eq (all_not_any E _), hb⟩

/-- a set, or none, as a value -/
def IsAcc (w : World) (a : Value) (x : Plain.Acc) : Prop :=
  (a = .pointer none ∧ x = none) ∨ ∃ b v E any, a = Ptr b ∧ x = some (E, any) ∧ AccAt w b v E any

/-- PERMITS, in every case -/
theorem permits_any (a n : Value) (x y : Plain.Acc) (w : World) (ha : IsAcc w a x) (hn : IsAcc w n y) :
    Calls Yba.prog 7 #[a, n] w fun e w' => e = .returned (.bool (Plain.perm x y)) ∧ Below w.heap.size w w' := by
  rcases hn with ⟨rfl, rfl⟩ | ⟨nb, vN, N, nAny, rfl, rfl, hn⟩
  · exact permits_none a w
  · rcases ha with ⟨rfl, rfl⟩ | ⟨ab, vA, E, any, rfl, rfl, ha⟩
    · cases nAny
      · exact permits_nil_all nb vN N w hn
      · exact permits_nil_any nb vN N w hn
    · cases any
      · exact permits_some ab vA E nb vN N nAny w ha hn
      · exact permits_choice ab vA E nb vN N nAny w ha hn
end Go.Proofs.Ybulkmog
