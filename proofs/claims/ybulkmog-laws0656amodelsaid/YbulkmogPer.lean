/-
  permits, where the set at hand is no choice.
-/
import Derived.Test.YbulkmogFn
import Derived.Deep.RegionHeld3
import Derived.Deep.DrawnRows
import Derived.Laws.EntriesVeiled
namespace Go.Proofs.Ybulkmog
open Go.RowKit
attribute [local go_sem ↓] Go.wp_at_zero Go.wp_at_succ

theorem ents_nil (w : World) : Calls Yba.prog 9 #[.pointer none] w fun e w' => e = .returned (.slice none 0 0) ∧ w' = w := by
  go_enter Yba.func9, Yba.ntmps9
  go_wp2
  go_ret
  exact ⟨rfl, rfl⟩
theorem ents_some (b : Nat) (v : Value) (w : World) (hc : w.cell? ⟨b, 0, none⟩ = some v) : Calls Yba.prog 9 #[Ptr b] w fun e w' => e = .returned v ∧ w' = w := by
  go_enter Yba.func9, Yba.ntmps9
  go_wp2
  go_ret
  exact ⟨rfl, rfl⟩

theorem row_nil (w : World) : RowP w (.slice none 0 0) [] := ⟨by simp, by simp, none, 0, rfl, fun h => absurd h (by simp)⟩

/-- a set in memory: its slice, its flag -/
structure AccAt (w : World) (b : Nat) (v : Value) (E : List Nat) (any : Bool) : Prop where
  lt : b < w.heap.size
  c0 : w.cell? ⟨b, 0, none⟩ = some v
  c1 : w.cell? ⟨b, 1, none⟩ = some (.bool any)
  row : RowP w v E

theorem AccAt.below {w w' : World} {b B : Nat} {v : Value} {E : List Nat} {any : Bool} (h : AccAt w b v E any) (hb : Below B w w') (hB : w.heap.size ≤ B) : AccAt w' b v E any := by
  have := h.lt
  exact ⟨by have := hb.size; omega, by rw [hb.cell (p := ⟨b, 0, none⟩) (show b < B by omega)]; exact h.c0, by rw [hb.cell (p := ⟨b, 1, none⟩) (show b < B by omega)]; exact h.c1, h.row.below hb hB⟩

theorem permits_none (a : Value) (w : World) :
    Calls Yba.prog 7 #[a, .pointer none] w fun e w' => e = .returned (.bool true) ∧ Below w.heap.size w w' := by
  go_enter Yba.func7, Yba.ntmps7
  go_wp2
  go_ret
  exact ⟨rfl, (Below.refl _ _).alloc (Nat.le_refl _) _⟩

theorem ret_eq {a b : Bool} (h : a = b) : Ending.returned (.bool a) = .returned (.bool b) := by rw [h]

theorem base_all (E N : List Nat) : (!(N.any (fun x => !(E.any (fun y => x == y))))) = Plain.base E N false := by
  rw [Bool.eq_iff_iff]
  simp [Plain.base]
theorem base_any (E N : List Nat) : N.any (fun x => E.any (fun y => x == y)) = Plain.base E N true := by
  rw [Bool.eq_iff_iff]
  simp [Plain.base]

theorem cf_all (f h : Nat) (v vN : Value) (E N : List Nat) (W : World) (hf : W.cell? ⟨f, 0, none⟩ = some (.func (.func 10) #[] #[Ptr h])) (hc : W.cell? ⟨h, 0, none⟩ = some v) (hr : RowP W v E) (hn : RowP W vN N) :
    Calls Yba.prog 13 #[vN, .func (.func 15) #[] #[Ptr f]] W fun e w' => e = .returned (.bool (N.any (fun x => !(E.any (fun y => x == y))))) ∧ w' = W :=
  containsFunc_any vN (Ptr f) N 15 (fun x => !(E.any (fun y => x == y))) W hn enter15 (fun w' => w' = W) rfl (fun w' e q _ => by rw [e]) (fun x hx w' e => by subst e; exact unheld_any f h x v E _ hf hc hr (hn.ent x hx))
theorem cf_any (h : Nat) (v vN : Value) (E N : List Nat) (W : World) (hc : W.cell? ⟨h, 0, none⟩ = some v) (hr : RowP W v E) (hn : RowP W vN N) :
    Calls Yba.prog 13 #[vN, .func (.func 10) #[] #[Ptr h]] W fun e w' => e = .returned (.bool (N.any (fun x => E.any (fun y => x == y)))) ∧ w' = W :=
  containsFunc_any vN (Ptr h) N 10 (fun x => E.any (fun y => x == y)) W hn enter10 (fun w' => w' = W) rfl (fun w' e q _ => by rw [e]) (fun x hx w' e => by subst e; exact held_any h x v E _ hc hr (hn.ent x hx))

/-- the three variables that permits lays -/
abbrev W3 (w : World) (n v : Value) : World := ((w.alloc (.cells #[n] 25)).alloc (.cells #[v] 23)).alloc (.cells #[.func (.func 10) #[] #[Ptr (w.heap.size + 1)]] 41)
theorem W3.below (w : World) (n v : Value) : Below w.heap.size w (W3 w n v) :=
  (((Below.refl _ _).alloc (Nat.le_refl _) _).alloc (by simp) _).alloc (by simp; omega) _
theorem W3.c0 (w : World) (n v : Value) : (W3 w n v).cell? ⟨w.heap.size, 0, none⟩ = some n := by
  unfold W3
  rw [World.cell?_alloc_past _ _ _ (by simp; omega), World.cell?_alloc_past _ _ _ (by simp), World.cell?_alloc_at _ _ _ _ rfl]
  rfl
theorem W3.c1 (w : World) (n v : Value) : (W3 w n v).cell? ⟨w.heap.size + 1, 0, none⟩ = some v := by
  unfold W3
  rw [World.cell?_alloc_past _ _ _ (by simp), World.cell?_alloc_at _ _ _ _ (by simp)]
  rfl
theorem W3.c2 (w : World) (n v : Value) : (W3 w n v).cell? ⟨w.heap.size + 1 + 1, 0, none⟩ = some (.func (.func 10) #[] #[Ptr (w.heap.size + 1)]) := by
  unfold W3
  rw [World.cell?_alloc_at _ _ _ _ (by simp)]
  rfl
theorem W3.old (w : World) (n v : Value) (b : Nat) (hb : b < w.heap.size) {u : Value} (h : w.cell? ⟨b, 0, none⟩ = some u) : (W3 w n v).cell? ⟨b, 0, none⟩ = some u := by
  rw [(W3.below w n v).cell (p := ⟨b, 0, none⟩) hb]; exact h

theorem permits_nil_all (nb : Nat) (vN : Value) (N : List Nat) (w : World) (hn : AccAt w nb vN N false) :
    Calls Yba.prog 7 #[.pointer none, Ptr nb] w fun e w' => e = .returned (.bool (Plain.base [] N false)) ∧ Below w.heap.size w w' := by
  have hlt := hn.lt
  have hlt1 : nb < w.heap.size + 1 := by omega
  have hlt2 : nb < w.heap.size + 1 + 1 := by omega
  have hc0 := hn.c0
  have hc1 := hn.c1
  have HN : Hid (RowP w vN N) := hn.row
  have HR : Hid (RowP w (.slice none 0 0) []) := row_nil w
  clear hn
  go_enter Yba.func7, Yba.ntmps7
  go_wp2_with (go_at_call 9; refine (ents_nil _).mono ?_; rintro e w' ⟨rfl, rfl⟩)
  refine (cf_all (w.heap.size + 1 + 1) (w.heap.size + 1) (.slice none 0 0) vN [] N (W3 w (Ptr nb) (.slice none 0 0)) (W3.c2 _ _ _) (W3.c1 _ _ _) (HR.out.below (W3.below _ _ _) (Nat.le_refl _)) (HN.out.below (W3.below _ _ _) (Nat.le_refl _))).mono ?_
  rintro e w' ⟨rfl, rfl⟩
  go_wp2_with fail
  go_ret
  exact ⟨ret_eq (base_all [] N), W3.below _ _ _⟩

theorem permits_nil_any (nb : Nat) (vN : Value) (N : List Nat) (w : World) (hn : AccAt w nb vN N true) :
    Calls Yba.prog 7 #[.pointer none, Ptr nb] w fun e w' => e = .returned (.bool (Plain.base [] N true)) ∧ Below w.heap.size w w' := by
  have hlt := hn.lt
  have hlt1 : nb < w.heap.size + 1 := by omega
  have hlt2 : nb < w.heap.size + 1 + 1 := by omega
  have hc0 := hn.c0
  have hc1 := hn.c1
  have HN : Hid (RowP w vN N) := hn.row
  have HR : Hid (RowP w (.slice none 0 0) []) := row_nil w
  clear hn
  go_enter Yba.func7, Yba.ntmps7
  go_wp2_with (go_at_call 9; refine (ents_nil _).mono ?_; rintro e w' ⟨rfl, rfl⟩)
  go_region_held3 (fun w' => w'.cell? ⟨w.heap.size, 0, none⟩ = some (Ptr nb) ∧ w'.cell? ⟨nb, 0, none⟩ = some vN ∧ w'.cell? ⟨w.heap.size + 1 + 1, 0, none⟩ = some (.func (.func 10) #[] #[Ptr (w.heap.size + 1)])) (exact ⟨W3.c0 w (Ptr nb) (.slice none 0 0), W3.old w (Ptr nb) (.slice none 0 0) nb hlt hc0, W3.c2 w (Ptr nb) (.slice none 0 0)⟩)
    (first | (go_at_call 13; refine (cf_any (w.heap.size + 1) (.slice none 0 0) vN [] N _ ?_ ?_ ?_).mono ?_; (exact W3.c1 w (Ptr nb) (.slice none 0 0)); (exact HR.out.below (W3.below w (Ptr nb) (.slice none 0 0)).drew (Nat.le_refl _)); (exact HN.out.below (W3.below w (Ptr nb) (.slice none 0 0)).drew (Nat.le_refl _)); rintro e w' ⟨rfl, rfl⟩))
  go_wp2_with fail
  go_ret
  exact ⟨ret_eq (base_any [] N), (W3.below _ _ _).drew⟩

theorem permits_some_all (ab : Nat) (vA : Value) (E : List Nat) (nb : Nat) (vN : Value) (N : List Nat) (w : World) (ha : AccAt w ab vA E false) (hn : AccAt w nb vN N false) :
    Calls Yba.prog 7 #[Ptr ab, Ptr nb] w fun e w' => e = .returned (.bool (Plain.base E N false)) ∧ Below w.heap.size w w' := by
  have hlt := hn.lt
  have hlt1 : nb < w.heap.size + 1 := by omega
  have hlt2 : nb < w.heap.size + 1 + 1 := by omega
  have hc0 := hn.c0
  have hc1 := hn.c1
  have HN : Hid (RowP w vN N) := hn.row
  obtain ⟨aA, cA, rfl, _⟩ := ha.row.row
  have alt := ha.lt
  have alt1 : ab < w.heap.size + 1 := by omega
  have alt2 : ab < w.heap.size + 1 + 1 := by omega
  have ac0 := ha.c0
  have ac1 := ha.c1
  have HR : Hid (RowP w (.slice aA E.length cA) E) := ha.row
  clear hn ha
  go_enter Yba.func7, Yba.ntmps7
  go_wp2_with (go_at_call 9; refine (ents_some ab (.slice aA E.length cA) _ ?_).mono ?_; (rw [World.cell?_alloc_past _ _ _ alt]; exact ac0); rintro e w' ⟨rfl, rfl⟩)
  refine (cf_all (w.heap.size + 1 + 1) (w.heap.size + 1) (.slice aA E.length cA) vN E N (W3 w (Ptr nb) (.slice aA E.length cA)) (W3.c2 _ _ _) (W3.c1 _ _ _) (HR.out.below (W3.below _ _ _) (Nat.le_refl _)) (HN.out.below (W3.below _ _ _) (Nat.le_refl _))).mono ?_
  rintro e w' ⟨rfl, rfl⟩
  go_wp2_with fail
  go_ret
  exact ⟨ret_eq (base_all E N), W3.below _ _ _⟩

theorem permits_some_any (ab : Nat) (vA : Value) (E : List Nat) (nb : Nat) (vN : Value) (N : List Nat) (w : World) (ha : AccAt w ab vA E false) (hn : AccAt w nb vN N true) :
    Calls Yba.prog 7 #[Ptr ab, Ptr nb] w fun e w' => e = .returned (.bool (Plain.base E N true)) ∧ Below w.heap.size w w' := by
  have hlt := hn.lt
  have hlt1 : nb < w.heap.size + 1 := by omega
  have hlt2 : nb < w.heap.size + 1 + 1 := by omega
  have hc0 := hn.c0
  have hc1 := hn.c1
  have HN : Hid (RowP w vN N) := hn.row
  obtain ⟨aA, cA, rfl, _⟩ := ha.row.row
  have alt := ha.lt
  have alt1 : ab < w.heap.size + 1 := by omega
  have alt2 : ab < w.heap.size + 1 + 1 := by omega
  have ac0 := ha.c0
  have ac1 := ha.c1
  have HR : Hid (RowP w (.slice aA E.length cA) E) := ha.row
  clear hn ha
  go_enter Yba.func7, Yba.ntmps7
  go_wp2_with (go_at_call 9; refine (ents_some ab (.slice aA E.length cA) _ ?_).mono ?_; (rw [World.cell?_alloc_past _ _ _ alt]; exact ac0); rintro e w' ⟨rfl, rfl⟩)
  go_region_held3 (fun w' => w'.cell? ⟨w.heap.size, 0, none⟩ = some (Ptr nb) ∧ w'.cell? ⟨nb, 0, none⟩ = some vN ∧ w'.cell? ⟨w.heap.size + 1 + 1, 0, none⟩ = some (.func (.func 10) #[] #[Ptr (w.heap.size + 1)])) (exact ⟨W3.c0 w (Ptr nb) (.slice aA E.length cA), W3.old w (Ptr nb) (.slice aA E.length cA) nb hlt hc0, W3.c2 w (Ptr nb) (.slice aA E.length cA)⟩)
    (first | (go_at_call 13; refine (cf_any (w.heap.size + 1) (.slice aA E.length cA) vN E N _ ?_ ?_ ?_).mono ?_; (exact W3.c1 w (Ptr nb) (.slice aA E.length cA)); (exact HR.out.below (W3.below w (Ptr nb) (.slice aA E.length cA)).drew (Nat.le_refl _)); (exact HN.out.below (W3.below w (Ptr nb) (.slice aA E.length cA)).drew (Nat.le_refl _)); rintro e w' ⟨rfl, rfl⟩))
  go_wp2_with fail
  go_ret
  exact ⟨ret_eq (base_any E N), (W3.below _ _ _).drew⟩

end Go.Proofs.Ybulkmog
