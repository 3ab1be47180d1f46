/-
  slices.Index, Contains, IndexFunc, ContainsFunc over slices of pointers.
-/
import Derived.Test.YbulkmogRows
import Derived.Test.YbulkmogPlain
import Derived.WalkKit
import Derived.WalkSpells
import Derived.WalkLawsBesides
import Derived.LaidEqlPtr
namespace Go.Proofs.Ybulkmog
open Go.RowKit

abbrev Ptr (g : Nat) : Value := .pointer (some ⟨g, 0, none⟩)

/-- block g is an entitlement's -/
def Ent (w : World) (g : Nat) : Prop := ∃ c, w.heap[g]? = some (.cells c 37 (0, 0))

theorem Ent.lt {w : World} {g : Nat} (h : Ent w g) : g < w.heap.size := by
  obtain ⟨c, h⟩ := h
  rcases Nat.lt_or_ge g w.heap.size with hlt | hge
  · exact hlt
  · rw [Array.getElem?_eq_none hge] at h; cases h

theorem Ent.below {w w' : World} {g B : Nat} (h : Ent w g) (hb : Below B w w') (hB : w.heap.size ≤ B) : Ent w' g := by
  have hl := h.lt
  obtain ⟨c, h⟩ := h
  exact ⟨c, by rw [hb.block g (by omega)]; exact h⟩

/-- the value v is a slice that reads as the pointers to the blocks E -/
structure RowP (w : World) (v : Value) (E : List Nat) : Prop where
  len : E.length ≤ 1024
  ent : ∀ g, g ∈ E → Ent w g
  row : ∃ a cap, v = .slice a E.length cap ∧ (0 < E.length → ∃ g o, a = some ⟨g, o, none⟩ ∧ g < w.heap.size ∧ ∀ i, i < E.length → w.cell? ⟨g, o + i, none⟩ = some (Ptr (E.getD i 0)))

theorem RowP.below {w w' : World} {v : Value} {E : List Nat} {B : Nat} (h : RowP w v E) (hb : Below B w w') (hB : w.heap.size ≤ B) : RowP w' v E := by
  obtain ⟨h1, he, a, cap, hv, hc⟩ := h
  refine ⟨h1, fun g hg => (he g hg).below hb hB, a, cap, hv, fun hp => ?_⟩
  obtain ⟨g, o, ha, hg, hc⟩ := hc hp
  refine ⟨g, o, ha, by have := hb.size; omega, fun i hi => ?_⟩
  rw [hb.cell (p := ⟨g, o + i, none⟩) (show g < B by omega)]
  exact hc i hi

theorem getD_mem {E : List Nat} {k : Nat} (hk : k < E.length) : E.getD k 0 ∈ E := by
  rw [List.getD, List.getElem?_eq_getElem hk]
  exact List.getElem_mem hk

theorem take_snoc {E : List Nat} {k : Nat} (hk : k < E.length) : E.take (k + 1) = E.take k ++ [E.getD k 0] := by
  rw [List.take_succ_eq_append_getElem hk, List.getD, List.getElem?_eq_getElem hk]
  rfl

theorem any_take_succ {E : List Nat} {p : Nat → Bool} {k : Nat} (hk : k < E.length) (h : (E.take k).any p = false) (hx : p (E.getD k 0) = false) : (E.take (k + 1)).any p = false := by
  rw [take_snoc hk, List.any_append, h]
  simp only [List.any_cons, List.any_nil, hx, Bool.or_false]

theorem any_hit {E : List Nat} {p : Nat → Bool} {k : Nat} (hk : k < E.length) (hx : p (E.getD k 0) = true) : E.any p = true :=
  List.any_eq_true.2 ⟨_, getD_mem hk, hx⟩

theorem Yba.info37 : (Yba.prog.info? 37).map (fun i => (i.zero.isSome, i.size)) = some (true, 2) := by kernel_rfl

theorem eql_ent (w : World) (x y : Nat) (hx : Ent w x) (hy : Ent w y) : (binOp .eql 33 (Ptr x) (Ptr y)).run Yba.prog w = .ok (.bool (x == y)) w := by
  obtain ⟨j, hj, hjj⟩ := Option.map_eq_some_iff.1 Yba.info37
  have hsz : j.size ≠ 0 := by simp at hjj; omega
  by_cases h : x = y
  · subst h
    rw [run_eql_ptr_same w ⟨x, 0, none⟩ Yba.underlying33 hj]
    simp
  · obtain ⟨c, hx⟩ := hx
    obtain ⟨d, hy⟩ := hy
    rw [run_eql_ptr_other w (a := ⟨x, 0, none⟩) (b := ⟨y, 0, none⟩) Yba.underlying33 hj hsz (fun e => h (congrArg Addr.block e)) hx hy]
    simp [h]

/-- slices.Index -/
theorem index_any (v : Value) (E : List Nat) (x : Nat) (w : World) (h : RowP w v E) (hx : Ent w x) :
    Calls Yba.prog 18 #[v, Ptr x] w fun e w' => (∃ n : Int, e = .returned (.int .i64 n) ∧ decide (0 ≤ n) = E.any (fun y => x == y)) ∧ w' = w := by
  obtain ⟨hl, hent, a, cap, rfl, hc⟩ := h
  have HC : Hid (0 < E.length → ∃ g o, a = some ⟨g, o, none⟩ ∧ g < w.heap.size ∧ ∀ i, i < E.length → w.cell? ⟨g, o + i, none⟩ = some (Ptr (E.getD i 0))) := hc
  have HE : Hid (∀ g, g ∈ E → Ent w g) := hent
  have HX : Hid (Ent w x) := hx
  clear hc hent hx
  go_enter Yba.func18, Yba.ntmps18
  go_wp2
  go_loop [8] (fun i => ∃ k : Nat, k ≤ E.length ∧ i = .int .i64 k ∧ Hid ((E.take k).any (fun y => x == y) = false)) (fun i => E.length - (intOf i).toNat)
  case atStart => exact ⟨0, Nat.zero_le _, rfl, by show _ = _; simp⟩
  case round =>
    obtain ⟨k, hk, rfl, hno⟩ := hrel
    by_cases hlt : k < E.length
    · obtain ⟨g, o, rfl, hg, hcell⟩ := HC.out (by omega)
      have hck := hcell k hlt
      have heq := eql_ent w x (E.getD k 0) HX.out (HE.out _ (getD_mem hlt))
      have HH : Hid ((x == E.getD k 0) = true → E.any (fun y => x == y) = true) := fun h => any_hit (p := fun y => x == y) hlt h
      have HT : Hid ((x == E.getD k 0) = false → (E.take (k + 1)).any (fun y => x == y) = false) := fun h => any_take_succ hlt hno h
      clear hcell
      generalize E.getD k 0 = y at *
      cases hxy : (x == y)
      · rw [hxy] at heq
        have HT' := HT.out hxy
        have HTT : Hid ((E.take (k + 1)).any (fun y => x == y) = false) := HT'
        clear hxy HT' HT HH
        go_wp2
        go_round
        case rel => exact ⟨k + 1, by omega, by go_num, HTT⟩
        case measure => simp [intOf]; omega
      · rw [hxy] at heq
        have HTT : Hid (E.any (fun y => x == y) = true) := HH.out hxy
        clear hxy HT HH
        go_wp2
        go_ret
        exact ⟨⟨k, rfl, by rw [HTT.out]; simp⟩, rfl⟩
    · have hkn : k = E.length := by omega
      have HN : Hid (E.any (fun y => x == y) = false) := by
        have := hno.out
        rwa [hkn, List.take_length] at this
      clear hno
      go_wp2
      go_ret
      exact ⟨⟨-1, rfl, by rw [HN.out]; rfl⟩, rfl⟩

/-- slices.Contains -/
theorem contains_any (v : Value) (E : List Nat) (x : Nat) (w : World) (h : RowP w v E) (hx : Ent w x) :
    Calls Yba.prog 11 #[v, Ptr x] w fun e w' => e = .returned (.bool (E.any (fun y => x == y))) ∧ w' = w := by
  go_enter Yba.func11, Yba.ntmps11
  go_wp2_with fail
  refine (index_any v E x w h hx).mono ?_
  rintro e w' ⟨⟨n, rfl, hn⟩, rfl⟩
  go_wp2_with fail
  go_ret
  exact ⟨by first | rfl | simp [hn], rfl⟩
end Go.Proofs.Ybulkmog
