/-
  slices.IndexFunc, ContainsFunc over slices of pointers, the function a closure over one captured variable.
-/
import Derived.Test.YbulkmogIdx
namespace Go.Proofs.Ybulkmog
open Go.RowKit

theorem enter10 (args : Array Value) (w : World) : (callFunc 10 args).run Yba.prog w = .ok (.enter 10 args) w := by
  simp [callFunc, Yba.func10]; rfl
theorem enter14 (args : Array Value) (w : World) : (callFunc 14 args).run Yba.prog w = .ok (.enter 14 args) w := by
  simp [callFunc, Yba.func14]; rfl
theorem enter15 (args : Array Value) (w : World) : (callFunc 15 args).run Yba.prog w = .ok (.enter 15 args) w := by
  simp [callFunc, Yba.func15]; rfl

/-- slices.IndexFunc -/
theorem indexFunc_any (v c : Value) (E : List Nat) (K : FuncId) (p : Nat → Bool) (w : World) (h : RowP w v E)
    (hK : ∀ (args : Array Value) (w : World), (callFunc K args).run Yba.prog w = .ok (.enter K args) w)
    (I : World → Prop) (hI : I w) (hIc : ∀ w', I w' → ∀ q : Addr, q.block < w.heap.size → w'.cell? q = w.cell? q)
    (hf : ∀ x, x ∈ E → ∀ w', I w' → Calls Yba.prog K #[Ptr x, c] w' fun e w'' => e = .returned (.bool (p x)) ∧ I w'') :
    Calls Yba.prog 19 #[v, .func (.func K) #[] #[c]] w fun e w' => (∃ n : Int, e = .returned (.int .i64 n) ∧ decide (0 ≤ n) = E.any p) ∧ I w' := by
  obtain ⟨hl, hent, a, cap, rfl, hc⟩ := h
  have HC : Hid (0 < E.length → ∃ g o, a = some ⟨g, o, none⟩ ∧ g < w.heap.size ∧ ∀ i, i < E.length → w.cell? ⟨g, o + i, none⟩ = some (Ptr (E.getD i 0))) := hc
  have HF : Hid (∀ x, x ∈ E → ∀ w', I w' → Calls Yba.prog K #[Ptr x, c] w' fun e w'' => e = .returned (.bool (p x)) ∧ I w'') := hf
  have HI0 : Hid (I w) := hI
  have HIC : Hid (∀ w', I w' → ∀ q : Addr, q.block < w.heap.size → w'.cell? q = w.cell? q) := hIc
  clear hc hent hf hI hIc
  go_enter Yba.func19, Yba.ntmps19
  go_wp2
  go_loopw [8] (fun i wr => ∃ k : Nat, k ≤ E.length ∧ i = .int .i64 k ∧ Hid ((E.take k).any p = false) ∧ Hid (I wr)) (fun i _ => E.length - (intOf i).toNat)
  case atStart => exact ⟨0, Nat.zero_le _, rfl, by show _ = _; simp, HI0⟩
  case round =>
    obtain ⟨k, hk, rfl, hno, hbel⟩ := hrel
    by_cases hlt : k < E.length
    · obtain ⟨g, o, rfl, hg, hcell⟩ := HC.out (by omega)
      have hck := (HIC.out wr hbel.out ⟨g, o + k, none⟩ hg).trans (hcell k hlt)
      have HCK := HF.out (E.getD k 0) (getD_mem hlt) wr hbel.out
      have HH : Hid (p (E.getD k 0) = true → E.any p = true) := fun h => any_hit hlt h
      have HT : Hid (p (E.getD k 0) = false → (E.take (k + 1)).any p = false) := fun h => any_take_succ hlt hno h
      clear hcell hbel
      generalize E.getD k 0 = y at *
      have HCC : Hid (Calls Yba.prog K #[Ptr y, c] wr fun e w'' => e = .returned (.bool (p y)) ∧ I w'') := HCK
      clear HCK
      go_wp2_with fail
      refine HCC.out.mono ?_
      rintro e w' ⟨rfl, hb0⟩
      have hb' : Hid (I w') := hb0
      clear hb0
      cases hp : p y
      · have HTT : Hid ((E.take (k + 1)).any p = false) := HT.out hp
        clear hp HT HH hck HCC
        go_wp2_with fail
        go_roundw
        case rel => exact ⟨k + 1, by omega, by go_num, HTT, hb'⟩
        case measure => simp [intOf]; omega
      · have HTT : Hid (E.any p = true) := HH.out hp
        clear hp HT HH hck HCC
        go_wp2_with fail
        go_ret
        exact ⟨⟨k, rfl, by rw [HTT.out]; simp⟩, hb'.out⟩
    · have hkn : k = E.length := by omega
      have HN : Hid (E.any p = false) := by
        have := hno.out
        rwa [hkn, List.take_length] at this
      clear hno
      go_wp2_with fail
      go_ret
      exact ⟨⟨-1, rfl, by rw [HN.out]; rfl⟩, hbel.out⟩
/-- slices.ContainsFunc -/
theorem containsFunc_any (v c : Value) (E : List Nat) (K : FuncId) (p : Nat → Bool) (w : World) (h : RowP w v E)
    (hK : ∀ (args : Array Value) (w : World), (callFunc K args).run Yba.prog w = .ok (.enter K args) w)
    (I : World → Prop) (hI : I w) (hIc : ∀ w', I w' → ∀ q : Addr, q.block < w.heap.size → w'.cell? q = w.cell? q)
    (hf : ∀ x, x ∈ E → ∀ w', I w' → Calls Yba.prog K #[Ptr x, c] w' fun e w'' => e = .returned (.bool (p x)) ∧ I w'') :
    Calls Yba.prog 13 #[v, .func (.func K) #[] #[c]] w fun e w' => e = .returned (.bool (E.any p)) ∧ I w' := by
  have HF := indexFunc_any v c E K p w h hK I hI hIc hf
  have HH : Hid (Calls Yba.prog 19 #[v, .func (.func K) #[] #[c]] w fun e w' => (∃ n : Int, e = .returned (.int .i64 n) ∧ decide (0 ≤ n) = E.any p) ∧ I w') := HF
  clear HF hf h hK hI hIc
  go_enter Yba.func13, Yba.ntmps13
  go_wp2_with fail
  refine HH.out.mono ?_
  rintro e w' ⟨⟨n, rfl, hn⟩, hb0⟩
  have hb : Hid (I w') := hb0
  clear hb0
  go_wp2_with fail
  go_ret
  exact ⟨by first | rfl | simp [hn], hb.out⟩

/-- the closure 'held': is e among what the captured variable holds? -/
theorem held_any (h x : Nat) (v : Value) (E : List Nat) (w : World) (hc : w.cell? ⟨h, 0, none⟩ = some v) (hr : RowP w v E) (hx : Ent w x) :
    Calls Yba.prog 10 #[Ptr x, Ptr h] w fun e w' => e = .returned (.bool (E.any (fun y => x == y))) ∧ w' = w := by
  have HC := contains_any v E x w hr hx
  have HH : Hid (Calls Yba.prog 11 #[v, Ptr x] w fun e w' => e = .returned (.bool (E.any (fun y => x == y))) ∧ w' = w) := HC
  clear HC hr hx
  go_enter Yba.func10, Yba.ntmps10
  go_wp2_with fail
  refine HH.out.mono ?_
  rintro e w' ⟨rfl, rfl⟩
  go_wp2_with fail
  go_ret
  exact ⟨rfl, rfl⟩

/-- the closure that denies 'held' -/
theorem unheld_any (f h x : Nat) (v : Value) (E : List Nat) (w : World) (hf : w.cell? ⟨f, 0, none⟩ = some (.func (.func 10) #[] #[Ptr h])) (hc : w.cell? ⟨h, 0, none⟩ = some v) (hr : RowP w v E) (hx : Ent w x) :
    Calls Yba.prog 15 #[Ptr x, Ptr f] w fun e w' => e = .returned (.bool (!(E.any (fun y => x == y)))) ∧ w' = w := by
  have HH : Hid (Calls Yba.prog 10 #[Ptr x, Ptr h] w fun e w' => e = .returned (.bool (E.any (fun y => x == y))) ∧ w' = w) := held_any h x v E w hc hr hx
  clear hr hx hc
  go_enter Yba.func15, Yba.ntmps15
  go_wp2_with fail
  refine HH.out.mono ?_
  rintro e w' ⟨rfl, rfl⟩
  go_wp2_with fail
  go_ret
  exact ⟨rfl, rfl⟩
end Go.Proofs.Ybulkmog
