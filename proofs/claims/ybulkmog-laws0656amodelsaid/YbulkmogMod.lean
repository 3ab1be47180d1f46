/-
  The law's own model.
-/
import Derived.Test.YbulkmogBld
namespace Go.Proofs.Ybulkmog
open Go.RowKit

theorem all_take_succ {E : List Nat} {p : Nat → Bool} {k : Nat} (hk : k < E.length) (h : (E.take k).all p = true) (hx : p (E.getD k 0) = true) : (E.take (k + 1)).all p = true := by
  rw [take_snoc hk, List.all_append, h]
  simp only [List.all_cons, List.all_nil, hx, Bool.and_true]
theorem all_miss {E : List Nat} {p : Nat → Bool} {k : Nat} (hk : k < E.length) (hx : p (E.getD k 0) = false) : E.all p = false := by
  rw [List.all_eq_false]
  exact ⟨_, getD_mem hk, by rw [hx]; decide⟩

theorem in_any (v : Value) (K : List Nat) (x : Nat) (w : World) (h : RowI w v K) :
    Calls Yba.prog 17 #[v, .int .i64 (x : Nat)] w fun e w' => e = .returned (.bool (K.contains x)) ∧ w = w' := by
  obtain ⟨hl, a, cap, rfl, hc⟩ := h
  have HC : Hid (0 < K.length → ∃ g o, a = some ⟨g, o, none⟩ ∧ g < w.heap.size ∧ ∀ i, i < K.length → w.cell? ⟨g, o + i, none⟩ = some (.int .i64 (K.getD i 0 : Nat))) := hc
  have e0 : K.contains x = K.any (fun y => y == x) := by rw [Bool.eq_iff_iff]; simp
  rw [e0]
  clear hc e0
  go_enter Yba.func17, Yba.ntmps17
  go_wp2
  go_loop [9] (fun i => ∃ k : Nat, k ≤ K.length ∧ i = .int .i64 k ∧ Hid ((K.take k).any (fun y => y == x) = false)) (fun i => K.length - (intOf i).toNat)
  case atStart => exact ⟨0, Nat.zero_le _, rfl, by show _ = _; simp⟩
  case round =>
    obtain ⟨k, hk, rfl, hno⟩ := hrel
    by_cases hlt : k < K.length
    · obtain ⟨g, o, rfl, hg, hcell⟩ := HC.out (by omega)
      have hck := hcell k hlt
      have HH : Hid ((K.getD k 0 == x) = true → K.any (fun y => y == x) = true) := fun h => any_hit (p := fun y => y == x) hlt h
      have HT : Hid ((K.getD k 0 == x) = false → (K.take (k + 1)).any (fun y => y == x) = false) := fun h => any_take_succ (p := fun y => y == x) hlt hno h
      clear hcell
      generalize K.getD k 0 = y at *
      by_cases hxy : y = x
      · have hb : ((y : Int) == (x : Int)) = true := by simp [hxy]
        have HTT : Hid (K.any (fun y => y == x) = true) := HH.out (by simp [hxy])
        clear hxy HT HH
        go_wp2
        go_ret
        exact ⟨by rw [HTT.out]; rfl, rfl⟩
      · have hb : ((y : Int) == (x : Int)) = false := by simp; omega
        have HTT : Hid ((K.take (k + 1)).any (fun y => y == x) = false) := HT.out (by simp [hxy])
        clear hxy HT HH
        go_wp2
        go_round
        case rel => exact ⟨k + 1, by omega, by go_num, HTT⟩
        case measure => simp [intOf]; omega
    · have hkn : k = K.length := by omega
      have HN : Hid (K.any (fun y => y == x) = false) := by
        have := hno.out
        rwa [hkn, List.take_length] at this
      clear hno
      go_wp2
      go_ret
      exact ⟨by rw [HN.out]; rfl, rfl⟩

theorem single_any (h : Nat) (v : Value) (K : List Nat) (any : Bool) (w : World) (hr : RowI w v K) :
    Calls Yba.prog 16 #[.int .i64 (h : Nat), v, .bool any] w fun e w' => e = .returned (.bool (Plain.single h K any)) ∧ w = w' := by
  cases any
  · obtain ⟨hl, a, cap, rfl, hc⟩ := hr
    have HC : Hid (0 < K.length → ∃ g o, a = some ⟨g, o, none⟩ ∧ g < w.heap.size ∧ ∀ i, i < K.length → w.cell? ⟨g, o + i, none⟩ = some (.int .i64 (K.getD i 0 : Nat))) := hc
    have e0 : Plain.single h K false = K.all (fun y => y == h) := rfl
    rw [e0]
    clear hc e0
    go_enter Yba.func16, Yba.ntmps16
    go_wp2
    go_loop [15] (fun i => ∃ k : Nat, k ≤ K.length ∧ i = .int .i64 k ∧ Hid ((K.take k).all (fun y => y == h) = true)) (fun i => K.length - (intOf i).toNat)
    case atStart => exact ⟨0, Nat.zero_le _, rfl, by show _ = _; simp⟩
    case round =>
      obtain ⟨k, hk, rfl, hno⟩ := hrel
      by_cases hlt : k < K.length
      · obtain ⟨g, o, rfl, hg, hcell⟩ := HC.out (by omega)
        have hck := hcell k hlt
        have HH : Hid ((K.getD k 0 == h) = false → K.all (fun y => y == h) = false) := fun h' => all_miss (p := fun y => y == h) hlt h'
        have HT : Hid ((K.getD k 0 == h) = true → (K.take (k + 1)).all (fun y => y == h) = true) := fun h' => all_take_succ (p := fun y => y == h) hlt hno h'
        clear hcell
        generalize K.getD k 0 = y at *
        by_cases hxy : y = h
        · have hb : ((y : Int) != (h : Int)) = false := by simp [hxy]
          have HTT : Hid ((K.take (k + 1)).all (fun y => y == h) = true) := HT.out (by simp [hxy])
          clear hxy HT HH
          go_wp2
          go_round
          case rel => exact ⟨k + 1, by omega, by go_num, HTT⟩
          case measure => simp [intOf]; omega
        · have hb : ((y : Int) != (h : Int)) = true := by simp; omega
          have HTT : Hid (K.all (fun y => y == h) = false) := HH.out (by simp [hxy])
          clear hxy HT HH
          go_wp2
          go_ret
          exact ⟨by rw [HTT.out]; rfl, rfl⟩
      · have hkn : k = K.length := by omega
        have HN : Hid (K.all (fun y => y == h) = true) := by
          have := hno.out
          rwa [hkn, List.take_length] at this
        clear hno
        go_wp2
        go_ret
        exact ⟨by rw [HN.out]; rfl, rfl⟩
  · have HI : Hid (Calls Yba.prog 17 #[v, .int .i64 (h : Nat)] w fun e w' => e = .returned (.bool (K.contains h)) ∧ w = w') := in_any v K h w hr
    clear hr
    go_enter Yba.func16, Yba.ntmps16
    go_wp2_with fail
    refine HI.out.mono ?_
    rintro e w' ⟨rfl, rfl⟩
    go_wp2_with fail
    go_ret
    exact ⟨ret_eq (by simp [Plain.single]), rfl⟩

theorem model_need_nil (aNil aAny nAny : Bool) (vE vN : Value) (E N : List Nat) (w : World) :
    Calls Yba.prog 8 #[.bool aNil, vE, .bool aAny, .bool true, vN, .bool nAny] w fun e w' => e = .returned (.bool (Plain.model aNil E aAny true N nAny)) ∧ w = w' := by
  go_enter Yba.func8, Yba.ntmps8
  go_wp2
  go_ret
  exact ⟨rfl, rfl⟩

/-- the model where the set is a choice -/
theorem model_choice (nAny : Bool) (vE vN : Value) (E N : List Nat) (w : World) (hE : RowI w vE E) (hN : RowI w vN N) :
    Calls Yba.prog 8 #[.bool false, vE, .bool true, .bool false, vN, .bool nAny] w fun e w' => e = .returned (.bool (E.all (fun h => Plain.single h N nAny))) ∧ w = w' := by
  obtain ⟨hl, a, cap, rfl, hc⟩ := hE
  have HC : Hid (0 < E.length → ∃ g o, a = some ⟨g, o, none⟩ ∧ g < w.heap.size ∧ ∀ i, i < E.length → w.cell? ⟨g, o + i, none⟩ = some (.int .i64 (E.getD i 0 : Nat))) := hc
  have HS : Hid (∀ h : Nat, Calls Yba.prog 16 #[.int .i64 (h : Nat), vN, .bool nAny] w fun e w' => e = .returned (.bool (Plain.single h N nAny)) ∧ w = w') := fun h => single_any h vN N nAny w hN
  clear hc hN
  go_enter Yba.func8, Yba.ntmps8
  go_wp2_with fail
  go_loopw [27] (fun i wr => ∃ k : Nat, k ≤ E.length ∧ i = .int .i64 k ∧ Hid ((E.take k).all (fun h => Plain.single h N nAny) = true) ∧ wr = w) (fun i _ => E.length - (intOf i).toNat)
  case atStart => exact ⟨0, Nat.zero_le _, rfl, by show _ = _; simp, rfl⟩
  case round =>
    obtain ⟨k, hk, rfl, hno, rfl⟩ := hrel
    by_cases hlt : k < E.length
    · obtain ⟨g, o, rfl, hg, hcell⟩ := HC.out (by omega)
      have hck := hcell k hlt
      have HH : Hid (Plain.single (E.getD k 0) N nAny = false → E.all (fun h => Plain.single h N nAny) = false) := fun h' => all_miss (p := fun h => Plain.single h N nAny) hlt h'
      have HT : Hid (Plain.single (E.getD k 0) N nAny = true → (E.take (k + 1)).all (fun h => Plain.single h N nAny) = true) := fun h' => all_take_succ (p := fun h => Plain.single h N nAny) hlt hno h'
      clear hcell
      generalize E.getD k 0 = y at *
      go_wp2_with fail
      refine (HS.out y).mono ?_
      rintro e w' ⟨rfl, rfl⟩
      cases hp : Plain.single y N nAny
      · have HTT : Hid (E.all (fun h => Plain.single h N nAny) = false) := HH.out hp
        clear hp HT HH
        go_wp2_with fail
        go_ret
        exact ⟨by rw [HTT.out]; rfl, rfl⟩
      · have HTT : Hid ((E.take (k + 1)).all (fun h => Plain.single h N nAny) = true) := HT.out hp
        clear hp HT HH
        go_wp2_with fail
        go_roundw
        case rel => exact ⟨k + 1, by omega, by go_num, HTT, by first | rfl | trivial⟩
        case measure => simp [intOf]; omega
    · have hkn : k = E.length := by omega
      have HN : Hid (E.all (fun h => Plain.single h N nAny) = true) := by
        have := hno.out
        rwa [hkn, List.take_length] at this
      clear hno
      go_wp2_with fail
      go_ret
      exact ⟨by rw [HN.out]; rfl, rfl⟩
theorem model_any_nn (vE vN : Value) (N : List Nat) (p : Nat → Bool) (w : World) (hN : RowI w vN N)
    (hS : ∀ n : Nat, Calls Yba.prog 17 #[vE, .int .i64 (n : Nat)] w fun e w' => e = .returned (.bool (p n)) ∧ w = w') :
    Calls Yba.prog 8 #[.bool true, vE, .bool true, .bool false, vN, .bool true] w fun e w' => e = .returned (.bool (N.any p)) ∧ w = w' := by
  obtain ⟨hl, a, cap, rfl, hc⟩ := hN
  have HC : Hid (0 < N.length → ∃ g o, a = some ⟨g, o, none⟩ ∧ g < w.heap.size ∧ ∀ i, i < N.length → w.cell? ⟨g, o + i, none⟩ = some (.int .i64 (N.getD i 0 : Nat))) := hc
  have HS : Hid (∀ n : Nat, Calls Yba.prog 17 #[vE, .int .i64 (n : Nat)] w fun e w' => e = .returned (.bool (p n)) ∧ w = w') := hS
  clear hc hS
  go_enter Yba.func8, Yba.ntmps8
  go_wp2_with fail
  go_loopw [40] (fun i wr => ∃ k : Nat, k ≤ N.length ∧ i = .int .i64 k ∧ Hid ((N.take k).any p = false) ∧ wr = w) (fun i _ => N.length - (intOf i).toNat)
  case atStart => exact ⟨0, Nat.zero_le _, rfl, by show _ = _; simp, rfl⟩
  case round =>
    obtain ⟨k, hk, rfl, hno, rfl⟩ := hrel
    by_cases hlt : k < N.length
    · obtain ⟨g, o, rfl, hg, hcell⟩ := HC.out (by omega)
      have hck := hcell k hlt
      have HH : Hid (p (N.getD k 0) = true → N.any p = true) := fun h' => any_hit hlt h'
      have HT : Hid (p (N.getD k 0) = false → (N.take (k + 1)).any p = false) := fun h' => any_take_succ hlt hno h'
      clear hcell
      generalize N.getD k 0 = y at *
      go_wp2_with fail
      refine (HS.out y).mono ?_
      rintro e w' ⟨rfl, rfl⟩
      rcases (show p y = true ∨ p y = false by cases p y <;> simp) with hp | hp
      · have HTT : Hid (N.any p = true) := HH.out hp
        clear HT HH
        go_wp2_with fail
        go_ret
        exact ⟨by rw [HTT.out]; rfl, rfl⟩
      · have HTT : Hid ((N.take (k + 1)).any p = false) := HT.out hp
        clear HT HH
        go_wp2_with fail
        go_roundw
        case rel => exact ⟨k + 1, by omega, by go_num, HTT, by first | rfl | trivial⟩
        case measure => simp [intOf]; omega
    · have hkn : k = N.length := by omega
      have HN : Hid (N.any p = false) := by
        have := hno.out
        rwa [hkn, List.take_length] at this
      clear hno
      go_wp2_with fail
      go_ret
      exact ⟨by rw [HN.out]; rfl, rfl⟩

theorem model_all_nn (vE vN : Value) (N : List Nat) (p : Nat → Bool) (w : World) (hN : RowI w vN N)
    (hS : ∀ n : Nat, Calls Yba.prog 17 #[vE, .int .i64 (n : Nat)] w fun e w' => e = .returned (.bool (p n)) ∧ w = w') :
    Calls Yba.prog 8 #[.bool true, vE, .bool true, .bool false, vN, .bool false] w fun e w' => e = .returned (.bool (N.all p)) ∧ w = w' := by
  obtain ⟨hl, a, cap, rfl, hc⟩ := hN
  have HC : Hid (0 < N.length → ∃ g o, a = some ⟨g, o, none⟩ ∧ g < w.heap.size ∧ ∀ i, i < N.length → w.cell? ⟨g, o + i, none⟩ = some (.int .i64 (N.getD i 0 : Nat))) := hc
  have HS : Hid (∀ n : Nat, Calls Yba.prog 17 #[vE, .int .i64 (n : Nat)] w fun e w' => e = .returned (.bool (p n)) ∧ w = w') := hS
  clear hc hS
  go_enter Yba.func8, Yba.ntmps8
  go_wp2_with fail
  go_loopw [50] (fun i wr => ∃ k : Nat, k ≤ N.length ∧ i = .int .i64 k ∧ Hid ((N.take k).all p = true) ∧ wr = w) (fun i _ => N.length - (intOf i).toNat)
  case atStart => exact ⟨0, Nat.zero_le _, rfl, by show _ = _; simp, rfl⟩
  case round =>
    obtain ⟨k, hk, rfl, hno, rfl⟩ := hrel
    by_cases hlt : k < N.length
    · obtain ⟨g, o, rfl, hg, hcell⟩ := HC.out (by omega)
      have hck := hcell k hlt
      have HH : Hid (p (N.getD k 0) = false → N.all p = false) := fun h' => all_miss hlt h'
      have HT : Hid (p (N.getD k 0) = true → (N.take (k + 1)).all p = true) := fun h' => all_take_succ hlt hno h'
      clear hcell
      generalize N.getD k 0 = y at *
      go_wp2_with fail
      refine (HS.out y).mono ?_
      rintro e w' ⟨rfl, rfl⟩
      rcases (show p y = false ∨ p y = true by cases p y <;> simp) with hp | hp
      · have HTT : Hid (N.all p = false) := HH.out hp
        clear HT HH
        go_wp2_with fail
        go_ret
        exact ⟨by rw [HTT.out]; rfl, rfl⟩
      · have HTT : Hid ((N.take (k + 1)).all p = true) := HT.out hp
        clear HT HH
        go_wp2_with fail
        go_roundw
        case rel => exact ⟨k + 1, by omega, by go_num, HTT, by first | rfl | trivial⟩
        case measure => simp [intOf]; omega
    · have hkn : k = N.length := by omega
      have HN : Hid (N.all p = true) := by
        have := hno.out
        rwa [hkn, List.take_length] at this
      clear hno
      go_wp2_with fail
      go_ret
      exact ⟨by rw [HN.out]; rfl, rfl⟩

theorem model_any_nf (vE vN : Value) (N : List Nat) (p : Nat → Bool) (w : World) (hN : RowI w vN N)
    (hS : ∀ n : Nat, Calls Yba.prog 17 #[vE, .int .i64 (n : Nat)] w fun e w' => e = .returned (.bool (p n)) ∧ w = w') :
    Calls Yba.prog 8 #[.bool true, vE, .bool false, .bool false, vN, .bool true] w fun e w' => e = .returned (.bool (N.any p)) ∧ w = w' := by
  obtain ⟨hl, a, cap, rfl, hc⟩ := hN
  have HC : Hid (0 < N.length → ∃ g o, a = some ⟨g, o, none⟩ ∧ g < w.heap.size ∧ ∀ i, i < N.length → w.cell? ⟨g, o + i, none⟩ = some (.int .i64 (N.getD i 0 : Nat))) := hc
  have HS : Hid (∀ n : Nat, Calls Yba.prog 17 #[vE, .int .i64 (n : Nat)] w fun e w' => e = .returned (.bool (p n)) ∧ w = w') := hS
  clear hc hS
  go_enter Yba.func8, Yba.ntmps8
  go_wp2_with fail
  go_loopw [40] (fun i wr => ∃ k : Nat, k ≤ N.length ∧ i = .int .i64 k ∧ Hid ((N.take k).any p = false) ∧ wr = w) (fun i _ => N.length - (intOf i).toNat)
  case atStart => exact ⟨0, Nat.zero_le _, rfl, by show _ = _; simp, rfl⟩
  case round =>
    obtain ⟨k, hk, rfl, hno, rfl⟩ := hrel
    by_cases hlt : k < N.length
    · obtain ⟨g, o, rfl, hg, hcell⟩ := HC.out (by omega)
      have hck := hcell k hlt
      have HH : Hid (p (N.getD k 0) = true → N.any p = true) := fun h' => any_hit hlt h'
      have HT : Hid (p (N.getD k 0) = false → (N.take (k + 1)).any p = false) := fun h' => any_take_succ hlt hno h'
      clear hcell
      generalize N.getD k 0 = y at *
      go_wp2_with fail
      refine (HS.out y).mono ?_
      rintro e w' ⟨rfl, rfl⟩
      rcases (show p y = true ∨ p y = false by cases p y <;> simp) with hp | hp
      · have HTT : Hid (N.any p = true) := HH.out hp
        clear HT HH
        go_wp2_with fail
        go_ret
        exact ⟨by rw [HTT.out]; rfl, rfl⟩
      · have HTT : Hid ((N.take (k + 1)).any p = false) := HT.out hp
        clear HT HH
        go_wp2_with fail
        go_roundw
        case rel => exact ⟨k + 1, by omega, by go_num, HTT, by first | rfl | trivial⟩
        case measure => simp [intOf]; omega
    · have hkn : k = N.length := by omega
      have HN : Hid (N.any p = false) := by
        have := hno.out
        rwa [hkn, List.take_length] at this
      clear hno
      go_wp2_with fail
      go_ret
      exact ⟨by rw [HN.out]; rfl, rfl⟩

theorem model_all_nf (vE vN : Value) (N : List Nat) (p : Nat → Bool) (w : World) (hN : RowI w vN N)
    (hS : ∀ n : Nat, Calls Yba.prog 17 #[vE, .int .i64 (n : Nat)] w fun e w' => e = .returned (.bool (p n)) ∧ w = w') :
    Calls Yba.prog 8 #[.bool true, vE, .bool false, .bool false, vN, .bool false] w fun e w' => e = .returned (.bool (N.all p)) ∧ w = w' := by
  obtain ⟨hl, a, cap, rfl, hc⟩ := hN
  have HC : Hid (0 < N.length → ∃ g o, a = some ⟨g, o, none⟩ ∧ g < w.heap.size ∧ ∀ i, i < N.length → w.cell? ⟨g, o + i, none⟩ = some (.int .i64 (N.getD i 0 : Nat))) := hc
  have HS : Hid (∀ n : Nat, Calls Yba.prog 17 #[vE, .int .i64 (n : Nat)] w fun e w' => e = .returned (.bool (p n)) ∧ w = w') := hS
  clear hc hS
  go_enter Yba.func8, Yba.ntmps8
  go_wp2_with fail
  go_loopw [50] (fun i wr => ∃ k : Nat, k ≤ N.length ∧ i = .int .i64 k ∧ Hid ((N.take k).all p = true) ∧ wr = w) (fun i _ => N.length - (intOf i).toNat)
  case atStart => exact ⟨0, Nat.zero_le _, rfl, by show _ = _; simp, rfl⟩
  case round =>
    obtain ⟨k, hk, rfl, hno, rfl⟩ := hrel
    by_cases hlt : k < N.length
    · obtain ⟨g, o, rfl, hg, hcell⟩ := HC.out (by omega)
      have hck := hcell k hlt
      have HH : Hid (p (N.getD k 0) = false → N.all p = false) := fun h' => all_miss hlt h'
      have HT : Hid (p (N.getD k 0) = true → (N.take (k + 1)).all p = true) := fun h' => all_take_succ hlt hno h'
      clear hcell
      generalize N.getD k 0 = y at *
      go_wp2_with fail
      refine (HS.out y).mono ?_
      rintro e w' ⟨rfl, rfl⟩
      rcases (show p y = false ∨ p y = true by cases p y <;> simp) with hp | hp
      · have HTT : Hid (N.all p = false) := HH.out hp
        clear HT HH
        go_wp2_with fail
        go_ret
        exact ⟨by rw [HTT.out]; rfl, rfl⟩
      · have HTT : Hid ((N.take (k + 1)).all p = true) := HT.out hp
        clear HT HH
        go_wp2_with fail
        go_roundw
        case rel => exact ⟨k + 1, by omega, by go_num, HTT, by first | rfl | trivial⟩
        case measure => simp [intOf]; omega
    · have hkn : k = N.length := by omega
      have HN : Hid (N.all p = true) := by
        have := hno.out
        rwa [hkn, List.take_length] at this
      clear hno
      go_wp2_with fail
      go_ret
      exact ⟨by rw [HN.out]; rfl, rfl⟩

theorem model_any_sf (vE vN : Value) (N : List Nat) (p : Nat → Bool) (w : World) (hN : RowI w vN N)
    (hS : ∀ n : Nat, Calls Yba.prog 17 #[vE, .int .i64 (n : Nat)] w fun e w' => e = .returned (.bool (p n)) ∧ w = w') :
    Calls Yba.prog 8 #[.bool false, vE, .bool false, .bool false, vN, .bool true] w fun e w' => e = .returned (.bool (N.any p)) ∧ w = w' := by
  obtain ⟨hl, a, cap, rfl, hc⟩ := hN
  have HC : Hid (0 < N.length → ∃ g o, a = some ⟨g, o, none⟩ ∧ g < w.heap.size ∧ ∀ i, i < N.length → w.cell? ⟨g, o + i, none⟩ = some (.int .i64 (N.getD i 0 : Nat))) := hc
  have HS : Hid (∀ n : Nat, Calls Yba.prog 17 #[vE, .int .i64 (n : Nat)] w fun e w' => e = .returned (.bool (p n)) ∧ w = w') := hS
  clear hc hS
  go_enter Yba.func8, Yba.ntmps8
  go_wp2_with fail
  go_loopw [40] (fun i wr => ∃ k : Nat, k ≤ N.length ∧ i = .int .i64 k ∧ Hid ((N.take k).any p = false) ∧ wr = w) (fun i _ => N.length - (intOf i).toNat)
  case atStart => exact ⟨0, Nat.zero_le _, rfl, by show _ = _; simp, rfl⟩
  case round =>
    obtain ⟨k, hk, rfl, hno, rfl⟩ := hrel
    by_cases hlt : k < N.length
    · obtain ⟨g, o, rfl, hg, hcell⟩ := HC.out (by omega)
      have hck := hcell k hlt
      have HH : Hid (p (N.getD k 0) = true → N.any p = true) := fun h' => any_hit hlt h'
      have HT : Hid (p (N.getD k 0) = false → (N.take (k + 1)).any p = false) := fun h' => any_take_succ hlt hno h'
      clear hcell
      generalize N.getD k 0 = y at *
      go_wp2_with fail
      refine (HS.out y).mono ?_
      rintro e w' ⟨rfl, rfl⟩
      rcases (show p y = true ∨ p y = false by cases p y <;> simp) with hp | hp
      · have HTT : Hid (N.any p = true) := HH.out hp
        clear HT HH
        go_wp2_with fail
        go_ret
        exact ⟨by rw [HTT.out]; rfl, rfl⟩
      · have HTT : Hid ((N.take (k + 1)).any p = false) := HT.out hp
        clear HT HH
        go_wp2_with fail
        go_roundw
        case rel => exact ⟨k + 1, by omega, by go_num, HTT, by first | rfl | trivial⟩
        case measure => simp [intOf]; omega
    · have hkn : k = N.length := by omega
      have HN : Hid (N.any p = false) := by
        have := hno.out
        rwa [hkn, List.take_length] at this
      clear hno
      go_wp2_with fail
      go_ret
      exact ⟨by rw [HN.out]; rfl, rfl⟩

theorem model_all_sf (vE vN : Value) (N : List Nat) (p : Nat → Bool) (w : World) (hN : RowI w vN N)
    (hS : ∀ n : Nat, Calls Yba.prog 17 #[vE, .int .i64 (n : Nat)] w fun e w' => e = .returned (.bool (p n)) ∧ w = w') :
    Calls Yba.prog 8 #[.bool false, vE, .bool false, .bool false, vN, .bool false] w fun e w' => e = .returned (.bool (N.all p)) ∧ w = w' := by
  obtain ⟨hl, a, cap, rfl, hc⟩ := hN
  have HC : Hid (0 < N.length → ∃ g o, a = some ⟨g, o, none⟩ ∧ g < w.heap.size ∧ ∀ i, i < N.length → w.cell? ⟨g, o + i, none⟩ = some (.int .i64 (N.getD i 0 : Nat))) := hc
  have HS : Hid (∀ n : Nat, Calls Yba.prog 17 #[vE, .int .i64 (n : Nat)] w fun e w' => e = .returned (.bool (p n)) ∧ w = w') := hS
  clear hc hS
  go_enter Yba.func8, Yba.ntmps8
  go_wp2_with fail
  go_loopw [50] (fun i wr => ∃ k : Nat, k ≤ N.length ∧ i = .int .i64 k ∧ Hid ((N.take k).all p = true) ∧ wr = w) (fun i _ => N.length - (intOf i).toNat)
  case atStart => exact ⟨0, Nat.zero_le _, rfl, by show _ = _; simp, rfl⟩
  case round =>
    obtain ⟨k, hk, rfl, hno, rfl⟩ := hrel
    by_cases hlt : k < N.length
    · obtain ⟨g, o, rfl, hg, hcell⟩ := HC.out (by omega)
      have hck := hcell k hlt
      have HH : Hid (p (N.getD k 0) = false → N.all p = false) := fun h' => all_miss hlt h'
      have HT : Hid (p (N.getD k 0) = true → (N.take (k + 1)).all p = true) := fun h' => all_take_succ hlt hno h'
      clear hcell
      generalize N.getD k 0 = y at *
      go_wp2_with fail
      refine (HS.out y).mono ?_
      rintro e w' ⟨rfl, rfl⟩
      rcases (show p y = false ∨ p y = true by cases p y <;> simp) with hp | hp
      · have HTT : Hid (N.all p = false) := HH.out hp
        clear HT HH
        go_wp2_with fail
        go_ret
        exact ⟨by rw [HTT.out]; rfl, rfl⟩
      · have HTT : Hid ((N.take (k + 1)).all p = true) := HT.out hp
        clear HT HH
        go_wp2_with fail
        go_roundw
        case rel => exact ⟨k + 1, by omega, by go_num, HTT, by first | rfl | trivial⟩
        case measure => simp [intOf]; omega
    · have hkn : k = N.length := by omega
      have HN : Hid (N.all p = true) := by
        have := hno.out
        rwa [hkn, List.take_length] at this
      clear hno
      go_wp2_with fail
      go_ret
      exact ⟨by rw [HN.out]; rfl, rfl⟩

/-- THE MODEL, in every case -/
theorem model_all (aNil aAny nNil nAny : Bool) (vE vN : Value) (E N : List Nat) (w : World) (hE : RowI w vE E) (hN : RowI w vN N) :
    Calls Yba.prog 8 #[.bool aNil, vE, .bool aAny, .bool nNil, vN, .bool nAny] w fun e w' => e = .returned (.bool (Plain.model aNil E aAny nNil N nAny)) ∧ w = w' := by
  have hS : ∀ n : Nat, Calls Yba.prog 17 #[vE, .int .i64 (n : Nat)] w fun e w' => e = .returned (.bool (E.contains n)) ∧ w = w' := fun n => in_any vE E n w hE
  cases nNil
  · cases aNil
    · cases aAny
      · cases nAny
        · exact model_all_sf vE vN N _ w hN hS
        · exact model_any_sf vE vN N _ w hN hS
      · exact model_choice nAny vE vN E N w hE hN
    · cases aAny
      · cases nAny
        · exact model_all_nf vE vN N _ w hN hS
        · exact model_any_nf vE vN N _ w hN hS
      · cases nAny
        · exact model_all_nn vE vN N _ w hN hS
        · exact model_any_nn vE vN N _ w hN hS
  · exact model_need_nil aNil aAny nAny vE vN E N w
end Go.Proofs.Ybulkmog
