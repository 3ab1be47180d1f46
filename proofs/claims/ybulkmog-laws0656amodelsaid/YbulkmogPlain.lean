/-
  The plain function that permits computes, over sets that are lists of numbers.
-/
namespace Go.Proofs.Ybulkmog.Plain

/-- does a reference that holds all of E satisfy a need N (any of them, or all)? -/
def base (E N : List Nat) (nAny : Bool) : Bool := if nAny then N.any (fun n => E.contains n) else N.all (fun n => E.contains n)

abbrev Acc := Option (List Nat × Bool)

def perm (a n : Acc) : Bool :=
  match n with
  | none => true
  | some (N, nAny) =>
    match a with
    | none => base [] N nAny
    | some (E, true) => E.all (fun e => base [e] N nAny)
    | some (E, false) => base E N nAny

theorem perm_refl (a : Acc) : perm a a = true := by
  cases a with
  | none => rfl
  | some x =>
    obtain ⟨E, b⟩ := x
    cases b
    · simp [perm, base]
    · simp [perm, base]

def shift (B : Nat) (a : Acc) : Acc := a.map fun x => (x.1.map (B + ·), x.2)

theorem contains_shift (B : Nat) (E : List Nat) (x : Nat) : (E.map (B + ·)).contains (B + x) = E.contains x := by
  rw [Bool.eq_iff_iff]
  simp

theorem base_shift (B : Nat) (E N : List Nat) (b : Bool) : base (E.map (B + ·)) (N.map (B + ·)) b = base E N b := by
  unfold base
  cases b
  · simp only [List.all_map, Bool.false_eq_true, if_false]
    congr 1
    funext n
    exact contains_shift B E n
  · simp only [List.any_map, if_true]
    congr 1
    funext n
    exact contains_shift B E n

theorem perm_shift (B : Nat) (a n : Acc) : perm (shift B a) (shift B n) = perm a n := by
  cases n with
  | none => rfl
  | some y =>
    obtain ⟨N, nAny⟩ := y
    cases a with
    | none => exact base_shift B [] N nAny
    | some x =>
      obtain ⟨E, b⟩ := x
      cases b
      · exact base_shift B E N nAny
      · show (E.map (B + ·)).all (fun e => base [e] (N.map (B + ·)) nAny) = E.all (fun e => base [e] N nAny)
        rw [List.all_map]
        congr 1
        funext e
        exact base_shift B [e] N nAny

/-- the law's own single -/
def single (h : Nat) (N : List Nat) (nAny : Bool) : Bool := if nAny then N.contains h else N.all (fun n => n == h)

theorem single_eq (h : Nat) (N : List Nat) (nAny : Bool) : single h N nAny = base [h] N nAny := by
  unfold single base
  cases nAny
  · rw [Bool.eq_iff_iff]; simp
  · rw [Bool.eq_iff_iff]; simp

/-- the law's own model -/
def model (aNil : Bool) (E : List Nat) (aAny : Bool) (nNil : Bool) (N : List Nat) (nAny : Bool) : Bool :=
  if nNil then true else if !aNil && aAny then E.all (fun h => single h N nAny) else if nAny then N.any (fun n => E.contains n) else N.all (fun n => E.contains n)

/-- the set that the law builds -/
def built (isNil : Bool) (E : List Nat) (b : Bool) : Acc := if isNil then none else some (E, b)
/-- the list that the law builds beside it -/
def keys (isNil : Bool) (E : List Nat) : List Nat := if isNil then [] else E

theorem model_eq (aNil : Bool) (E : List Nat) (aAny : Bool) (nNil : Bool) (N : List Nat) (nAny : Bool) :
    model aNil (keys aNil E) aAny nNil (keys nNil N) nAny = perm (built aNil E aAny) (built nNil N nAny) := by
  unfold model built keys perm
  cases nNil
  · cases aNil
    · cases aAny
      · simp [base]
      · simp [single_eq]
    · simp [base]
  · rfl
end Go.Proofs.Ybulkmog.Plain
