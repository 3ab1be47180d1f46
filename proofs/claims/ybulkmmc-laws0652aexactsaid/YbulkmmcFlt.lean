/-
  Plain facts on the words of a binary format: which words are no NaN, an integer key that gives their order, the least of two.
-/
import Derived.Laws.FloatArith
namespace Go.Proofs.Ybulkmmc.Flt
open Ieee

/-- the word is no NaN -/
def NN (f : Format) (b : Nat) : Prop := (f.read b).isNaN = false
/-- the word is a finite number -/
def Fini (f : Format) (b : Nat) : Prop := ∃ s m e, f.read b = .number s m e

theorem Fini.nn {f : Format} {b : Nat} (h : Fini f b) : NN f b := by
  obtain ⟨s, m, e, h⟩ := h
  simp [NN, h, Datum.isNaN]

theorem word_mod (f : Format) (neg : Bool) {r : Nat} (h : r < f.signWeight) : f.word neg r % f.signWeight = r := by
  unfold Format.word
  split
  · rw [Nat.add_mod_left]; exact Nat.mod_eq_of_lt h
  · exact Nat.mod_eq_of_lt h

theorem nn_word (f : Format) (neg : Bool) {r : Nat} (h : r ≤ f.infRung) : NN f (f.word neg r) := by
  have hl := f.infRung_lt
  unfold NN Format.read
  dsimp only
  rw [word_mod f neg (by omega)]
  split
  · rfl
  · split
    · rfl
    · rw [if_pos (by omega)]; rfl

theorem fin_word (f : Format) (neg : Bool) {r : Nat} (h : r < f.infRung) : Fini f (f.word neg r) := by
  have hl := f.infRung_lt
  unfold Fini Format.read
  dsimp only
  rw [word_mod f neg (by omega)]
  by_cases hr : r < f.binade
  · rw [if_pos hr]; exact ⟨_, _, _, rfl⟩
  · rw [if_neg hr, if_pos h]; exact ⟨_, _, _, rfl⟩

theorem nn_write (f : Format) (d : Datum) (h : d.isNaN = false) : NN f (f.write d) := by
  cases d with
  | number neg mag place =>
    show NN f (f.nearest neg mag place)
    unfold Format.nearest
    dsimp only
    split
    · exact nn_word f neg (Nat.zero_le _)
    · exact nn_word f neg (Nat.min_le_right ..)
  | infinity neg => exact nn_word f neg (Nat.le_refl _)
  | nan neg fr => simp [Datum.isNaN] at h

theorem add_some (f : Format) (x y : Nat) (hx : Fini f x) (hy : NN f y) : ∃ r, f.add x y = some r ∧ NN f r := by
  obtain ⟨s, m, e, hx⟩ := hx
  unfold NN at hy
  unfold Format.add
  rw [hx]
  cases hd : f.read y with
  | nan s t => rw [hd] at hy; simp [Datum.isNaN] at hy
  | infinity t => exact ⟨_, rfl, nn_write f _ rfl⟩
  | number t n j => exact ⟨_, rfl, nn_write f _ rfl⟩

theorem div_some (f : Format) (x y : Nat) (hx : NN f x) (hy : ∃ s m e, f.read y = .number s m e ∧ m ≠ 0) : ∃ r, f.div x y = some r ∧ NN f r := by
  obtain ⟨s, m, e, hy, hm⟩ := hy
  unfold NN at hx
  unfold Format.div
  rw [hy]
  cases hd : f.read x with
  | nan s t => rw [hd] at hx; simp [Datum.isNaN] at hx
  | infinity t => exact ⟨_, rfl, nn_write f _ rfl⟩
  | number t n j =>
    simp only [Datum.quotient]
    rw [if_neg hm]
    exact ⟨_, rfl, nn_write f _ rfl⟩

/-! ### The key -/
def big (f : Format) : Nat := 2 * f.binade * 2 ^ (2 ^ f.exponentBits)
def dkey (f : Format) : Datum → Int
  | .number s m e => signed s m (e - f.leastPlace).toNat
  | .infinity s => if s then -(big f : Int) else (big f : Int)
  | .nan .. => 0
def key (f : Format) (b : Nat) : Int := dkey f (f.read b)

theorem signed_eq (s : Bool) (m k : Nat) : signed s m k = (if s then -1 else 1) * ((m : Int) * 2 ^ k) := by
  unfold signed
  split <;> simp [Nat.shiftLeft_eq]

theorem signed_add (s : Bool) (m a b : Nat) : signed s m (a + b) = signed s m a * 2 ^ b := by
  rw [signed_eq, signed_eq, Int.pow_add]
  simp [Int.mul_assoc]

theorem cmp_def (a b : Int) : compare a b = if a < b then Ordering.lt else if a = b then .eq else .gt := rfl

theorem cmp_scale (a b c : Int) (hc : 0 < c) : compare (a * c) (b * c) = compare a b := by
  rw [cmp_def, cmp_def]
  have h1 : a * c < b * c ↔ a < b := ⟨fun h => Int.lt_of_mul_lt_mul_right h (Int.le_of_lt hc), fun h => Int.mul_lt_mul_of_pos_right h hc⟩
  have h2 : a * c = b * c ↔ a = b := ⟨fun h => Int.eq_of_mul_eq_mul_right (Int.ne_of_gt hc) h, fun h => by rw [h]⟩
  simp only [h1, h2]

/-- every number read has its place from the least on, and is below 'big' -/
theorem read_place (f : Format) (b : Nat) {s : Bool} {m : Nat} {e : Int} (h : f.read b = .number s m e) : f.leastPlace ≤ e ∧ m * 2 ^ (e - f.leastPlace).toNat < big f := by
  have hbin : 0 < f.binade := Nat.two_pow_pos _
  have hpow : ∀ k, k ≤ 2 ^ f.exponentBits → 2 ^ k ≤ 2 ^ (2 ^ f.exponentBits) := fun k hk => Nat.pow_le_pow_right (by decide) hk
  unfold Format.read at h
  dsimp only at h
  split at h
  · rename_i hr
    cases h
    refine ⟨Int.le_refl _, ?_⟩
    rw [Int.sub_self]
    show b % f.signWeight * 1 < _
    unfold big
    have h1 := hpow 0 (Nat.zero_le _)
    calc b % f.signWeight * 1 < 2 * f.binade := by omega
      _ ≤ 2 * f.binade * 2 ^ (2 ^ f.exponentBits) := Nat.le_mul_of_pos_right _ (by omega)
  · rename_i hr
    split at h
    · rename_i hi
      have hm := (Datum.number.inj h).2.1
      have he := (Datum.number.inj h).2.2
      subst hm he
      refine ⟨by omega, ?_⟩
      have e1 : (f.leastPlace + ((b % f.signWeight / f.binade - 1 : Nat) : Int) - f.leastPlace).toNat = b % f.signWeight / f.binade - 1 := by omega
      rw [e1]
      have hq : b % f.signWeight / f.binade < 2 ^ f.exponentBits - 1 := by
        rw [Nat.div_lt_iff_lt_mul hbin]
        exact hi
      have hmod : b % f.signWeight % f.binade < f.binade := Nat.mod_lt _ hbin
      have h2 := hpow (b % f.signWeight / f.binade - 1) (by clear e1 hi hr hmod h; generalize b % f.signWeight / f.binade = q at hq ⊢; omega)
      unfold big
      calc (f.binade + b % f.signWeight % f.binade) * 2 ^ (b % f.signWeight / f.binade - 1) < (2 * f.binade) * 2 ^ (b % f.signWeight / f.binade - 1) := Nat.mul_lt_mul_of_pos_right (by omega) (Nat.two_pow_pos _)
        _ ≤ 2 * f.binade * 2 ^ (2 ^ f.exponentBits) := Nat.mul_le_mul_left _ h2
    · split at h <;> cases h

theorem big_pos (f : Format) : 0 < (big f : Int) := by
  have : 0 < big f := Nat.mul_pos (Nat.mul_pos (by decide) (Nat.two_pow_pos _)) (Nat.two_pow_pos _)
  omega

theorem signed_lt (f : Format) (b : Nat) {s : Bool} {m : Nat} {e : Int} (h : f.read b = .number s m e) :
    -(big f : Int) < signed s m (e - f.leastPlace).toNat ∧ signed s m (e - f.leastPlace).toNat < (big f : Int) := by
  have h1 := (read_place f b h).2
  unfold signed
  rw [Nat.shiftLeft_eq]
  split <;> omega

/-- THE ORDER BY THE KEY -/
theorem order_key (f : Format) (x y : Nat) (hx : NN f x) (hy : NN f y) : f.order x y = some (compare (key f x) (key f y)) := by
  unfold Format.order key NN at *
  have hp := big_pos f
  cases h1 : f.read x with
  | nan s t => rw [h1] at hx; simp [Datum.isNaN] at hx
  | infinity s =>
    cases h2 : f.read y with
    | nan s t => rw [h2] at hy; simp [Datum.isNaN] at hy
    | infinity t =>
      cases s <;> cases t <;> simp [Datum.order, dkey, cmp_def] <;> first | rfl | (split <;> omega) | skip
      all_goals (first | (rw [if_pos (by omega)]; rfl) | (rw [if_neg (by omega), if_neg (by omega)]; rfl))
    | number t n j =>
      have hl := signed_lt f y h2
      cases s <;> simp [Datum.order, dkey, cmp_def]
      · rw [if_neg (by omega), if_neg (by omega)]
      · intro hc; omega
  | number s m i =>
    have hl1 := signed_lt f x h1
    have hp1 := (read_place f x h1).1
    cases h2 : f.read y with
    | nan s t => rw [h2] at hy; simp [Datum.isNaN] at hy
    | infinity t =>
      cases t <;> simp [Datum.order, dkey, cmp_def]
      · intro hc; omega
      · rw [if_neg (by omega), if_neg (by omega)]
    | number t n j =>
      have hp2 := (read_place f y h2).1
      simp only [Datum.order, dkey]
      have e1 : (i - f.leastPlace).toNat = (i - min i j).toNat + (min i j - f.leastPlace).toNat := by omega
      have e2 : (j - f.leastPlace).toNat = (j - min i j).toNat + (min i j - f.leastPlace).toNat := by omega
      rw [e1, e2, signed_add, signed_add, cmp_scale]
      exact Int.pow_pos (by decide)

/-! ### float64 -/
abbrev F := Ieee.double
theorem fmt64 : FloatKind.f64.format = F := rfl

theorem lt_iff (x y : Nat) (hx : NN F x) (hy : NN F y) : (FloatKind.f64.format.order x y == some .lt) = decide (key F x < key F y) := by
  rw [fmt64, order_key F x y hx hy, cmp_def]
  by_cases h : key F x < key F y
  · simp [h]
  · simp only [h, if_false, decide_false]
    split <;> rfl
theorem eq_iff (x y : Nat) (hx : NN F x) (hy : NN F y) : (FloatKind.f64.format.order x y == some .eq) = decide (key F x = key F y) := by
  rw [fmt64, order_key F x y hx hy, cmp_def]
  by_cases h : key F x < key F y
  · have : ¬ key F x = key F y := by omega
    simp [h, this]
  · by_cases h' : key F x = key F y
    · simp [h']
    · simp [h, h']

/-- the least of two words, as Go's min takes it -/
def fmin (x y : Nat) : Nat := match FloatKind.f64.format.order x y with
  | some .lt => x
  | some .gt => y
  | _ => if (FloatKind.f64.decode x).neg then x else y

theorem fmin_key (x y : Nat) (hx : NN F x) (hy : NN F y) : key F (fmin x y) = min (key F x) (key F y) ∧ NN F (fmin x y) := by
  unfold fmin
  rw [fmt64, order_key F x y hx hy, cmp_def]
  by_cases h : key F x < key F y
  · rw [if_pos h]; exact ⟨by dsimp only; omega, hx⟩
  · rw [if_neg h]
    by_cases h' : key F x = key F y
    · rw [if_pos h']
      dsimp only
      split
      · exact ⟨by omega, hx⟩
      · exact ⟨by omega, hy⟩
    · rw [if_neg h']; exact ⟨by dsimp only; omega, hy⟩

theorem run_min {P : Program} (ts : Array TypeId) (t : TypeId) (x y : Nat) (hx : NN F x) (hy : NN F y) (w : World) :
    (Builtin.min_ ts t #[.float .f64 x, .float .f64 y]).run P w = .ok (.float .f64 (fmin x y)) w := by
  have h : FloatKind.f64.format.order x y = some (compare (key F x) (key F y)) := order_key F x y hx hy
  unfold Builtin.min_ fmin
  simp only [List.foldlM, Builtin.min2, h]
  cases hc : compare (key F x) (key F y) <;> simp

theorem nn_int (n : Int) : NN F (floatOfInt .f64 n) := nn_write F (.number (n < 0) n.natAbs 0) rfl

theorem log2_le {m k : Nat} (hm : m ≠ 0) (h : m < 2 ^ k) : m.log2 < k := (Nat.log2_lt hm).2 h

theorem cut_zero (q : Nat) (b : Bool) : Toward.even.cut b q 0 = q := by
  unfold Toward.cut
  simp
  omega

theorem small_rung (y z B : Nat) (h1 : y ≤ 1055) (h2 : z < 2 * B) : min (y * B + z) (2047 * B) < 2047 * B := by
  have h3 : y * B ≤ 1055 * B := Nat.mul_le_mul_right _ h1
  omega

theorem shift_lt (m l : Nat) (hl : l < 33) (h : m < 2 ^ (l + 1)) : m * 2 ^ (52 - l) < 2 * F.binade := by
  have e : 2 * F.binade = 2 ^ (l + 1) * 2 ^ (52 - l) := by
    show 2 * 2 ^ 52 = _
    rw [← Nat.pow_add, ← Nat.pow_succ']
    exact congrArg (2 ^ ·) (by omega)
  rw [e]
  exact Nat.mul_lt_mul_of_pos_right h (Nat.two_pow_pos _)

theorem fin_int (n : Int) (h1 : -4294967296 ≤ n) (h2 : n ≤ 4294967296) : Fini F (floatOfInt .f64 n) := by
  show Fini F (F.nearest (n < 0) n.natAbs 0)
  unfold Format.nearest
  dsimp only
  split
  · exact fin_word F _ (by decide +kernel)
  · rename_i hm
    have hl : n.natAbs.log2 < 33 := log2_le hm (by omega)
    have hlt : n.natAbs < 2 ^ (n.natAbs.log2 + 1) := Nat.lt_log2_self
    refine fin_word F _ ?_
    generalize n.natAbs.log2 = l at *
    generalize n.natAbs = m at *
    have hlp : F.leastPlace = -1074 := by decide +kernel
    have hfb : F.fractionBits = 52 := rfl
    have hinf : F.infRung = 2047 * F.binade := rfl
    rw [hlp, hfb, hinf]
    have e1 : max ((0 : Int) + l - (52 : Nat)) (-1074) = (l : Int) - 52 := by omega
    rw [e1]
    have e2 : ((l : Int) - 52 - 0).toNat = 0 := by omega
    have e3 : ((0 : Int) - ((l : Int) - 52)).toNat = 52 - l := by omega
    rw [e2, e3, cut_zero, Nat.shiftLeft_eq]
    exact small_rung _ _ _ (by omega) (shift_lt m l hl hlt)

end Go.Proofs.Ybulkmmc.Flt
