/-
  The pool, and the sets that the laws build from it.
-/
import Derived.Test.YbulkmogCho
import Derived.Deep.AppendLies
namespace Go.Proofs.Ybulkmog
open Go.RowKit

abbrev ent0 : Obj := .cells #[.pointer none, .pointer none] 37
abbrev poolW (w : World) : World := ((((w.alloc ent0).alloc ent0).alloc ent0).alloc ent0).alloc (.cells #[Ptr w.heap.size, Ptr (w.heap.size + 1), Ptr (w.heap.size + 1 + 1), Ptr (w.heap.size + 1 + 1 + 1)] 33)

theorem pool_any (w : World) : Calls Yba.prog 5 #[] w fun e w' => e = .returned (.slice (some ⟨w.heap.size + 4, 0, none⟩) 4 4) ∧ w' = poolW w := by
  go_enter Yba.func5, Yba.ntmps5
  go_wp2
  go_ret
  exact ⟨rfl, rfl⟩

/-- four entitlements from block B on, their pointers in row g -/
structure PoolAt (w : World) (B g : Nat) : Prop where
  ent : ∀ k, k < 4 → Ent w (B + k)
  lt : g < w.heap.size
  cell : ∀ k, k < 4 → w.cell? ⟨g, k, none⟩ = some (Ptr (B + k))

theorem PoolAt.below {w w' : World} {B g C : Nat} (h : PoolAt w B g) (hb : Below C w w') (hC : w.heap.size ≤ C) : PoolAt w' B g :=
  ⟨fun k hk => (h.ent k hk).below hb hC, by have := h.lt; have := hb.size; omega, fun k hk => by rw [hb.cell (p := ⟨g, k, none⟩) (show g < C by have := h.lt; omega)]; exact h.cell k hk⟩

theorem poolW_below (w : World) : Below w.heap.size w (poolW w) := ((((((Below.refl _ _).alloc (Nat.le_refl _) _).alloc (by simp) _).alloc (by simp; omega) _).alloc (by simp; omega) _).alloc (by simp; omega) _)

theorem heap_push {w : World} {o : Obj} {k : Nat} (h : k < w.heap.size) : (w.alloc o).heap[k]? = w.heap[k]? := Below.heap_alloc w o k h
theorem heap_last {w : World} {o : Obj} {k : Nat} (h : k = w.heap.size) : (w.alloc o).heap[k]? = some o := by
  subst h
  show (w.heap.push o)[w.heap.size]? = _
  simp

theorem poolAt (w : World) : PoolAt (poolW w) w.heap.size (w.heap.size + 4) := by
  refine ⟨fun k hk => ?_, by simp, fun k hk => ?_⟩
  · refine ⟨#[.pointer none, .pointer none], ?_⟩
    unfold poolW
    match k, hk with
    | 0, _ => rw [heap_push (by simp <;> omega), heap_push (by simp <;> omega), heap_push (by simp <;> omega), heap_push (by simp), heap_last (by simp)]
    | 1, _ => rw [heap_push (by simp <;> omega), heap_push (by simp <;> omega), heap_push (by simp), heap_last (by simp)]
    | 2, _ => rw [heap_push (by simp <;> omega), heap_push (by simp), heap_last (by simp)]
    | 3, _ => rw [heap_push (by simp), heap_last (by simp)]
  · unfold poolW
    rw [World.cell?_alloc_at _ _ _ _ (by simp)]
    match k, hk with
    | 0, _ => rfl
    | 1, _ => rfl
    | 2, _ => rfl
    | 3, _ => rfl

/-- the value v is a slice that reads as the ints ks -/
structure RowI (w : World) (v : Value) (ks : List Nat) : Prop where
  len : ks.length ≤ 1024
  row : ∃ a cap, v = .slice a ks.length cap ∧ (0 < ks.length → ∃ g o, a = some ⟨g, o, none⟩ ∧ g < w.heap.size ∧ ∀ i, i < ks.length → w.cell? ⟨g, o + i, none⟩ = some (.int .i64 (ks.getD i 0 : Nat)))

theorem RowI.below {w w' : World} {v : Value} {ks : List Nat} {B : Nat} (h : RowI w v ks) (hb : Below B w w') (hB : w.heap.size ≤ B) : RowI w' v ks := by
  obtain ⟨h1, a, cap, hv, hc⟩ := h
  refine ⟨h1, a, cap, hv, fun hp => ?_⟩
  obtain ⟨g, o, ha, hg, hc⟩ := hc hp
  refine ⟨g, o, ha, by have := hb.size; omega, fun i hi => ?_⟩
  rw [hb.cell (p := ⟨g, o + i, none⟩) (show g < B by omega)]
  exact hc i hi

theorem rowI_nil (w : World) : RowI w (.slice none 0 0) [] := ⟨by simp, none, 0, rfl, fun h => absurd h (by simp)⟩

/-- two owned rows of different element types are two blocks -/
theorem rows_apart {w : World} {B n m e1 e2 : Nat} {v1 v2 : Value} {xs ys : List Value} (h1 : w.ownsRow B e1 1 v1 n xs) (h2 : w.ownsRow B e2 1 v2 m ys) (he : e1 ≠ e2) : v1.ownBlock = none ∨ v1.ownBlock ≠ v2.ownBlock := by
  rcases h1.2 with ⟨h, _⟩ | ⟨g, cap, cur, hv, hb, hg, _⟩
  · left; rw [h]; rfl
  · right
    intro e
    rcases h2.2 with ⟨h', _⟩ | ⟨g', cap', cur', hv', hb', hg', _⟩
    · rw [hv, h'] at e; cases e
    · rw [hv, hv'] at e
      have : g = g' := by simpa [Value.ownBlock] using e
      subst this
      rw [hg] at hg'
      simp at hg'
      exact he hg'.2

theorem owns_cell {wr : World} {base n g cap i e : Nat} {xs : List Value} (h : wr.ownsRow base e 1 (.slice (some ⟨g, 0, none⟩) n cap) n xs) (hi : i < n) : wr.cell? ⟨g, i, none⟩ = xs[i]? := h.cellAt i (by omega)

theorem rowP_of {w : World} {B base : Nat} {v : Value} {K : List Nat} (h : w.ownsRow base 33 1 v K.length (K.map fun i => Ptr (B + i))) (hl : K.length ≤ 1024) (he : ∀ k, k ∈ K → Ent w (B + k)) : RowP w v (K.map (B + ·)) := by
  refine ⟨by simpa using hl, fun g hg => ?_, ?_⟩
  · obtain ⟨k, hk, rfl⟩ := List.mem_map.1 hg
    exact he k hk
  · by_cases h0 : K.length = 0
    · rcases h.2 with ⟨hv, _⟩ | ⟨g, cap, cur, hv, _⟩
      · exact ⟨none, 0, by rw [hv, List.length_map, h0], fun hp => by simp at hp; omega⟩
      · exact ⟨_, cap, by rw [hv, List.length_map], fun hp => by simp at hp; omega⟩
    · obtain ⟨g, cap, rfl, _, hlt⟩ := h.form (by omega)
      refine ⟨_, cap, by rw [List.length_map], fun _ => ⟨g, 0, rfl, hlt, fun i hi => ?_⟩⟩
      have hi' : i < K.length := by simpa using hi
      rw [Nat.zero_add, owns_cell h hi', List.getElem?_map, List.getD, List.getElem?_map, List.getElem?_eq_getElem hi']
      rfl

theorem rowI_of {w : World} {base : Nat} {v : Value} {K : List Nat} (h : w.ownsRow base 3 1 v K.length (K.map fun i => Value.int .i64 (i : Nat))) (hl : K.length ≤ 1024) : RowI w v K := by
  refine ⟨hl, ?_⟩
  by_cases h0 : K.length = 0
  · rcases h.2 with ⟨hv, _⟩ | ⟨g, cap, cur, hv, _⟩
    · exact ⟨none, 0, by rw [hv, h0], fun hp => by omega⟩
    · exact ⟨_, cap, by rw [hv], fun hp => by omega⟩
  · obtain ⟨g, cap, rfl, _, hlt⟩ := h.form (by omega)
    refine ⟨_, cap, rfl, fun _ => ⟨g, 0, rfl, hlt, fun i hi => ?_⟩⟩
    rw [Nat.zero_add, owns_cell h hi, List.getElem?_map, List.getD, List.getElem?_eq_getElem hi]
    rfl
/-- a slice of bytes that came in -/
def IsIdx (w : World) (a : Option Addr) (n : Nat) (z : Nat → Int) : Prop :=
  n = 0 ∨ ∃ b o, a = some ⟨b, o, none⟩ ∧ b < w.heap.size ∧ ∀ i, i < n → w.cell? ⟨b, o + i, none⟩ = some (.int .u8 (z i)) ∧ 0 ≤ z i

theorem IsIdx.below {w w' : World} {a : Option Addr} {n B : Nat} {z : Nat → Int} (h : IsIdx w a n z) (hb : Below B w w') (hB : w.heap.size ≤ B) : IsIdx w' a n z := by
  rcases h with h | ⟨b, o, ha, hlt, hc⟩
  · exact .inl h
  · exact .inr ⟨b, o, ha, by have := hb.size; omega, fun i hi => ⟨by rw [hb.cell (p := ⟨b, o + i, none⟩) (show b < B by omega)]; exact (hc i hi).1, (hc i hi).2⟩⟩

/-- the keys of the first k bytes -/
def ks (z : Nat → Int) (k : Nat) : List Nat := (List.range k).map fun i => (z i % 4).toNat
theorem ks_len (z : Nat → Int) (k : Nat) : (ks z k).length = k := by simp [ks]
theorem ks_succ (z : Nat → Int) (k : Nat) : ks z (k + 1) = ks z k ++ [(z k % 4).toNat] := by simp [ks, List.range_succ]
theorem ks_lt (z : Nat → Int) (n k : Nat) (h : k ∈ ks z n) : k < 4 := by
  obtain ⟨i, _, rfl⟩ := List.mem_map.1 h
  omega

structure Bld (w : World) (B : Nat) (z : Nat → Int) (k : Nat) (wr : World) (v1 v2 : Value) : Prop where
  own1 : wr.ownsRow w.heap.size 33 1 v1 k ((ks z k).map fun i => Ptr (B + i))
  own2 : wr.ownsRow w.heap.size 3 1 v2 k ((ks z k).map fun i => Value.int .i64 (i : Nat))
  bel : Below w.heap.size w wr

theorem own_shape {w : World} {base e n : Nat} {v : Value} {xs : List Value} (h : w.ownsRow base e 1 v n xs) : ∃ a cap, v = .slice a n cap := by
  rcases h.2 with ⟨hv, h0⟩ | ⟨g, cap, cur, hv, _⟩
  · exact ⟨_, _, by rw [hv, h0]⟩
  · exact ⟨_, _, hv⟩

/-- the first append of a round -/
theorem bld_one {w wr w1 : World} {B k g cap : Nat} {z : Nat → Int} {v1 v2 : Value} {E : Obj} (h : Bld w B z k wr v1 v2)
    (ho : w1.ownsRow w.heap.size 33 1 (.slice (some ⟨g, 0, none⟩) (k + 1) cap) (k + 1) (((ks z k).map fun i => Ptr (B + i)) ++ [Ptr (B + (z k % 4).toNat)])) (hg : (wr.alloc E).grownBy w1 v1.ownBlock) :
    w1.ownsRow w.heap.size 33 1 (.slice (some ⟨g, 0, none⟩) (k + 1) cap) (k + 1) ((ks z (k + 1)).map fun i => Ptr (B + i)) ∧ w1.ownsRow w.heap.size 3 1 v2 k ((ks z k).map fun i => Value.int .i64 (i : Nat)) ∧ Below w.heap.size w w1 := by
  have hs := h.bel.size
  refine ⟨by rw [ks_succ, List.map_append]; exact ho, (h.own2.alloc E).kept hg (rows_apart h.own2 h.own1 (by decide)), (h.bel.alloc hs E).grown hg (by simp; omega) fun j hj => (h.own1.lt j hj).1⟩

/-- the second append of a round -/
theorem bld_two {w w1 w2 : World} {B k g cap g2 cap2 : Nat} {z : Nat → Int} {v2 : Value} {E : Obj}
    (h1 : w1.ownsRow w.heap.size 33 1 (.slice (some ⟨g, 0, none⟩) (k + 1) cap) (k + 1) ((ks z (k + 1)).map fun i => Ptr (B + i))) (h2 : w1.ownsRow w.heap.size 3 1 v2 k ((ks z k).map fun i => Value.int .i64 (i : Nat))) (hb : Below w.heap.size w w1)
    (ho : w2.ownsRow w.heap.size 3 1 (.slice (some ⟨g2, 0, none⟩) (k + 1) cap2) (k + 1) (((ks z k).map fun i => Value.int .i64 (i : Nat)) ++ [.int .i64 ((z k % 4).toNat : Nat)])) (hg : (w1.alloc E).grownBy w2 v2.ownBlock) :
    Bld w B z (k + 1) w2 (.slice (some ⟨g, 0, none⟩) (k + 1) cap) (.slice (some ⟨g2, 0, none⟩) (k + 1) cap2) := by
  have hs := hb.size
  exact ⟨(h1.alloc E).kept hg (rows_apart h1 h2 (by decide)), by rw [ks_succ, List.map_append]; exact ho, (hb.alloc hs E).grown hg (by simp; omega) fun j hj => (h2.lt j hj).1⟩

theorem Yba.info33 : (Yba.prog.info? 33).map (fun i => (i.zero, i.size, i.bytes)) = some (some (.pointer none), 1, 8) := by kernel_rfl
theorem Yba.info3 : (Yba.prog.info? 3).map (fun i => (i.zero, i.size, i.bytes)) = some (some (.int .i64 0), 1, 8) := by kernel_rfl

theorem build_nil (pv : Value) (a : Option Addr) (n c : Nat) (any : Bool) (w : World) :
    Calls Yba.prog 6 #[pv, .bool true, .slice a n c, .bool any] w fun e w' => e = .returned (.tuple #[.pointer none, .slice none 0 0]) ∧ w' = w := by
  go_enter Yba.func6, Yba.ntmps6
  go_wp2
  go_ret2
  exact ⟨rfl, rfl⟩

set_option maxHeartbeats 1000000 in
theorem build_some (B pg : Nat) (a : Option Addr) (n c : Nat) (any : Bool) (z : Nat → Int) (w : World) (hn : n ≤ 1024) (hp : PoolAt w B pg) (hi : IsIdx w a n z) :
    Calls Yba.prog 6 #[.slice (some ⟨pg, 0, none⟩) 4 4, .bool false, .slice a n c, .bool any] w fun e w' => ∃ b v, e = .returned (.tuple #[Ptr b, v]) ∧ (∃ va, AccAt w' b va ((ks z n).map (B + ·)) any) ∧ RowI w' v (ks z n) ∧ Below w.heap.size w w' := by
  obtain ⟨i0, hi0, hz0, hz1, hz2⟩ := info_parts Yba.info33
  obtain ⟨i1, hi1, hy0, hy1, hy2⟩ := info_parts Yba.info3
  have HI : Hid (Yba.prog.info? 33 = some i0 ∧ i0.zero = some (.pointer none) ∧ i0.size = 1 ∧ i0.bytes = 8) := ⟨hi0, hz0, hz1, hz2⟩
  have HJ : Hid (Yba.prog.info? 3 = some i1 ∧ i1.zero = some (.int .i64 0) ∧ i1.size = 1 ∧ i1.bytes = 8) := ⟨hi1, hy0, hy1, hy2⟩
  have HP : Hid (PoolAt w B pg) := hp
  have HX : Hid (IsIdx w a n z) := hi
  clear hi0 hz0 hz1 hz2 hi1 hy0 hy1 hy2 hp hi
  go_enter Yba.func6, Yba.ntmps6
  go_wp2_with (at_make; refine wpList_make_own _ rfl _ _ 23 rfl w.heap.size 33 i0 (.pointer none) 1 Yba.underlying23 HI.out.1 HI.out.2.1 HI.out.2.2.1 _ _ _ n rfl rfl rfl (by rw [HI.out.2.2.2]; omega) (by unfold maxLen; omega) (Nat.le_refl _) ?_)
  intro wa hoa hga
  have hsa := hga.size
  have HA : Hid (wa.ownsRow w.heap.size 33 1 (.slice (some ⟨w.heap.size, 0, none⟩) 0 n) 0 [] ∧ w.grownBy wa none) := ⟨hoa, hga⟩
  clear hoa hga
  go_wp2_with (at_make; refine wpList_make_own _ rfl _ _ 26 rfl w.heap.size 3 i1 (.int .i64 0) 1 Yba.underlying26 HJ.out.1 HJ.out.2.1 HJ.out.2.2.1 _ _ _ n rfl rfl rfl (by rw [HJ.out.2.2.2]; omega) (by unfold maxLen; omega) hsa ?_)
  intro wb hob hgb
  have HB : Hid (Bld w B z 0 wb (.slice (some ⟨w.heap.size, 0, none⟩) 0 n) (.slice (some ⟨wa.heap.size, 0, none⟩) 0 n)) :=
    ⟨HA.out.1.kept hgb (.inr (by simp [Value.ownBlock])), hob, ((Below.refl _ _).grown HA.out.2 (Nat.le_refl _) (fun k hk => by cases hk)).grown hgb hsa (fun k hk => by cases hk)⟩
  clear hob hgb
  go_wp2_with fail
  go_loopw [10, 11, 24] (fun v1 v2 i wr => ∃ k : Nat, k ≤ n ∧ i = .int .i64 k ∧ Bld w B z k wr v1 v2) (fun _ _ i _ => n - (intOf i).toNat)
  case atStart => exact ⟨0, Nat.zero_le _, rfl, HB.out⟩
  case round =>
    obtain ⟨k, hk, hi, hbld⟩ := hrel
    subst hi
    have HD : Hid (Bld w B z k wr u10 u11) := hbld
    by_cases hlt : k < n
    · rcases HX.out with h0 | ⟨b, o, rfl, hb, hcs⟩
      · omega
      have x0 : wr.cell? ⟨b, o + k, none⟩ = some (.int .u8 (z k)) := (hbld.bel.cell (by exact hb)).trans (hcs k hlt).1
      have hz0 := (hcs k hlt).2
      have hpg : wr.cell? ⟨pg, (z k % 4).toNat, none⟩ = some (Ptr (B + (z k % 4).toNat)) := (hbld.bel.cell (by exact HP.out.lt)).trans (HP.out.cell _ (by omega))
      have hws := hbld.bel.size
      obtain ⟨q, hq⟩ : ∃ q : Nat, q = (z k % 4).toNat := ⟨_, rfl⟩
      have hq4 : (q : Int) < 4 := by omega
      have hq0 : (0 : Int) ≤ (q : Int) := by omega
      have ht : (z k).tmod 4 = (q : Int) := by rw [Int.tmod_eq_emod_of_nonneg hz0]; omega
      rw [← hq] at hpg
      have HQ : Hid (q = (z k % 4).toNat) := hq
      clear hbld hcs hq hz0
      go_wp2_with (at_builtin; refine wpList_append_lies _ rfl (.tmp 31) (.tmp 36) 23 rfl w.heap.size 33 i0 (.pointer none) 1 8 Yba.underlying23 HI.out.1 HI.out.2.1 HI.out.2.2.1 HI.out.2.2.2 rfl (by decide) u10 k ((ks z k).map fun i => Ptr (B + i)) rfl (HD.out.own1.alloc _) ⟨wr.heap.size, 0, none⟩ 1 1 [Ptr (B + q)] rfl rfl ?d1 ?d2 (by decide) ?d3 ?d4 ?d5 _ rfl ?_)
      case d1 => exact World.news_of_block (cs := #[Ptr (B + q)]) (heap_last rfl)
      case d2 => intro u hu; simp at hu; subst hu; rfl
      case d3 => unfold maxLen; omega
      case d4 => omega
      case d5 => simp; omega
      intro g cap w1 ho1 hg1 _ _
      have HQ1 : Hid (w1.ownsRow w.heap.size 33 1 (.slice (some ⟨g, 0, none⟩) (k + 1) cap) (k + 1) ((ks z (k + 1)).map fun i => Ptr (B + i)) ∧ w1.ownsRow w.heap.size 3 1 u11 k ((ks z k).map fun i => Value.int .i64 (i : Nat)) ∧ Below w.heap.size w w1) :=
        bld_one HD.out (by rw [← HQ.out]; exact ho1) hg1
      have hws1 := HQ1.out.2.2.size
      clear ho1 hg1 x0 hpg HD
      go_wp2_with (at_builtin; refine wpList_append_lies _ rfl (.tmp 38) (.tmp 40) 26 rfl w.heap.size 3 i1 (.int .i64 0) 1 8 Yba.underlying26 HJ.out.1 HJ.out.2.1 HJ.out.2.2.1 HJ.out.2.2.2 rfl (by decide) u11 k ((ks z k).map fun i => Value.int .i64 (i : Nat)) rfl (HQ1.out.2.1.alloc _) ⟨w1.heap.size, 0, none⟩ 1 1 [.int .i64 (q : Nat)] rfl rfl ?f1 ?f2 (by decide) ?f3 ?f4 ?f5 _ rfl ?_)
      case f1 => exact World.news_of_block (cs := #[Value.int .i64 (q : Nat)]) (heap_last rfl)
      case f2 => intro u hu; simp at hu; subst hu; rfl
      case f3 => unfold maxLen; omega
      case f4 => omega
      case f5 => simp; omega
      intro g2 cap2 w2 ho2 hg2 _ _
      have HQ2 : Hid (Bld w B z (k + 1) w2 (.slice (some ⟨g, 0, none⟩) (k + 1) cap) (.slice (some ⟨g2, 0, none⟩) (k + 1) cap2)) :=
        bld_two HQ1.out.1 HQ1.out.2.1 HQ1.out.2.2 (by rw [← HQ.out]; exact ho2) hg2
      clear ho2 hg2
      go_wp2_with fail
      go_roundw
      case rel => exact ⟨k + 1, by omega, by go_num, HQ2.out⟩
      case measure => simp [intOf]; omega
    · have hkn : k = n := by omega
      subst hkn
      have hws := hbld.bel.size
      obtain ⟨av, cv, rfl⟩ := own_shape hbld.own1
      clear hbld
      go_wp2_with fail
      go_ret2
      have hb1 : Below wr.heap.size wr (wr.alloc (.cells #[(.slice av k cv), .bool any] 39)) := (Below.refl _ _).alloc (Nat.le_refl _) _
      have hpw : PoolAt wr B pg := HP.out.below HD.out.bel (Nat.le_refl _)
      have hrp : RowP wr (.slice av k cv) ((ks z k).map (B + ·)) := rowP_of (by rw [ks_len]; exact HD.out.own1) (by rw [ks_len]; exact hn) (fun j hj => hpw.ent j (ks_lt z k j hj))
      have hri : RowI wr u11 (ks z k) := rowI_of (by rw [ks_len]; exact HD.out.own2) (by rw [ks_len]; exact hn)
      refine ⟨wr.heap.size, u11, rfl, ⟨(.slice av k cv), by simp, ?_, ?_, hrp.below hb1 (Nat.le_refl _)⟩, hri.below hb1 (Nat.le_refl _), HD.out.bel.alloc hws _⟩
      · rw [World.cell?_alloc_at _ _ _ _ rfl]; rfl
      · rw [World.cell?_alloc_at _ _ _ _ rfl]; rfl
end Go.Proofs.Ybulkmog
