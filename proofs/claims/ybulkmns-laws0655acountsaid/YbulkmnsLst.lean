/-
  What the law's loop holds: the orderer's state and the law's own arrays.
-/
import Derived.Test.YbulkmnsCnw
import Derived.Test.YbulkmnsSet
namespace Go.Proofs.Ybulkmns
open Go.RowKit Go.MapKept
set_option linter.unusedSimpArgs false
set_option linter.unusedVariables false

section
variable {w w' : World} {E : Env} {lv lp : Nat → Nat} {cnt : Nat → Bool} {es : Array MapEntry} {clock : Nat} {cb vb cp : Nat → Nat} {vs : Nat → List Nat}

/-- blocks of other kinds may turn -/
theorem St.far (h : St w E lv lp cnt es clock cb vb cp vs) (ok : E.Ok) {S : List Nat} (hc : Chg S w w') (hS : ∀ x ∈ S, E.base ≤ x ∧ ∃ A t fr, w.heap[x]? = some (.cells A t fr) ∧ t ≠ 79 ∧ t ≠ 29 ∧ t ≠ 66) : St w' E lv lp cnt es clock cb vb cp vs := by
  have blk : ∀ b, b < E.base → w'.heap[b]? = w.heap[b]? := fun b hb => hc.block b (by have := h.siz; omega) (fun hm => by have := (hS b hm).1; omega)
  have typ : ∀ {b : Nat} {A : Array Value} {t : TypeId} {fr : Nat × Nat}, w.heap[b]? = some (.cells A t fr) → (t = 79 ∨ t = 29 ∨ t = 66) → w'.heap[b]? = w.heap[b]? := fun {b A t fr} hb ht => hc.block b (lt_of_heap hb) (fun hm => by
    obtain ⟨_, A', t', fr', e, h1, h2, h3⟩ := hS b hm
    rw [hb] at e
    injection e with e
    injection e with _ e _
    subst e
    rcases ht with ht | ht | ht
    · exact h1 ht
    · exact h2 ht
    · exact h3 ht)
  refine ⟨⟨?_, ?_, fun i hi => ?_⟩, ?_, ?_, ?_, ?_, fun e he => ?_, h.new, h.inj, h.mem, h.nd, h.has, h.bnd, Nat.le_trans h.siz hc.size⟩
  · rw [World.cell?_of_block (blk E.G ok.G)]; exact h.gen.val
  · rw [World.cell?_of_block (blk E.G ok.G)]; exact h.gen.tot
  · rw [World.cell?_of_block (blk E.gv ok.gv)]; exact h.gen.stake i hi
  · exact (blk E.Tm ok.Tm).trans h.tm
  · obtain ⟨es', cl, h1, h2⟩ := h.cm
    exact ⟨es', cl, (blk E.Cm ok.Cm).trans h1, h2⟩
  · exact ⟨(blk E.Bm ok.Bm).trans h.bm.at_, h.bm.st, h.bm.good⟩
  · exact h.lvat.keep (blk E.LV ok.LV)
  · have hb := h.bal e he
    obtain ⟨_, _, cur, h3, _⟩ := hb.v
    exact hb.keep (typ hb.b (by simp)) (typ hb.c (by simp)) (typ h3 (by simp))
end

/-- count, by one contract -/
theorem count_any {E : Env} {lv lp : Nat → Nat} {cnt : Nat → Bool} (ok : E.Ok) (lo : Nat) (hlo : Lo E lo) (w : World) (h : Sts w E lv lp cnt) (view : Nat) (ext : Value) (ord : Ord w E view ext) (Vb s p i : Nat) (now : Int) (hV : VoteAt w Vb s p i) (hi : i < E.nv) (hs : s < 2 ^ 64) (hp : p < 256) :
    Calls Yba.prog 4 #[.pointer (some ⟨E.O, 0, none⟩), .int .i64 now, .pointer (some ⟨Vb, 0, none⟩)] w fun e w' => e = .returned (.tuple #[]) ∧ ((lv i < s ∧ Post E lo lv lp cnt view ext s p i w w') ∨ (s ≤ lv i ∧ w' = w.drew.drew)) := by
  obtain ⟨es, clock, cb, vb, cp, vs, hst, full⟩ := h
  by_cases hn : lv i < s
  · exact (count_new ok lo hlo w hst full view ext ord Vb s p i now hV hi hn hs hp).mono fun e w' hh => ⟨hh.1, .inl ⟨hn, hh.2⟩⟩
  · exact (count_old w hst view ext ord Vb s p i now hV hi (by omega)).mono fun e w' hh => ⟨hh.1, .inr ⟨by omega, hh.2⟩⟩

/-- the law's blocks -/
structure Lay where
  w : World
  E : Env
  LW : Nat
  LP : Nat
  CN : Nat
  nv : Nat
  st : Nat → Nat
structure Lay.Ok (Y : Lay) : Prop where
  ok : Y.E.Ok
  lo : Lo Y.E Y.w.heap.size
  env : Y.E.nv = Y.nv
  est : Y.E.st = Y.st
  h1 : 1 ≤ Y.nv
  ST : Y.w.heap.size + 2 < Y.E.base
  LW : Y.E.base ≤ Y.LW
  LP : Y.E.base ≤ Y.LP
  CN : Y.E.base ≤ Y.CN
  ap : Y.LW ≠ Y.LP ∧ Y.LW ≠ Y.CN ∧ Y.LP ≠ Y.CN

structure PP (Y : Lay) (lv lp : Nat → Nat) (cnt : Nat → Bool) (view : Nat) (ext : Value) (L : List (Nat × Obj)) (fl fp fc : Nat → Value) (wr : World) : Prop where
  sts : Sts wr Y.E lv lp cnt
  ord : Ord wr Y.E view ext
  wat : ∀ x ∈ L, wr.heap[x.1]? = some x.2 ∧ ∃ A t fr, x.2 = .cells A t fr ∧ t ≠ 32 ∧ t ≠ 22 ∧ t ≠ 60
  a1 : Arr wr Y.LW 32 fl
  a2 : Arr wr Y.LP 22 fp
  a3 : Arr wr Y.CN 60 fc
  a4 : Arr wr (Y.w.heap.size + 2) 32 (fun j => .int .u64 ((if j < Y.nv then Y.st j else 0 : Nat) : Int))
  bel : Below Y.w.heap.size Y.w wr

section
variable {Y : Lay} {lv lp : Nat → Nat} {cnt : Nat → Bool} {view : Nat} {ext : Value} {L : List (Nat × Obj)} {fl fp fc : Nat → Value} {wr wr' : World}

theorem PP.chg (h : PP Y lv lp cnt view ext L fl fp fc wr) (ok : Y.Ok) (hc : Chg [] wr wr') : PP Y lv lp cnt view ext L fl fp fc wr' := by
  have k : ∀ {b : Nat} {o : Obj}, wr.heap[b]? = some o → wr'.heap[b]? = some o := fun hb => (hc.block _ (lt_of_heap hb) (by simp)).trans hb
  obtain ⟨es, clock, cb, vb, cp, vs, hst, full⟩ := h.sts
  have hO : Y.E.O < wr.heap.size := by have := hst.siz; have := ok.ok.O; omega
  exact ⟨⟨_, _, _, _, _, _, hst.keep ok.ok [] hc (by simp), full⟩, h.ord.keep (hc.block _ hO (by simp)), fun x hx => ⟨k (h.wat x hx).1, (h.wat x hx).2⟩, k h.a1, k h.a2, k h.a3, k h.a4, Chg.below h.bel hc h.bel.size (by simp)⟩

/-- one of the law's own arrays turns: what else stands -/
theorem PP.side (h : PP Y lv lp cnt view ext L fl fp fc wr) (ok : Y.Ok) (b j : Nat) (v : Value) (hb : Y.E.base ≤ b) {t : TypeId} {f : Nat → Value} (ha : Arr wr b t f) (ht : t = 32 ∨ t = 22 ∨ t = 60) :
    Sts (wr.setCell ⟨b, j, none⟩ v) Y.E lv lp cnt ∧ Ord (wr.setCell ⟨b, j, none⟩ v) Y.E view ext ∧ (∀ x ∈ L, (wr.setCell ⟨b, j, none⟩ v).heap[x.1]? = some x.2 ∧ ∃ A t fr, x.2 = .cells A t fr ∧ t ≠ 32 ∧ t ≠ 22 ∧ t ≠ 60) ∧ Below Y.w.heap.size Y.w (wr.setCell ⟨b, j, none⟩ v) ∧ ∀ k, k ≠ b → (wr.setCell ⟨b, j, none⟩ v).heap[k]? = wr.heap[k]? := by
  obtain ⟨es, clock, cb, vb, cp, vs, hst, full⟩ := h.sts
  have hc : Chg [b] wr (wr.setCell ⟨b, j, none⟩ v) := (Chg.refl _ wr).setCell b j (by simp) v
  have oth : ∀ k, k ≠ b → (wr.setCell ⟨b, j, none⟩ v).heap[k]? = wr.heap[k]? := fun k hk => Below.heap_setCell wr ⟨b, j, none⟩ v k hk
  have hO := ok.ok.O
  have hlo := ok.lo.base
  refine ⟨⟨_, _, _, _, _, _, hst.far ok.ok hc (fun x hx => ?_), full⟩, h.ord.keep (oth _ (by omega)), fun x hx => ?_, Chg.below h.bel hc h.bel.size (by simp; omega), oth⟩
  · simp at hx
    subst hx
    refine ⟨hb, _, _, _, ha, ?_⟩
    rcases ht with rfl | rfl | rfl <;> exact ⟨by decide, by decide, by decide⟩
  · obtain ⟨h1, A, t', fr, h2, h3, h4, h5⟩ := h.wat x hx
    refine ⟨(oth _ (fun e => ?_)).trans h1, A, t', fr, h2, h3, h4, h5⟩
    unfold Arr at ha
    rw [e, ha, h2] at h1
    injection h1 with h1
    injection h1 with _ h1 _
    subst h1
    rcases ht with ht | ht | ht
    · exact h3 ht
    · exact h4 ht
    · exact h5 ht

theorem PP.put1 (h : PP Y lv lp cnt view ext L fl fp fc wr) (ok : Y.Ok) {i : Nat} (hi : i < 4) (v : Value) : PP Y lv lp cnt view ext L (upd fl i v) fp fc (wr.setCell ⟨Y.LW, i, none⟩ v) := by
  obtain ⟨h1, h2, h3, h4, oth⟩ := h.side ok Y.LW i v ok.LW h.a1 (by simp)
  have := ok.ap
  have := ok.ST
  have := ok.LW
  exact ⟨h1, h2, h3, h.a1.put hi v, h.a2.keep (oth _ (by omega)), h.a3.keep (oth _ (by omega)), h.a4.keep (oth _ (by omega)), h4⟩
theorem PP.put2 (h : PP Y lv lp cnt view ext L fl fp fc wr) (ok : Y.Ok) {i : Nat} (hi : i < 4) (v : Value) : PP Y lv lp cnt view ext L fl (upd fp i v) fc (wr.setCell ⟨Y.LP, i, none⟩ v) := by
  obtain ⟨h1, h2, h3, h4, oth⟩ := h.side ok Y.LP i v ok.LP h.a2 (by simp)
  have := ok.ap
  have := ok.ST
  have := ok.LP
  exact ⟨h1, h2, h3, h.a1.keep (oth _ (by omega)), h.a2.put hi v, h.a3.keep (oth _ (by omega)), h.a4.keep (oth _ (by omega)), h4⟩
theorem PP.put3 (h : PP Y lv lp cnt view ext L fl fp fc wr) (ok : Y.Ok) {i : Nat} (hi : i < 4) (v : Value) : PP Y lv lp cnt view ext L fl fp (upd fc i v) (wr.setCell ⟨Y.CN, i, none⟩ v) := by
  obtain ⟨h1, h2, h3, h4, oth⟩ := h.side ok Y.CN i v ok.CN h.a3 (by simp)
  have := ok.ap
  have := ok.ST
  have := ok.CN
  exact ⟨h1, h2, h3, h.a1.keep (oth _ (by omega)), h.a2.keep (oth _ (by omega)), h.a3.put hi v, h.a4.keep (oth _ (by omega)), h4⟩
theorem PP.congr {cnt' : Nat → Bool} (h : PP Y lv lp cnt view ext L fl fp fc wr) (ok : Y.Ok) (hc : ∀ j, j < Y.nv → cnt' j = cnt j) : PP Y lv lp cnt' view ext L fl fp fc wr := by
  obtain ⟨es, clock, cb, vb, cp, vs, hst, full⟩ := h.sts
  exact ⟨⟨_, _, _, _, _, _, hst.congr (fun j hj => hc j (by rw [← ok.env]; exact hj)), full⟩, h.ord, h.wat, h.a1, h.a2, h.a3, h.a4, h.bel⟩
/-- over a call of count -/
theorem PP.call (h : PP Y lv lp cnt view ext L fl fp fc wr) (hf : Fr Y.w.heap.size wr wr') {lv' lp' : Nat → Nat} {cnt' : Nat → Bool} {view' : Nat} {ext' : Value} {L' : List (Nat × Obj)} (hs : Sts wr' Y.E lv' lp' cnt') (ho : Ord wr' Y.E view' ext')
    (hL : ∀ x ∈ L', wr'.heap[x.1]? = some x.2 ∧ ∃ A t fr, x.2 = .cells A t fr ∧ t ≠ 32 ∧ t ≠ 22 ∧ t ≠ 60) : PP Y lv' lp' cnt' view' ext' L' fl fp fc wr' :=
  ⟨hs, ho, hL, h.a1.fr hf (by simp), h.a2.fr hf (by simp), h.a3.fr hf (by simp), h.a4.fr hf (by simp), h.bel.trans ⟨hf.os, hf.tape, hf.output, hf.size, fun b hb => hf.low b hb (by have := h.bel.size; omega)⟩⟩
end

/-- the QC that the law remembers -/
def QOk (ext : Value) (L : List (Nat × Obj)) (hq : Bool) (qv qp : Nat) : Prop :=
  (hq = false ∧ ext = .pointer none) ∨ (hq = true ∧ ∃ Q X, ext = .pointer (some ⟨Q, 0, none⟩) ∧ (Q, Obj.cells (qc qv qp X).toArray 48 (0, 0)) ∈ L)
/-- the QC that was just formed: its votes -/
def FOk (ext : Value) (L : List (Nat × Obj)) (nv : Nat) (lv lp : Nat → Nat) (fm : Bool) (c qv qp : Nat) : Prop :=
  fm = true → ∃ Q V cap cur l, ext = .pointer (some ⟨Q, 0, none⟩) ∧ (Q, Obj.cells (qc qv qp (.slice (some ⟨V, 0, none⟩) l.length cap)).toArray 48 (0, 0)) ∈ L ∧ (V, Obj.cells cur 66 (0, 0)) ∈ L ∧
    l.length ≤ cap ∧ cap ≤ maxLen ∧ cur.size = cap * 65 ∧ cur.toList.take (l.length * 65) = scs l ∧ c = l.length ∧ ∀ j ∈ l, j < nv ∧ lv j = qv ∧ lp j = qp
theorem PP.sub {Y : Lay} {lv lp : Nat → Nat} {cnt : Nat → Bool} {view : Nat} {ext : Value} {L L' : List (Nat × Obj)} {fl fp fc : Nat → Value} {wr : World} (h : PP Y lv lp cnt view ext L fl fp fc wr) (hL : ∀ x ∈ L', x ∈ L) : PP Y lv lp cnt view ext L' fl fp fc wr :=
  ⟨h.sts, h.ord, fun x hx => h.wat x (hL x hx), h.a1, h.a2, h.a3, h.a4, h.bel⟩

theorem al_at (w : World) (o : Obj) (n : Nat) (h : n = w.heap.size) : (w.alloc o).heap[n]? = some o := by subst h; exact (MapKept.heap_alloc w o).1
theorem al_lo (w : World) (o : Obj) (n : Nat) (h : n < w.heap.size) : (w.alloc o).heap[n]? = w.heap[n]? := Below.heap_alloc w o n h

theorem law_start {w wr : World} {x st : Nat → Nat} {nv T : Nat} (h : SetR w x st nv wr) (h1 : 1 ≤ nv) (h4 : nv ≤ 4) (hst : ∀ j, st j ≤ 4) (hT : T ≤ 16) :
    ∃ Y : Lay, Y.Ok ∧ Y.w = w ∧ Y.nv = nv ∧ Y.st = st ∧ Y.E.T = T ∧ Y.E.O = wr.heap.size + 4 ∧ Y.LW = wr.heap.size + 5 ∧ Y.LP = wr.heap.size + 6 ∧ Y.CN = wr.heap.size + 7 ∧
      PP Y (fun _ => 0) (fun _ => 0) (fun _ => false) 1 (.pointer none) [] (fun _ => .int .u64 0) (fun _ => .int .u8 0) (fun _ => .bool false)
        ((((((((wr.setCell ⟨w.heap.size + 1, 34, none⟩ (.int .u64 T)).alloc (.map #[] 0)).alloc (.map #[] 0)).alloc (.map #[] 0)).alloc (.cells (zlv nv) 71)).alloc (.cells (oA (w.heap.size + 1) wr.heap.size (wr.heap.size + 1) (wr.heap.size + 1 + 1) (wr.heap.size + 1 + 1 + 1) nv) 59)).alloc
          (.cells #[.int .u64 0, .int .u64 0, .int .u64 0, .int .u64 0] 32)).alloc (.cells #[.int .u8 0, .int .u8 0, .int .u8 0, .int .u8 0] 22) |>.alloc (.cells #[.bool false, .bool false, .bool false, .bool false] 60)) := by
  obtain ⟨X, hX, own⟩ := h.gen
  have hs := h.size
  have z1 : (wr.setCell ⟨w.heap.size + 1, 34, none⟩ (.int .u64 T)).heap.size = wr.heap.size := by simp [World.setCell]
  have hg : (wr.setCell ⟨w.heap.size + 1, 34, none⟩ (.int .u64 T)).heap[w.heap.size + 1]? = some (.cells (gc X T).toArray 31 (0, 0)) := by
    rw [← gc_tot X 0 T]; exact heap_setCell_same wr _ 34 _ 31 _ hX
  have ho : ∀ b, b ≠ w.heap.size + 1 → (wr.setCell ⟨w.heap.size + 1, 34, none⟩ (.int .u64 T)).heap[b]? = wr.heap[b]? := fun b hb => Below.heap_setCell wr ⟨w.heap.size + 1, 34, none⟩ _ b hb
  have ht : Chg [w.heap.size + 1] wr (wr.setCell ⟨w.heap.size + 1, 34, none⟩ (.int .u64 T)) := (Chg.refl _ wr).setCell _ _ (by simp) _
  generalize wr.setCell ⟨w.heap.size + 1, 34, none⟩ (.int .u64 T) = wT at *
  obtain ⟨w1, e1⟩ : ∃ w1, w1 = wT.alloc (.map #[] 0) := ⟨_, rfl⟩
  have s1 : w1.heap.size = wr.heap.size + 1 := by rw [e1]; simp [z1]
  obtain ⟨w2, e2⟩ : ∃ w2, w2 = w1.alloc (.map #[] 0) := ⟨_, rfl⟩
  have s2 : w2.heap.size = wr.heap.size + 2 := by rw [e2]; simp [s1]
  obtain ⟨w3, e3⟩ : ∃ w3, w3 = w2.alloc (.map #[] 0) := ⟨_, rfl⟩
  have s3 : w3.heap.size = wr.heap.size + 3 := by rw [e3]; simp [s2]
  obtain ⟨w4, e4⟩ : ∃ w4, w4 = w3.alloc (.cells (zlv nv) 71) := ⟨_, rfl⟩
  have s4 : w4.heap.size = wr.heap.size + 4 := by rw [e4]; simp [s3]
  obtain ⟨w5, e5⟩ : ∃ w5, w5 = w4.alloc (.cells (oA (w.heap.size + 1) wr.heap.size (wr.heap.size + 1) (wr.heap.size + 1 + 1) (wr.heap.size + 1 + 1 + 1) nv) 59) := ⟨_, rfl⟩
  have s5 : w5.heap.size = wr.heap.size + 5 := by rw [e5]; simp [s4]
  have d5 : ∀ b, b < wr.heap.size + 4 → w5.heap[b]? = w4.heap[b]? := fun b hb => by rw [e5]; exact al_lo _ _ _ (by omega)
  have d4 : ∀ b, b < wr.heap.size + 3 → w4.heap[b]? = w3.heap[b]? := fun b hb => by rw [e4]; exact al_lo _ _ _ (by omega)
  have d3 : ∀ b, b < wr.heap.size + 2 → w3.heap[b]? = w2.heap[b]? := fun b hb => by rw [e3]; exact al_lo _ _ _ (by omega)
  have d2 : ∀ b, b < wr.heap.size + 1 → w2.heap[b]? = w1.heap[b]? := fun b hb => by rw [e2]; exact al_lo _ _ _ (by omega)
  have d1 : ∀ b, b < wr.heap.size → w1.heap[b]? = wT.heap[b]? := fun b hb => by rw [e1]; exact al_lo _ _ _ (by omega)
  have low : ∀ b, b < wr.heap.size → w5.heap[b]? = wT.heap[b]? := fun b hb => by rw [d5 b (by omega), d4 b (by omega), d3 b (by omega), d2 b (by omega), d1 b hb]
  obtain ⟨E, ini, hEO⟩ := set_ini (wI := w5) h h1 h4 hst hT hX own (fun b hb hn => (low b hb).trans (ho b hn)) ((low _ (by omega)).trans hg)
    (by rw [d5 _ (by omega), d4 _ (by omega), d3 _ (by omega), d2 _ (by omega), e1]; exact al_at _ _ _ (by omega))
    (by rw [d5 _ (by omega), d4 _ (by omega), d3 _ (by omega), e2]; exact al_at _ _ _ (by omega))
    (by rw [d5 _ (by omega), d4 _ (by omega), e3]; exact al_at _ _ _ (by omega))
    (by rw [d5 _ (by omega), e4]; exact al_at _ _ _ (by omega))
    (by rw [e5]; exact al_at _ _ _ (by omega)) s5
    (by rw [e5, e4, e3, e2, e1]; exact ht.os) (by rw [e5, e4, e3, e2, e1]; exact ht.tape) (by rw [e5, e4, e3, e2, e1]; exact ht.output)
  rw [← e1, ← e2, ← e3, ← e4, ← e5]
  have hb : E.base = wr.heap.size + 5 ∨ E.base ≤ wr.heap.size + 5 := by have := ini.base; omega
  have hbb : E.base ≤ wr.heap.size + 5 := by omega
  refine ⟨⟨w, E, wr.heap.size + 5, wr.heap.size + 6, wr.heap.size + 7, nv, st⟩, ⟨ini.ok, ini.lo, ini.env, ini.est, h1, ini.arr, hbb, by dsimp only; omega, by dsimp only; omega, by dsimp only; omega⟩, rfl, rfl, rfl, ini.eT, hEO, rfl, rfl, rfl, ?_⟩
  have hc : Chg [] w5 ((w5.alloc (.cells #[.int .u64 0, .int .u64 0, .int .u64 0, .int .u64 0] 32)).alloc (.cells #[.int .u8 0, .int .u8 0, .int .u8 0, .int .u8 0] 22) |>.alloc (.cells #[.bool false, .bool false, .bool false, .bool false] 60)) := (((Chg.refl _ w5).alloc _).alloc _).alloc _
  obtain ⟨es, clock, cb, vb, cp, vs, hst', full⟩ := ini.sts
  have hO := ini.ok.O
  have hbs := ini.base
  have har := ini.arr
  refine ⟨⟨_, _, _, _, _, _, hst'.keep ini.ok [] hc (by simp), full⟩, ini.ord.keep (hc.block _ (by omega) (by simp)), by simp, ?_, ?_, ?_, ini.sta.keep (hc.block _ (by omega) (by simp)), Chg.below ini.bel hc ini.bel.size (by simp)⟩
  · unfold Arr
    rw [al_lo _ _ _ (by simp [s5]), al_lo _ _ _ (by simp [s5]), al_at _ _ _ (by simp [s5])]
    rfl
  · unfold Arr
    rw [al_lo _ _ _ (by simp [s5]), al_at _ _ _ (by simp [s5])]
    rfl
  · unfold Arr
    rw [al_at _ _ _ (by simp [s5])]
    rfl
end Go.Proofs.Ybulkmns
