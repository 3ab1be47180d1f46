/-
  The cells of a proposal's id, of a ballot's key, of a signer; and the map of ballots, entry by entry.
-/
import Derived.Test.YbulkmnsRows
import Derived.ProofKit
import Derived.DeepKeys4
import Derived.Maps.RangeWalk
import Derived.Deep.Upon
namespace Go.Proofs.Ybulkmns
open Go.RowKit Go.ChangeShapes Go.WideShapes Go.MapKept
open Go.ChangeMaps (setBlock heap_setBlock_same heap_setBlock_other)

theorem laidOut : laidOutB Yba.prog = true := by kernel_rfl
theorem own : ownKnob Yba.prog.godebug = none := by kernel_rfl

def ic (p : Nat) : List Value := .int .u8 p :: List.replicate 31 (.int .u8 0)
def kc (v p : Nat) : List Value := .int .u64 v :: ic p
def sc (i : Nat) : List Value := .int .i64 i :: List.replicate 64 (.int .u8 0)
def iv (p : Nat) : Value := .agg (ic p).toArray
def kv (v p : Nat) : Value := .agg (kc v p).toArray
def sv (i : Nat) : Value := .agg (sc i).toArray
theorem ic_len (p : Nat) : (ic p).length = 32 := by simp [ic]
theorem kc_len (v p : Nat) : (kc v p).length = 33 := by simp [kc, ic_len]
theorem sc_len (i : Nat) : (sc i).length = 65 := by simp [sc]

theorem kv_inj {v p v' p' : Nat} (h : kv v p = kv v' p') : v = v' ∧ p = p' := by
  simp [kv, kc, ic] at h
  omega

theorem wide71 : (match Yba.prog.underlying 71 with | some (.array _ _) | some (.struct _) => true | _ => false) = true := by rw [Yba.underlying71]
theorem wide45 : (match Yba.prog.underlying 45 with | some (.array _ _) | some (.struct _) => true | _ => false) = true := by rw [Yba.underlying45]
set_option maxRecDepth 100000 in
theorem law71 : Maps.Keyed Yba.prog 71 := Maps.Keyed.of_law (deep_law_laid laidOut (m := 3) (by omega) (of_decide_eq_true (by kernel_rfl)) (by kernel_rfl) wide71)
set_option maxRecDepth 100000 in
theorem law45 : Maps.Keyed Yba.prog 45 := Maps.Keyed.of_law (deep_law_laid laidOut (m := 3) (by omega) (of_decide_eq_true (by kernel_rfl)) (by kernel_rfl) wide45)

theorem wf_u8 (p : Nat) (hp : p < 256) : (Lit.int .u8 p).wf = true := by
  have h1 : IntKind.u8.min = 0 := rfl
  have h2 : IntKind.u8.max = 255 := rfl
  simp [Lit.wf, h1, h2]
  omega
theorem wf_u64 (v : Nat) (hv : v < 2 ^ 64) : (Lit.int .u64 v).wf = true := by
  have h1 : IntKind.u64.min = 0 := rfl
  have h2 : IntKind.u64.max = 18446744073709551615 := rfl
  simp [Lit.wf, h1, h2]
  omega
theorem lits_u8 (d p : Nat) (hp : p < 256) : Yba.prog.keyLits (d + 1) 5 [.int .u8 p] = some [.int .u8 p] := by
  have := wf_u8 p hp
  simp [Program.keyLits, Yba.underlying5, this]
theorem lits_u64 (d v : Nat) (hv : v < 2 ^ 64) : Yba.prog.keyLits (d + 1) 29 [.int .u64 v] = some [.int .u64 v] := by
  have := wf_u64 v hv
  simp [Program.keyLits, Yba.underlying29, this]
theorem mapM_some {α β : Type} (f : α → Option β) : ∀ l : List α, (∀ x ∈ l, ∃ y, f x = some y) → ∃ ys, l.mapM f = some ys
  | [], _ => ⟨[], rfl⟩
  | a :: r, h => by
    obtain ⟨y, hy⟩ := h a (by simp)
    obtain ⟨ys, hys⟩ := mapM_some f r (fun x hx => h x (by simp [hx]))
    exact ⟨y :: ys, by simp [List.mapM_cons, hy, hys]⟩
theorem cells45 : Yba.prog.cellsOf 45 = 32 := by kernel_rfl
theorem cells71 : Yba.prog.cellsOf 71 = 33 := by kernel_rfl
theorem cells5 : Yba.prog.cellsOf 5 = 1 := by kernel_rfl
theorem cells29 : Yba.prog.cellsOf 29 = 1 := by kernel_rfl
theorem ic_get (p i : Nat) (h : i < 32) (hp : p < 256) : ∃ q, q < 256 ∧ (ic p)[i]? = some (.int .u8 (q : Nat)) := by
  unfold ic
  cases i with
  | zero => exact ⟨p, hp, rfl⟩
  | succ i => exact ⟨0, by omega, by rw [List.getElem?_cons_succ, List.getElem?_replicate, if_pos (by omega)]; rfl⟩
theorem lits_ic (d p : Nat) (hp : p < 256) : ∃ ls, Yba.prog.keyLits (d + 2) 45 (ic p) = some ls := by
  obtain ⟨ys, hys⟩ := mapM_some (fun i => Yba.prog.keyLits (d + 1) 5 (((ic p).drop (i * Yba.prog.cellsOf 5)).take (Yba.prog.cellsOf 5))) (List.range 32) (fun i hi => by
    obtain ⟨q, hq, hg⟩ := ic_get p i (by simpa using hi) hp
    refine ⟨[.int .u8 q], ?_⟩
    rw [cells5, Nat.mul_one]
    have hd : (ic p).drop i = Value.int .u8 q :: (ic p).drop (i + 1) := by
      obtain ⟨h, e⟩ := List.getElem?_eq_some_iff.1 hg
      rw [List.drop_eq_getElem_cons h, e]
    rw [hd]
    exact lits_u8 d q hq)
  refine ⟨ys.flatten, ?_⟩
  unfold Program.keyLits
  rw [Yba.underlying45]
  dsimp only
  rw [if_pos (by rw [ic_len, cells45]), hys]
  rfl
theorem key45 (p : Nat) (hp : p < 256) : ∃ l, keyOf Yba.prog 45 (iv p) = some l := by
  obtain ⟨ls, h⟩ := lits_ic (Yba.prog.types.size - 1) p hp
  have hs : Yba.prog.types.size - 1 + 2 = Yba.prog.types.size + 1 := by
    have : 0 < Yba.prog.types.size := of_decide_eq_true (by kernel_rfl)
    omega
  rw [hs] at h
  refine ⟨.string (keyBytes ls), ?_⟩
  unfold keyOf
  rw [Yba.underlying45]
  have e1 : Yba.prog.keyType 45 = true := by kernel_rfl
  have e2 : (iv p).formed Yba.prog 45 = true := by simp [iv, Value.formed, Yba.underlying45, cells45, ic_len]
  simp only [e1, e2, Bool.and_self, if_true]
  show ((Yba.prog.keyLits (Yba.prog.types.size + 1) 45 (ic p)).map fun ls => Lit.string (keyBytes ls)) = _
  rw [h]
  rfl
theorem lits_kc (d v p : Nat) (hv : v < 2 ^ 64) (hp : p < 256) : ∃ ls, Yba.prog.keyLits (d + 3) 71 (kc v p) = some ls := by
  obtain ⟨ls, h⟩ := lits_ic d p hp
  refine ⟨[[Lit.int .u64 v], ls].flatten, ?_⟩
  unfold Program.keyLits
  rw [Yba.underlying71]
  dsimp only
  rw [if_pos ⟨by rw [kc_len, cells71], by simp⟩]
  have e1 : (kc v p).take (Yba.prog.cellsOf 29) = [.int .u64 v] := by rw [cells29]; rfl
  have e2 : (kc v p).tail.take (Yba.prog.cellsOf 45) = ic p := by rw [cells45]; rfl
  simp [List.mapM_cons, e1, e2, lits_u64 (d + 1) v hv, h]
theorem key71 (v p : Nat) (hv : v < 2 ^ 64) (hp : p < 256) : ∃ l, keyOf Yba.prog 71 (kv v p) = some l := by
  obtain ⟨ls, h⟩ := lits_kc (Yba.prog.types.size - 2) v p hv hp
  have hs : Yba.prog.types.size - 2 + 3 = Yba.prog.types.size + 1 := by
    have : 1 < Yba.prog.types.size := of_decide_eq_true (by kernel_rfl)
    omega
  rw [hs] at h
  refine ⟨.string (keyBytes ls), ?_⟩
  unfold keyOf
  rw [Yba.underlying71]
  have e1 : Yba.prog.keyType 71 = true := by kernel_rfl
  have e2 : (kv v p).formed Yba.prog 71 = true := by simp [kv, Value.formed, Yba.underlying71, cells71, kc_len]
  simp only [e1, e2, Bool.and_self, if_true]
  show ((Yba.prog.keyLits (Yba.prog.types.size + 1) 71 (kc v p)).map fun ls => Lit.string (keyBytes ls)) = _
  rw [h]
  rfl

/-! ### the map of ballots -/
def ptr (b : Nat) : Value := .pointer (some ⟨b, 0, none⟩)
def num : Option Value → Nat
  | some (.int _ v) => v.toNat
  | _ => 0
def cellsOfKey : Value → List Value
  | .agg cs => cs.toList
  | _ => []
def vw (e : MapEntry) : Nat := num (cellsOfKey e.key)[0]?
def pr (e : MapEntry) : Nat := num (cellsOfKey e.key)[1]?
def bk (e : MapEntry) : Nat := match e.val with | .pointer (some a) => a.block | _ => 0
structure GoodE (e : MapEntry) : Prop where
  key : e.key = kv (vw e) (pr e)
  val : e.val = ptr (bk e)
  v : vw e < 2 ^ 64
  p : pr e < 256
structure BMap (w : World) (b : Nat) (es : Array MapEntry) (clock : Nat) : Prop where
  at_ : w.heap[b]? = some (.map es clock)
  st : Stamped es clock
  good : ∀ e ∈ es.toList, GoodE e
theorem GoodE.keyed {e : MapEntry} (h : GoodE e) : ∃ l, keyOf Yba.prog 71 e.key = some l := by rw [h.key]; exact key71 _ _ h.v h.p
theorem vw_mk (v p : Nat) (x : Value) (c : Nat) : vw ⟨kv v p, x, c⟩ = v := by simp [vw, kv, kc, cellsOfKey, num]
theorem pr_mk (v p : Nat) (x : Value) (c : Nat) : pr ⟨kv v p, x, c⟩ = p := by simp [pr, kv, kc, ic, cellsOfKey, num]
theorem bk_mk (k : Value) (b c : Nat) : bk ⟨k, ptr b, c⟩ = b := rfl
theorem good_mk (v p b c : Nat) (hv : v < 2 ^ 64) (hp : p < 256) : GoodE ⟨kv v p, ptr b, c⟩ :=
  ⟨by rw [vw_mk, pr_mk], by rw [bk_mk], by rw [vw_mk]; exact hv, by rw [pr_mk]; exact hp⟩

section
variable {w : World} {b : Nat} {es : Array MapEntry} {clock : Nat}
theorem zero74 (w : World) : (zeroValue 74).run Yba.prog w = .ok (.pointer none) w := by kernel_rfl

theorem BMap.hit (M : BMap w b es clock) {e : MapEntry} (he : e ∈ es.toList) : (Instr.lookup 40 (.map (some b)) e.key false).run Yba.prog w = .ok e.val w := by
  obtain ⟨l, hl⟩ := (M.good e he).keyed
  have hst := (stamped_iff es clock).1 M.st
  rcases law71.find w hl es.toList (fun x hx => (M.good x hx).keyed) with ⟨_, h2⟩ | ⟨j, e0, h1, h2, h3⟩
  · exact absurd rfl (h2 e he)
  · have : e0 = e := entry_eq_of_key hst.2.2 (List.mem_of_getElem? h2) he h3
    subst this
    simp [Instr.lookup, run_underlying Yba.underlying40, MapKept.run_getObj_map M.at_, law71.check w _ hl, h1, Result.andThen]

theorem BMap.miss (M : BMap w b es clock) {v p : Nat} (hv : v < 2 ^ 64) (hp : p < 256) (hn : ∀ e ∈ es.toList, e.key ≠ kv v p) : (Instr.lookup 40 (.map (some b)) (kv v p) false).run Yba.prog w = .ok (.pointer none) w := by
  obtain ⟨l, hl⟩ := key71 v p hv hp
  rcases law71.find w hl es.toList (fun x hx => (M.good x hx).keyed) with ⟨h1, _⟩ | ⟨j, e0, h1, h2, h3⟩
  · simp [Instr.lookup, run_underlying Yba.underlying40, MapKept.run_getObj_map M.at_, law71.check w _ hl, h1, Result.andThen]
  · exact absurd h3 (hn e0 (List.mem_of_getElem? h2))

theorem BMap.put (M : BMap w b es clock) {v p B : Nat} (hv : v < 2 ^ 64) (hp : p < 256) (hn : ∀ e ∈ es.toList, e.key ≠ kv v p) :
    (Instr.mapUpdate 40 (.map (some b)) (kv v p) (ptr B)).run Yba.prog w = .ok () (setBlock w b (.map (es.push ⟨kv v p, ptr B, clock⟩) (clock + 1))) ∧
      BMap (setBlock w b (.map (es.push ⟨kv v p, ptr B, clock⟩) (clock + 1))) b (es.push ⟨kv v p, ptr B, clock⟩) (clock + 1) := by
  obtain ⟨l, hl⟩ := key71 v p hv hp
  refine ⟨?_, heap_setBlock_same M.at_ _, stamped_push M.st hn, fun e he => ?_⟩
  · rcases law71.find w hl es.toList (fun x hx => (M.good x hx).keyed) with ⟨h1, _⟩ | ⟨j, e0, h1, h2, h3⟩
    · simp [Instr.mapUpdate, run_underlying Yba.underlying40, MapKept.run_getObj_map M.at_, law71.check w _ hl, h1, Result.andThen, MapKept.run_setObj_map _ M.at_, setBlock]
    · exact absurd h3 (hn e0 (List.mem_of_getElem? h2))
  · rcases (by simpa using he : e ∈ es.toList ∨ e = ⟨kv v p, ptr B, clock⟩) with h | h
    · exact M.good e h
    · rw [h]; exact good_mk v p B clock hv hp

theorem BMap.drop (M : BMap w b es clock) {e : MapEntry} (he : e ∈ es.toList) (ty : TypeId) :
    ∃ es' : Array MapEntry, es'.toList = es.toList.filter (fun x => x.born != e.born) ∧ (Builtin.delete_ #[40, 71] ty #[.map (some b), e.key]).run Yba.prog w = .ok (.tuple #[]) (setBlock w b (.map es' clock)) ∧
      BMap (setBlock w b (.map es' clock)) b es' clock := by
  obtain ⟨l, hl⟩ := (M.good e he).keyed
  have hst := (stamped_iff es clock).1 M.st
  rcases law71.find w hl es.toList (fun x hx => (M.good x hx).keyed) with ⟨_, h2⟩ | ⟨j, e0, h1, h2, h3⟩
  · exact absurd rfl (h2 e he)
  · have : e0 = e := entry_eq_of_key hst.2.2 (List.mem_of_getElem? h2) he h3
    subst this
    have hjl : j < es.toList.length := (List.getElem?_eq_some_iff.1 h2).1
    have hjs : j < es.size := by simpa using hjl
    have hsub : (es.eraseIdxIfInBounds j).toList = es.toList.eraseIdx j := by
      unfold Array.eraseIdxIfInBounds
      rw [dif_pos hjs]
      simp
    have hfl : es.toList.eraseIdx j = es.toList.filter (fun x => x.born != e0.born) := by
      have hnd := hst.2.1
      clear hsub hjs hst h1 hl
      generalize es.toList = L at *
      clear he
      induction L generalizing j with
      | nil => simp at hjl
      | cons a r ih =>
        cases j with
        | zero =>
          simp at h2
          subst h2
          simp at hnd
          rw [List.eraseIdx_cons_zero, List.filter_cons, if_neg (by simp)]
          refine (List.filter_eq_self.2 (fun x hx => ?_)).symm
          simpa using (hnd.1 x hx)
        | succ j =>
          simp only [List.getElem?_cons_succ] at h2
          have hnd' := List.nodup_cons.1 (by simpa using hnd : (a.born :: r.map (·.born)).Nodup)
          have hm := List.mem_of_getElem? h2
          have hab : a.born ≠ e0.born := fun h => hnd'.1 (List.mem_map.2 ⟨e0, hm, h.symm⟩)
          rw [List.eraseIdx_cons_succ, List.filter_cons, if_pos (by simpa using hab), ih j h2 (by simpa using hjl) hnd'.2]
    refine ⟨es.eraseIdxIfInBounds j, hsub.trans hfl, ?_, heap_setBlock_same M.at_ _, stamped_erase M.st j, fun x hx => ?_⟩
    · simp [Builtin.delete_, run_underlying Yba.underlying40, MapKept.run_getObj_map M.at_, law71.check w _ hl, h1, MapKept.run_setObj_map _ M.at_, Result.andThen, setBlock]
    · rw [hsub] at hx
      exact M.good x ((List.eraseIdx_sublist _ _).subset hx)
end
end Go.Proofs.Ybulkmns
