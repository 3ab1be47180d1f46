/-
  Orderer.count: a vote that is not newer; and the cells that the walk reads.
-/
import Derived.Test.YbulkmnsTro
import Derived.Deep.DeepCutAuto
namespace Go.Proofs.Ybulkmns
open Go.RowKit Go.MapKept
open Go.ChangeMaps (setBlock heap_setBlock_same heap_setBlock_other)
set_option linter.unusedSimpArgs false
set_option linter.unusedVariables false

def vc (s p i : Nat) : List Value := .int .u64 s :: (ic p ++ sc i)
theorem vc_len (s p i : Nat) : (vc s p i).length = 98 := by simp [vc, ic_len, sc_len]
theorem vc_id (s p i : Nat) : ∀ j x, (ic p)[j]? = some x → (vc s p i)[1 + j]? = some x := fun j x hj => by
  have hl : j < 32 := by have := (List.getElem?_eq_some_iff.1 hj).1; rwa [ic_len] at this
  unfold vc
  rw [Nat.add_comm, List.getElem?_cons_succ, List.getElem?_append_left (by rw [ic_len]; exact hl)]
  exact hj
theorem vc_sg (s p i : Nat) : ∀ j x, (sc i)[j]? = some x → (vc s p i)[33 + j]? = some x := fun j x hj => by
  unfold vc
  rw [show 33 + j = (32 + j) + 1 by omega, List.getElem?_cons_succ, List.getElem?_append_right (by rw [ic_len]; omega), ic_len, show 32 + j - 32 = j by omega]
  exact hj

/-- the vote that is counted -/
def VoteAt (w : World) (b s p i : Nat) : Prop := w.heap[b]? = some (.cells (vc s p i).toArray 68 (0, 0))
theorem VoteAt.view {w : World} {b s p i : Nat} (h : VoteAt w b s p i) : w.cell? ⟨b, 0, none⟩ = some (.int .u64 s) := cell_of h 0 _ rfl
theorem VoteAt.who {w : World} {b s p i : Nat} (h : VoteAt w b s p i) : w.cell? ⟨b, 33, none⟩ = some (.int .i64 i) := cell_of h 33 _ (by
  have := vc_sg s p i 0 (.int .i64 i) rfl
  simpa using this)
theorem VoteAt.id {w : World} {b s p i : Nat} (h : VoteAt w b s p i) : w.rangeAt b 1 (ic p) := fun j x hj => cell_of h _ _ (by simpa using vc_id s p i j x hj)
theorem VoteAt.sg {w : World} {b s p i : Nat} (h : VoteAt w b s p i) : w.rangeAt b 33 (sc i) := fun j x hj => cell_of h _ _ (by simpa using vc_sg s p i j x hj)
theorem VoteAt.keep {w w' : World} {b s p i : Nat} (h : VoteAt w b s p i) (e : w'.heap[b]? = w.heap[b]?) : VoteAt w' b s p i := e.trans h

/-- what a call may turn: no block below lo, and no block but orderers, signers' rows, keys, ballots and bitsets -/
structure Fr (lo : Nat) (w w' : World) : Prop where
  os : w'.os = w.os
  tape : w'.tape = w.tape
  output : w'.output = w.output
  size : w.heap.size ≤ w'.heap.size
  low : ∀ b, b < lo → b < w.heap.size → w'.heap[b]? = w.heap[b]?
  typ : ∀ (b : Nat) (A : Array Value) (t : TypeId) (fr : Nat × Nat), w.heap[b]? = some (.cells A t fr) → t ≠ 59 → t ≠ 66 → t ≠ 71 → t ≠ 79 → t ≠ 29 → w'.heap[b]? = some (.cells A t fr)
theorem Fr.refl (lo : Nat) (w : World) : Fr lo w w := ⟨rfl, rfl, rfl, Nat.le_refl _, fun _ _ _ => rfl, fun _ _ _ _ h _ _ _ _ _ => h⟩
theorem Fr.trans {lo : Nat} {a b c : World} (h : Fr lo a b) (k : Fr lo b c) : Fr lo a c :=
  ⟨k.os.trans h.os, k.tape.trans h.tape, k.output.trans h.output, Nat.le_trans h.size k.size, fun i hi hs => (k.low i hi (by have := h.size; omega)).trans (h.low i hi hs), fun b A t fr hb h1 h2 h3 h4 h5 => k.typ b A t fr (h.typ b A t fr hb h1 h2 h3 h4 h5) h1 h2 h3 h4 h5⟩
/-- a block that may turn -/
def May (lo : Nat) (w : World) (x : Nat) : Prop := w.heap.size ≤ x ∨ (lo ≤ x ∧ ((∃ es cl, w.heap[x]? = some (.map es cl)) ∨ ∃ A t fr, w.heap[x]? = some (.cells A t fr) ∧ (t = 59 ∨ t = 66 ∨ t = 71 ∨ t = 79 ∨ t = 29)))
theorem Chg.fr {lo : Nat} {S : List Nat} {w w' : World} (h : Chg S w w') (hS : ∀ x ∈ S, May lo w x) : Fr lo w w' :=
  ⟨h.os, h.tape, h.output, h.size, fun b hb hs => h.block b hs (fun hm => by rcases hS b hm with e | ⟨e, _⟩ <;> omega), fun b A t fr hb h1 h2 h3 h4 h5 => (h.block b (lt_of_heap hb) (fun hm => by
    rcases hS b hm with e | ⟨_, ⟨es, cl, e⟩ | ⟨A', t', fr', e, ht⟩⟩
    · have := lt_of_heap hb; omega
    · rw [hb] at e; cases e
    · rw [hb] at e
      injection e with e
      injection e with _ e _
      subst e
      rcases ht with ht | ht | ht | ht | ht
      · exact h1 ht
      · exact h2 ht
      · exact h3 ht
      · exact h4 ht
      · exact h5 ht)).trans hb⟩

section
variable {E : Env} {lv lp : Nat → Nat} {cnt : Nat → Bool} {es : Array MapEntry} {clock : Nat} {cb vb cp : Nat → Nat} {vs : Nat → List Nat}

set_option maxRecDepth 100000 in
set_option maxHeartbeats 400000 in
/-- a vote that is no newer than its signer's last -/
theorem count_old (w : World) (h : St w E lv lp cnt es clock cb vb cp vs) (view : Nat) (ext : Value) (ord : Ord w E view ext) (Vb s p i : Nat) (now : Int) (hV : VoteAt w Vb s p i) (hi : i < E.nv) (hold : s ≤ lv i) :
    Calls Yba.prog 4 #[.pointer (some ⟨E.O, 0, none⟩), .int .i64 now, .pointer (some ⟨Vb, 0, none⟩)] w fun e w' => e = .returned (.tuple #[]) ∧ w' = w.drew.drew := by
  obtain ⟨A, hO, _, _, _, _, _, _, _, _, _, h55, _⟩ := ord
  have c55 : w.cell? ⟨E.O, 55, none⟩ = some (.slice (some ⟨E.LV, 0, none⟩) E.nv E.nv) := cell_of hO 55 _ h55
  have v33 := hV.who
  have v0 := hV.view
  have l0 : w.cell? ⟨E.LV, i * 33, none⟩ = some (.int .u64 (lv i)) := h.lvat.range hi 0 _ rfl
  have hi' : (i : Int) < (E.nv : Int) := by omega
  have hi0 : (0 : Int) ≤ (i : Int) := by omega
  have t1 : decide ((s : Int) ≤ (lv i : Int)) = true := by simp; omega
  generalize lv i = li at *
  generalize E.O = O at *
  generalize E.LV = LV at *
  generalize E.nv = nv at *
  clear h hV hO h55
  go_enter Yba.func4, Yba.ntmps4
  go_wp2_with fail
  go_region_held3 (fun w' => w'.cell? ⟨O, 55, none⟩ = some (.slice (some ⟨LV, 0, none⟩) nv nv) ∧ w'.cell? ⟨Vb, 33, none⟩ = some (.int .i64 i)) (go_keep) (fail)
  go_wp2_with fail
  go_region_held3 (fun w' => w'.cell? ⟨Vb, 0, none⟩ = some (.int .u64 s) ∧ w'.cell? ⟨LV, i * 33, none⟩ = some (.int .u64 li)) (go_keep) (fail)
  go_wp2_with fail
  exact bodyPost_ret (results_none rfl _ _ _) rfl ⟨rfl, rfl⟩
end
end Go.Proofs.Ybulkmns
