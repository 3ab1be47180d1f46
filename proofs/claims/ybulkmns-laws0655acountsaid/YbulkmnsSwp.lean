/-
  The sweep: a range over the ballots that strikes those of views up to s.
-/
import Derived.Test.YbulkmnsApp
namespace Go.Proofs.Ybulkmns
open Go.RowKit Go.MapKept
open Go.ChangeMaps (setBlock heap_setBlock_same heap_setBlock_other)
set_option linter.unusedSimpArgs false
set_option linter.unusedVariables false

/-- what is left after the stamps in 'seen' have come up -/
def kept (s : Nat) (seen : Array Nat) (e : MapEntry) : Bool := decide (s < vw e) || !seen.contains e.born

/-- the frame of the sweep: nothing of w0 turns but the map -/
structure Swf (Bm : Nat) (w0 w : World) : Prop where
  os : w.os = w0.os
  tape : w.tape = w0.tape
  output : w.output = w0.output
  size : w0.heap.size < w.heap.size
  block : ∀ b, b < w0.heap.size → b ≠ Bm → w.heap[b]? = w0.heap[b]?

structure Swp (s Bm clock : Nat) (es0 : Array MapEntry) (w0 w : World) (seen : Array Nat) (es : Array MapEntry) : Prop where
  fr : Swf Bm w0 w
  it : ∃ c0, clock ≤ c0 ∧ w.heap[w0.heap.size]? = some (.mapIter (some Bm) clock seen c0)
  bm : BMap w Bm es clock
  eq : es.toList = es0.toList.filter (kept s seen)

/-- an entry e has come up -/
structure Half (s Bm clock : Nat) (es0 : Array MapEntry) (w0 w : World) (seen : Array Nat) (es : Array MapEntry) (e : MapEntry) : Prop where
  fr : Swf Bm w0 w
  it : w.heap[w0.heap.size]? = some (.mapIter (some Bm) clock (seen.push e.born) clock)
  bm : BMap w Bm es clock
  eq : es.toList = es0.toList.filter (kept s seen)
  mem : e ∈ es.toList

/-- how many stamps are still to come up -/
def todo (es0 : Array MapEntry) (r : Nat) (w : World) : Nat :=
  match w.heap[r]? with
  | some (.mapIter _ _ seen _) => (es0.toList.filter (fun x => !seen.contains x.born)).length
  | _ => 0

theorem heap_setBlock_here (w : World) (b : Nat) (o : Obj) (h : b < w.heap.size) : (setBlock w b o).heap[b]? = some o := by
  simp [setBlock, h]
theorem heap_setBlock_far (w : World) (b : Nat) (o : Obj) (k : Nat) (h : k ≠ b) : (setBlock w b o).heap[k]? = w.heap[k]? := by
  simp [setBlock, Array.getElem?_setIfInBounds_ne (Ne.symm h)]

section
variable {s Bm clock : Nat} {es0 es : Array MapEntry} {w0 w w' : World} {seen : Array Nat} {e : MapEntry}

theorem Swp.start (hb : BMap w0 Bm es0 clock) : Swp s Bm clock es0 w0 (w0.alloc (.mapIter (some Bm) clock #[] clock)) #[] es0 := by
  have hl : Bm < w0.heap.size := lt_of_heap hb.at_
  refine ⟨⟨rfl, rfl, rfl, by simp, fun b h _ => Below.heap_alloc w0 _ b h⟩, ⟨clock, Nat.le_refl _, (MapKept.heap_alloc w0 _).1⟩, ⟨(Below.heap_alloc w0 _ Bm hl).trans hb.at_, hb.st, hb.good⟩, ?_⟩
  rw [List.filter_eq_self.2]
  intro x _
  simp [kept]

theorem Swp.next (h : Swp s Bm clock es0 w0 w seen es) (hBm : Bm < w0.heap.size) :
    ((∀ t, (nxS (.pointer (some ⟨w0.heap.size, 0, none⟩)) false t).run Yba.prog w = .ok (.tuple #[.bool false]) w) ∧ es.toList = es0.toList.filter (fun x => decide (s < vw x))) ∨
    ∃ e w2, (∀ t, (nxS (.pointer (some ⟨w0.heap.size, 0, none⟩)) false t).run Yba.prog w = .ok (.tuple #[.bool true, .agg (kc (vw e) (pr e)).toArray, e.val]) w2) ∧
      (Instr.entry (.pointer (some ⟨w0.heap.size, 0, none⟩))).run Yba.prog w2 = .ok (.tuple #[.agg (kc (vw e) (pr e)).toArray, e.val]) w2 ∧ Half s Bm clock es0 w0 w2 seen es e ∧ seen.contains e.born = false := by
  obtain ⟨c0, hc0, hit⟩ := h.it
  have hst := (stamped_iff es clock).1 h.bm.st
  rcases run_next_at (P := Yba.prog) w 0 w0.heap.size Bm clock c0 seen es clock hit h.bm.at_ hst.1 hc0 with ⟨h1, h2⟩ | ⟨e, he, w1, hw1, hrun⟩
  · refine .inl ⟨fun t => h2, ?_⟩
    rw [h.eq]
    refine List.filter_congr fun x hx => ?_
    unfold kept
    by_cases hs : s < vw x
    · simp [hs]
    · by_cases hb : seen.contains x.born = true
      · rw [hb]; simp
      · exfalso
        have hb' : seen.contains x.born = false := by simpa using hb
        have hin : x ∈ es.toList := by
          rw [h.eq]
          exact List.mem_filter.2 ⟨hx, by unfold kept; rw [hb']; simp⟩
        have : x ∈ leftOf es seen := by
          unfold leftOf
          exact Array.mem_filter.2 ⟨by simpa using hin, by rw [hb']; rfl⟩
        rw [Array.eq_empty_of_size_eq_zero h1] at this
        simp at this
  · have he' : e ∈ es.toList ∧ seen.contains e.born = false := by
      unfold leftOf at he
      simp at he
      exact ⟨by simpa using he.1, by simpa using he.2⟩
    have hk : e.key = .agg (kc (vw e) (pr e)).toArray := (h.bm.good e he'.1).key
    have hlt : w0.heap.size < w.heap.size := h.fr.size
    have w1s : w1.heap = w.heap := by rcases hw1 with rfl | rfl <;> rfl
    have w1o : w1.os = w.os := by rcases hw1 with rfl | rfl <;> rfl
    have w1t : w1.tape = w.tape := by rcases hw1 with rfl | rfl <;> rfl
    have w1p : w1.output = w.output := by rcases hw1 with rfl | rfl <;> rfl
    have far : ∀ b, b ≠ w0.heap.size → (setBlock w1 w0.heap.size (.mapIter (some Bm) clock (seen.push e.born) clock)).heap[b]? = w.heap[b]? := fun b hb => by
      rw [heap_setBlock_far _ _ _ _ hb, w1s]
    have here : (setBlock w1 w0.heap.size (.mapIter (some Bm) clock (seen.push e.born) clock)).heap[w0.heap.size]? = some (.mapIter (some Bm) clock (seen.push e.born) clock) := heap_setBlock_here _ _ _ (by rw [w1s]; exact hlt)
    have hbm2 : (setBlock w1 w0.heap.size (.mapIter (some Bm) clock (seen.push e.born) clock)).heap[Bm]? = some (.map es clock) := (far Bm (by omega)).trans h.bm.at_
    refine .inr ⟨e, setBlock w1 w0.heap.size (.mapIter (some Bm) clock (seen.push e.born) clock), fun t => by rw [← hk]; exact hrun, ?_, ⟨⟨w1o.trans h.fr.os, w1t.trans h.fr.tape, w1p.trans h.fr.output, ?_, fun b hb hn => (far b (by omega)).trans (h.fr.block b hb hn)⟩, here, ⟨hbm2, h.bm.st, h.bm.good⟩, h.eq, he'.1⟩, he'.2⟩
    · rw [← hk]; exact run_entry_at _ _ Bm clock seen es clock e here hbm2 he'.1 hst.2.1
    · show w0.heap.size < (w1.heap.setIfInBounds _ _).size
      rw [Array.size_setIfInBounds, w1s]; exact hlt

theorem born_inj {l : List MapEntry} (hn : (l.map (·.born)).Nodup) {x y : MapEntry} (hx : x ∈ l) (hy : y ∈ l) (h : x.born = y.born) : x = y := by
  induction l with
  | nil => cases hx
  | cons a r ih =>
    rw [List.map_cons, List.nodup_cons] at hn
    rcases List.mem_cons.1 hx with rfl | hx'
    · rcases List.mem_cons.1 hy with rfl | hy'
      · rfl
      · exact absurd (List.mem_map.2 ⟨y, hy', h.symm⟩) hn.1
    · rcases List.mem_cons.1 hy with rfl | hy'
      · exact absurd (List.mem_map.2 ⟨x, hx', h⟩) hn.1
      · exact ih hn.2 hx' hy'

theorem Half.in0 (h : Half s Bm clock es0 w0 w seen es e) : e ∈ es0.toList := by
  have := h.mem
  rw [h.eq] at this
  exact (List.mem_filter.1 this).1

/-- blocks come and go above: the half step stands -/
theorem Half.keep (h : Half s Bm clock es0 w0 w seen es e) (hBm : Bm < w0.heap.size) (hc : Chg [] w w') : Half s Bm clock es0 w0 w' seen es e := by
  have hs := h.fr.size
  have hs' := hc.size
  exact ⟨⟨hc.os.trans h.fr.os, hc.tape.trans h.fr.tape, hc.output.trans h.fr.output, by omega, fun b hb hn => (hc.block b (by omega) (by simp)).trans (h.fr.block b hb hn)⟩, (hc.block _ hs (by simp)).trans h.it, ⟨(hc.block Bm (by omega) (by simp)).trans h.bm.at_, h.bm.st, h.bm.good⟩, h.eq, h.mem⟩

theorem Half.stay (h : Half s Bm clock es0 w0 w seen es e) (h0 : (es0.toList.map (·.born)).Nodup) (hlt : s < vw e) : Swp s Bm clock es0 w0 w (seen.push e.born) es := by
  refine ⟨h.fr, ⟨clock, Nat.le_refl _, h.it⟩, h.bm, h.eq.trans (List.filter_congr fun x hx => ?_)⟩
  unfold kept
  by_cases hb : x.born = e.born
  · rw [born_inj h0 hx h.in0 hb]; simp [hlt]
  · simp [hb]

theorem Half.drop (h : Half s Bm clock es0 w0 w seen es e) (hBm : Bm < w0.heap.size) (h0 : (es0.toList.map (·.born)).Nodup) (hlt : vw e ≤ s) :
    ∃ w2, (∀ ty, (Builtin.delete_ #[40, 71] ty #[.map (some Bm), .agg (kc (vw e) (pr e)).toArray]).run Yba.prog w = .ok (.tuple #[]) w2) ∧ (∃ es', Swp s Bm clock es0 w0 w2 (seen.push e.born) es') ∧ (∀ b, b ≠ Bm → w2.heap[b]? = w.heap[b]?) := by
  have hk : e.key = .agg (kc (vw e) (pr e)).toArray := (h.bm.good e h.mem).key
  obtain ⟨es', hes, hrun, hbm'⟩ := h.bm.drop h.mem 0
  rw [hk] at hrun
  have far : ∀ b, b ≠ Bm → (setBlock w Bm (.map es' clock)).heap[b]? = w.heap[b]? := fun b hb => heap_setBlock_far _ _ _ _ hb
  refine ⟨setBlock w Bm (.map es' clock), fun ty => hrun, ⟨es', ⟨h.fr.os, h.fr.tape, h.fr.output, ?_, fun b hb hn => (far b hn).trans (h.fr.block b hb hn)⟩, ⟨clock, Nat.le_refl _, (far _ (by omega)).trans h.it⟩, hbm', ?_⟩, far⟩
  · show w0.heap.size < (w.heap.setIfInBounds _ _).size
    rw [Array.size_setIfInBounds]; exact h.fr.size
  · rw [hes, h.eq, List.filter_filter]
    refine List.filter_congr fun x hx => ?_
    unfold kept
    by_cases hb : x.born = e.born
    · have : x = e := born_inj h0 hx h.in0 hb
      subst this
      have : ¬ s < vw x := by omega
      simp [this]
    · simp [hb]

theorem todo_at {r b c c0 : Nat} (h : w.heap[r]? = some (.mapIter (some b) c seen c0)) : todo es0 r w = (es0.toList.filter (fun x => !seen.contains x.born)).length := by
  unfold todo; rw [h]
theorem todo_lt (l : List MapEntry) (hm : e ∈ l) (hn : seen.contains e.born = false) : (l.filter (fun x => !(seen.push e.born).contains x.born)).length < (l.filter (fun x => !seen.contains x.born)).length := by
  induction l with
  | nil => cases hm
  | cons a r ih =>
    have hle : ∀ r : List MapEntry, (r.filter (fun x => !(seen.push e.born).contains x.born)).length ≤ (r.filter (fun x => !seen.contains x.born)).length := fun r => by
      induction r with
      | nil => simp
      | cons b q ihq =>
        rw [List.filter_cons, List.filter_cons]
        by_cases h1 : seen.contains b.born = true
        · have h2 : (seen.push e.born).contains b.born = true := by simp at h1 ⊢; exact .inl h1
          rw [h1, h2]; simpa using ihq
        · have h1' : seen.contains b.born = false := by simpa using h1
          rw [h1']
          split
          · simp; simpa using ihq
          · simp; have := ihq; simp at this; omega
    rw [List.filter_cons, List.filter_cons]
    by_cases hae : a.born = e.born
    · have h1 : seen.contains a.born = false := by rw [hae]; exact hn
      have h2 : (seen.push e.born).contains a.born = true := by simp [hae]
      rw [h1, h2]
      have := hle r
      simp at this ⊢
      omega
    · have hr : e ∈ r := by
        rcases List.mem_cons.1 hm with rfl | h
        · exact absurd rfl hae
        · exact h
      have h2 : (seen.push e.born).contains a.born = seen.contains a.born := by
        by_cases h1 : seen.contains a.born = true
        · rw [h1]; simp at h1 ⊢; exact .inl h1
        · have h1' : seen.contains a.born = false := by simpa using h1
          rw [h1']; simp at h1' ⊢; exact ⟨h1', hae⟩
      rw [h2]
      have := ih hr
      split
      · simp at this ⊢; omega
      · exact this
end
end Go.Proofs.Ybulkmns
