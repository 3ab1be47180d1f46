/-
  What count leaves, as the law's loop holds it.
-/
import Derived.Test.YbulkmnsLst
namespace Go.Proofs.Ybulkmns
open Go.RowKit Go.MapKept
set_option linter.unusedSimpArgs false
set_option linter.unusedVariables false

/-- the new QC, as the loop watches it -/
def NewQ (s p : Nat) (l : List Nat) (ext : Value) (L : List (Nat × Obj)) : Prop :=
  ∃ Q V cap cur, ext = .pointer (some ⟨Q, 0, none⟩) ∧ L = [(Q, Obj.cells (qc s p (.slice (some ⟨V, 0, none⟩) l.length cap)).toArray 48 (0, 0)), (V, Obj.cells cur 66 (0, 0))] ∧ l.length ≤ cap ∧ cap ≤ maxLen ∧ cur.size = cap * 65 ∧ cur.toList.take (l.length * 65) = scs l

theorem PP.post {Y : Lay} {lv lp : Nat → Nat} {cnt : Nat → Bool} {view : Nat} {ext : Value} {L : List (Nat × Obj)} {fl fp fc : Nat → Value} {w3 w4 : World} {s p i : Nat} (h : PP Y lv lp cnt view ext L fl fp fc w3) (ok : Y.Ok) (hL : ∀ x ∈ L, ∃ A, x.2 = Obj.cells A 48 (0, 0))
    (hP : Post Y.E Y.w.heap.size lv lp cnt view ext s p i w3 w4) : ∃ (l : List Nat) (cnt' : Nat → Bool) (view' : Nat) (ext' : Value) (L' : List (Nat × Obj)), l.Nodup ∧ (∀ j, j ∈ l ↔ j < Y.nv ∧ upd cnt i true j = true ∧ upd lv i s j = s ∧ upd lp i p j = p) ∧ PP Y (upd lv i s) (upd lp i p) cnt' view' ext' L' fl fp fc w4 ∧
      ((decide (2 * Y.E.T < 3 * tot Y.st l) = false ∧ cnt' = upd cnt i true ∧ view' = view ∧ ext' = ext ∧ L' = L) ∨
       (decide (2 * Y.E.T < 3 * tot Y.st l) = true ∧ cnt' = (fun j => upd cnt i true j && decide (s < upd lv i s j)) ∧ view' = (if view ≤ s then (s + 1) % 2 ^ 64 else view) ∧ NewQ s p l ext' L')) := by
  obtain ⟨hf, l, hnd, hmem, hc⟩ := hP
  rw [ok.est, ok.env] at *
  rcases hc with ⟨hq, ho, hs⟩ | ⟨hq, Q, V, cap, ho, hs, hQ, hV⟩
  · refine ⟨l, _, view, ext, L, hnd, hmem, h.call hf hs ho (fun x hx => ?_), .inl ⟨hq, rfl, rfl, rfl, rfl⟩⟩
    obtain ⟨h1, h2⟩ := h.wat x hx
    obtain ⟨A, hA⟩ := hL x hx
    rw [hA] at h1
    exact ⟨by rw [hA]; exact hf.typ _ _ _ _ h1 (by decide) (by decide) (by decide) (by decide) (by decide), h2⟩
  · obtain ⟨v1, v2, cur, v3, v4, v5⟩ := hV
    refine ⟨l, _, _, _, [(Q, Obj.cells (qc s p (.slice (some ⟨V, 0, none⟩) l.length cap)).toArray 48 (0, 0)), (V, Obj.cells cur 66 (0, 0))], hnd, hmem, h.call hf hs ho (fun x hx => ?_), .inr ⟨hq, rfl, rfl, Q, V, cap, cur, rfl, rfl, v1, v2, v4, v5⟩⟩
    simp at hx
    rcases hx with rfl | rfl
    · exact ⟨hQ, _, _, _, rfl, by decide, by decide, by decide⟩
    · exact ⟨v3, _, _, _, rfl, by decide, by decide, by decide⟩

/-- one step of the law is behind; its checks are to come -/
def Mid (Y : Lay) (v16 v17 v18 v19 v26 v27 : Value) (wx : World) : Prop :=
  ∃ (lv lp : Nat → Nat) (cnt : Nat → Bool) (view : Nat) (hq : Bool) (qv qp : Nat) (ext : Value) (L : List (Nat × Obj)) (fm : Bool) (c : Nat), v16 = .int .u64 view ∧ v17 = .bool hq ∧ v18 = .int .u64 qv ∧ v19 = .int .u8 qp ∧ v26 = .bool fm ∧ v27 = .int .i64 c ∧
    PP Y lv lp cnt view ext L (fun j => .int .u64 (lv j)) (fun j => .int .u8 (lp j)) (fun j => .bool (cnt j)) wx ∧ QOk ext L hq qv qp ∧ FOk ext L Y.nv lv lp fm c qv qp ∧ (fm = true → hq = true)

/-- what the law sums over -/
def fits (lv lp : Nat → Nat) (cnt : Nat → Bool) (s p j : Nat) : Bool := cnt j && (lv j == s) && (lp j == p)
theorem fits_iff (lv lp : Nat → Nat) (cnt : Nat → Bool) (s p j : Nat) : fits lv lp cnt s p j = true ↔ cnt j = true ∧ lv j = s ∧ lp j = p := by
  unfold fits
  simp [and_assoc]

theorem NewQ.mid {Y : Lay} {lv lp : Nat → Nat} {cnt cnt' : Nat → Bool} {view : Nat} {s p : Nat} {ext : Value} {L : List (Nat × Obj)} {l : List Nat} {wx : World} (hN : NewQ s p l ext L) (hmem : ∀ j, j ∈ l ↔ j < Y.nv ∧ cnt' j = true ∧ lv j = s ∧ lp j = p)
    (h : PP Y lv lp cnt view ext L (fun j => .int .u64 (lv j)) (fun j => .int .u8 (lp j)) (fun j => .bool (cnt j)) wx) : Mid Y (.int .u64 view) (.bool true) (.int .u64 s) (.int .u8 p) (.bool true) (.int .i64 (l.length : Nat)) wx := by
  obtain ⟨Q, V, cap, cur, e1, e2, e3, e4, e5, e6⟩ := hN
  subst e2
  exact ⟨lv, lp, cnt, view, true, s, p, ext, _, true, l.length, rfl, rfl, rfl, rfl, rfl, rfl, h, .inr ⟨rfl, Q, .slice (some ⟨V, 0, none⟩) l.length cap, e1, by simp⟩, fun _ => ⟨Q, V, cap, cur, l, e1, by simp, by simp, e3, e4, e5, e6, rfl, fun j hj => ⟨((hmem j).1 hj).1, ((hmem j).1 hj).2.2.1, ((hmem j).1 hj).2.2.2⟩⟩, fun _ => rfl⟩
end Go.Proofs.Ybulkmns
