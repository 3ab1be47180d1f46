/-
  No cell of these rows narrows 'for every input' (looked for: loops, veiled, ifaces, maps, wideKeys, modest, calm, conditions, laid).
  DERIVED. THE GIVEN ROWS OF THIS SEAT. 2 by the template 'for every input the law returns true; each argument reads behind the call as it read before'; 0 by the template 'total and deterministic' (their statements: YbulkmogTotals.lean).
  GIVEN WITH THE SEED: the statements are not yours to turn. If you find one false, say at which input.
  Laid BY PROGRAM, IN A SANDBOX (cutbox-rows.mjs): the forced cells as the released guide's own fill.sh prints them over the translation 81d5baff505e122d… (all of the seat's roots in one cut). By AI agents, Wed Nov 11 2026. No macro, syntax, notation, axiom, sorry.
-/
import Derived.Test.YbulkmogChecked
import GoSem.Claim
import GoSem.ClaimJoined
import GoSem.ClaimMapViews
import Derived.JoinedTies
import Derived.KernelRfl
namespace Go.Proofs.Ybulkmog
/- THE CELL 'sum', in the pinned program and in every row, IS THE sha256 OF THE DUMP (.gsa) THAT YbulkmogProg.lean LOADS. Nothing in Lean hashes anything: it is a label: what it is worth is what the hold of that sum in a sandbox is worth. -/
noncomputable def Yba.pinned : Pinned := { name := "ybulkmog", sum := "81d5baff505e122d663750a28738e602e151e992d47ef0baa32c3334940e4db9", checked := Yba.checked }
namespace Rows
def none {H : Type} : Left H := { results := [], args := [] }

/-- 'check.LawS0656AModel': WHATEVER THE INPUT: true; the input reads as it did. -/
def lawS0656AModelSpec : ChangeSpec := { name := "lawS0656AModel", fn := fun _ => fun
  | [d1, d2, d3, d4, d5, d6] => { results := [.lit (.bool true)], args := [d1, d2, d3, d4, d5, d6] }
  | _ => none }
def lawS0656AModelRow : OpenClaim := { program := "ybulkmog", sum := "81d5baff505e122d663750a28738e602e151e992d47ef0baa32c3334940e4db9", func := "example.com/epiphyte/epiphyte/check.LawS0656AModel", spec := "lawS0656AModel", unfollowed := true, recurses := true, apart := false }
def LawS0656AModelSaid : Prop := lawS0656AModelRow.holds Yba.pinned (OpenSpec.ofChange lawS0656AModelSpec)

/-- ITS FALSE NEIGHBOUR: 'it returns false'. Refute it at one input. -/
def lawS0656AModelWrong : ChangeSpec := { name := "lawS0656AModel", fn := fun _ => fun
  | [d1, d2, d3, d4, d5, d6] => { results := [.lit (.bool false)], args := [d1, d2, d3, d4, d5, d6] }
  | _ => none }
def LawS0656AModelWrongFalsely : Prop := lawS0656AModelRow.holds Yba.pinned (OpenSpec.ofChange lawS0656AModelWrong)

/-- 'check.LawS0656AReflexive': WHATEVER THE INPUT: true; the input reads as it did. -/
def lawS0656AReflexiveSpec : ChangeSpec := { name := "lawS0656AReflexive", fn := fun _ => fun
  | [d1, d2, d3] => { results := [.lit (.bool true)], args := [d1, d2, d3] }
  | _ => none }
def lawS0656AReflexiveRow : OpenClaim := { program := "ybulkmog", sum := "81d5baff505e122d663750a28738e602e151e992d47ef0baa32c3334940e4db9", func := "example.com/epiphyte/epiphyte/check.LawS0656AReflexive", spec := "lawS0656AReflexive", unfollowed := true, recurses := true, apart := false }
def LawS0656AReflexiveSaid : Prop := lawS0656AReflexiveRow.holds Yba.pinned (OpenSpec.ofChange lawS0656AReflexiveSpec)

/-- ITS FALSE NEIGHBOUR: 'it returns false'. Refute it at one input. -/
def lawS0656AReflexiveWrong : ChangeSpec := { name := "lawS0656AReflexive", fn := fun _ => fun
  | [d1, d2, d3] => { results := [.lit (.bool false)], args := [d1, d2, d3] }
  | _ => none }
def LawS0656AReflexiveWrongFalsely : Prop := lawS0656AReflexiveRow.holds Yba.pinned (OpenSpec.ofChange lawS0656AReflexiveWrong)

end Rows
end Go.Proofs.Ybulkmog
