/-
  No cell of these rows narrows 'for every input' (looked for: loops, veiled, ifaces, maps, wideKeys, modest, calm, conditions, laid).
  DERIVED. THE GIVEN ROWS OF THIS SEAT. 2 by the template 'for every input the law returns true; each argument reads behind the call as it read before'; 0 by the template 'total and deterministic' (their statements: YbulkmpiTotals.lean).
  GIVEN WITH THE SEED: the statements are not yours to turn. If you find one false, say at which input.
  Laid BY PROGRAM, IN A SANDBOX (cutbox-rows.mjs): the forced cells as the released guide's own fill.sh prints them over the translation 119f138c0c686c62… (all of the seat's roots in one cut). By AI agents, Wed Nov 11 2026. No macro, syntax, notation, axiom, sorry.
-/
import Derived.Test.YbulkmpiChecked
import GoSem.Claim
import GoSem.ClaimJoined
import GoSem.ClaimMapViews
import Derived.JoinedTies
import Derived.KernelRfl
namespace Go.Proofs.Ybulkmpi
/- THE CELL 'sum', in the pinned program and in every row, IS THE sha256 OF THE DUMP (.gsa) THAT YbulkmpiProg.lean LOADS. Nothing in Lean hashes anything: it is a label: what it is worth is what the hold of that sum in a sandbox is worth. -/
noncomputable def Yba.pinned : Pinned := { name := "ybulkmpi", sum := "119f138c0c686c62047c7a8bf339c5e148c2d70a2ff314a2feb53cf425fe6ecd", checked := Yba.checked }
namespace Rows
def none {H : Type} : Left H := { results := [], args := [] }

/-- 'store.LawS0658ADrains': WHATEVER THE INPUT: true; the input reads as it did. -/
def lawS0658ADrainsSpec : ChangeSpec := { name := "lawS0658ADrains", fn := fun _ => fun
  | [d] => { results := [.lit (.bool true)], args := [d] }
  | _ => none }
def lawS0658ADrainsRow : OpenClaim := { program := "ybulkmpi", sum := "119f138c0c686c62047c7a8bf339c5e148c2d70a2ff314a2feb53cf425fe6ecd", func := "example.com/ballotry/ballotry/store.LawS0658ADrains", spec := "lawS0658ADrains", unfollowed := true, recurses := true, apart := false }
def LawS0658ADrainsSaid : Prop := lawS0658ADrainsRow.holds Yba.pinned (OpenSpec.ofChange lawS0658ADrainsSpec)

/-- ITS FALSE NEIGHBOUR: 'it returns false'. Refute it at one input. -/
def lawS0658ADrainsWrong : ChangeSpec := { name := "lawS0658ADrains", fn := fun _ => fun
  | [d] => { results := [.lit (.bool false)], args := [d] }
  | _ => none }
def LawS0658ADrainsWrongFalsely : Prop := lawS0658ADrainsRow.holds Yba.pinned (OpenSpec.ofChange lawS0658ADrainsWrong)

/-- 'store.LawS0658AIndependent': WHATEVER THE INPUT: true; the input reads as it did. -/
def lawS0658AIndependentSpec : ChangeSpec := { name := "lawS0658AIndependent", fn := fun _ => fun
  | [d] => { results := [.lit (.bool true)], args := [d] }
  | _ => none }
def lawS0658AIndependentRow : OpenClaim := { program := "ybulkmpi", sum := "119f138c0c686c62047c7a8bf339c5e148c2d70a2ff314a2feb53cf425fe6ecd", func := "example.com/ballotry/ballotry/store.LawS0658AIndependent", spec := "lawS0658AIndependent", unfollowed := true, recurses := true, apart := false }
def LawS0658AIndependentSaid : Prop := lawS0658AIndependentRow.holds Yba.pinned (OpenSpec.ofChange lawS0658AIndependentSpec)

/-- ITS FALSE NEIGHBOUR: 'it returns false'. Refute it at one input. -/
def lawS0658AIndependentWrong : ChangeSpec := { name := "lawS0658AIndependent", fn := fun _ => fun
  | [d] => { results := [.lit (.bool false)], args := [d] }
  | _ => none }
def LawS0658AIndependentWrongFalsely : Prop := lawS0658AIndependentRow.holds Yba.pinned (OpenSpec.ofChange lawS0658AIndependentWrong)

end Rows
end Go.Proofs.Ybulkmpi
