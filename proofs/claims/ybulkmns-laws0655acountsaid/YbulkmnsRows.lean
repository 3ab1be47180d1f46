/-
  No cell of these rows narrows 'for every input' (looked for: loops, veiled, ifaces, maps, wideKeys, modest, calm, conditions, laid).
  DERIVED. THE GIVEN ROWS OF THIS SEAT. 1 by the template 'for every input the law returns true; each argument reads behind the call as it read before'; 0 by the template 'total and deterministic' (their statements: YbulkmnsTotals.lean).
  GIVEN WITH THE SEED: the statements are not yours to turn. If you find one false, say at which input.
  Laid BY PROGRAM, IN A SANDBOX (cutbox-rows.mjs): the forced cells as the released guide's own fill.sh prints them over the translation 8b746674cab8d81c… (all of the seat's roots in one cut). By AI agents, Wed Nov 11 2026. No macro, syntax, notation, axiom, sorry.
-/
import Derived.Test.YbulkmnsChecked
import GoSem.Claim
import GoSem.ClaimJoined
import GoSem.ClaimMapViews
import Derived.JoinedTies
import Derived.KernelRfl
namespace Go.Proofs.Ybulkmns
/- THE CELL 'sum', in the pinned program and in every row, IS THE sha256 OF THE DUMP (.gsa) THAT YbulkmnsProg.lean LOADS. Nothing in Lean hashes anything: it is a label: what it is worth is what the hold of that sum in a sandbox is worth. -/
noncomputable def Yba.pinned : Pinned := { name := "ybulkmns", sum := "8b746674cab8d81cf46a77a85cd5e33d45e973df58d8f2931c97e8b4c5c7f12d", checked := Yba.checked }
namespace Rows
def none {H : Type} : Left H := { results := [], args := [] }

/-- 'protocol.LawS0655ACount': WHATEVER THE INPUT: true; the input reads as it did. -/
def lawS0655ACountSpec : ChangeSpec := { name := "lawS0655ACount", fn := fun _ => fun
  | [d1, d2, d3] => { results := [.lit (.bool true)], args := [d1, d2, d3] }
  | _ => none }
def lawS0655ACountRow : OpenClaim := { program := "ybulkmns", sum := "8b746674cab8d81cf46a77a85cd5e33d45e973df58d8f2931c97e8b4c5c7f12d", func := "example.com/skein/skein/pkg/protocol.LawS0655ACount", spec := "lawS0655ACount", plainKeys := false, apart := false }
def LawS0655ACountSaid : Prop := lawS0655ACountRow.holds Yba.pinned (OpenSpec.ofChange lawS0655ACountSpec)

/-- ITS FALSE NEIGHBOUR: 'it returns false'. Refute it at one input. -/
def lawS0655ACountWrong : ChangeSpec := { name := "lawS0655ACount", fn := fun _ => fun
  | [d1, d2, d3] => { results := [.lit (.bool false)], args := [d1, d2, d3] }
  | _ => none }
def LawS0655ACountWrongFalsely : Prop := lawS0655ACountRow.holds Yba.pinned (OpenSpec.ofChange lawS0655ACountWrong)

end Rows
end Go.Proofs.Ybulkmns
