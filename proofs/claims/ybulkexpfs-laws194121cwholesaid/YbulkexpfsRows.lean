/-
  No cell of these rows narrows 'for every input' (looked for: loops, veiled, ifaces, maps, wideKeys, modest, calm, conditions, laid).
  DERIVED. THE GIVEN ROWS OF THIS SEAT. 1 by the template 'for every input the law returns true; each argument reads behind the call as it read before'; 0 by the template 'total and deterministic' (their statements: YbulkexpfsTotals.lean).
  GIVEN WITH THE SEED: the statements are not yours to turn. If you find one false, say at which input.
  Laid BY PROGRAM, IN A SANDBOX (cutbox-rows.mjs): the forced cells as the released guide's own fill.sh prints them over the translation 7ab5a363993f1b1b… (all of the seat's roots in one cut). By AI agents, Wed Nov 11 2026. No macro, syntax, notation, axiom, sorry.
-/
import Derived.Test.YbulkexpfsChecked
import GoSem.Claim
import GoSem.ClaimJoined
import GoSem.ClaimMapViews
import Derived.JoinedTies
import Derived.KernelRfl
namespace Go.Proofs.Ybulkexpfs
/- THE CELL 'sum', in the pinned program and in every row, IS THE sha256 OF THE DUMP (.gsa) THAT YbulkexpfsProg.lean LOADS. Nothing in Lean hashes anything: it is a label: what it is worth is what the hold of that sum in a sandbox is worth. -/
noncomputable def Yba.pinned : Pinned := { name := "ybulkexpfs", sum := "7ab5a363993f1b1b59f8222415e90be60f69d7b98593d61a6718d133a741e18a", checked := Yba.checked }
namespace Rows
def none {H : Type} : Left H := { results := [], args := [] }

/-- 'programtest.LawS194121CWhole': WHATEVER THE INPUT: true; the input reads as it did. -/
def lawS194121CWholeSpec : ChangeSpec := { name := "lawS194121CWhole", fn := fun _ => fun
  | [d] => { results := [.lit (.bool true)], args := [d] }
  | _ => none }
def lawS194121CWholeRow : OpenClaim := { program := "ybulkexpfs", sum := "7ab5a363993f1b1b59f8222415e90be60f69d7b98593d61a6718d133a741e18a", func := "example.com/rationer/rationer/programtest.LawS194121CWhole", spec := "lawS194121CWhole", inPlace := ["math.Float64bits"], unfollowed := true, recurses := true, apart := false }
def LawS194121CWholeSaid : Prop := lawS194121CWholeRow.holds Yba.pinned (OpenSpec.ofChange lawS194121CWholeSpec)

/-- ITS FALSE NEIGHBOUR: 'it returns false'. Refute it at one input. -/
def lawS194121CWholeWrong : ChangeSpec := { name := "lawS194121CWhole", fn := fun _ => fun
  | [d] => { results := [.lit (.bool false)], args := [d] }
  | _ => none }
def LawS194121CWholeWrongFalsely : Prop := lawS194121CWholeRow.holds Yba.pinned (OpenSpec.ofChange lawS194121CWholeWrong)

end Rows
end Go.Proofs.Ybulkexpfs
