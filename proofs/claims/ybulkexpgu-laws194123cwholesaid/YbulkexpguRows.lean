/-
  No cell of these rows narrows 'for every input' (looked for: loops, veiled, ifaces, maps, wideKeys, modest, calm, conditions, laid).
  DERIVED. THE GIVEN ROWS OF THIS SEAT. 2 by the template 'for every input the law returns true; each argument reads behind the call as it read before'; 0 by the template 'total and deterministic' (their statements: YbulkexpguTotals.lean).
  GIVEN WITH THE SEED: the statements are not yours to turn. If you find one false, say at which input.
  Laid BY PROGRAM, IN A SANDBOX (cutbox-rows.mjs): the forced cells as the released guide's own fill.sh prints them over the translation 0fb3cad70175e33d… (all of the seat's roots in one cut). By AI agents, Wed Nov 11 2026. No macro, syntax, notation, axiom, sorry.
-/
import Derived.Test.YbulkexpguChecked
import GoSem.Claim
import GoSem.ClaimJoined
import GoSem.ClaimMapViews
import Derived.JoinedTies
import Derived.KernelRfl
namespace Go.Proofs.Ybulkexpgu
/- THE CELL 'sum', in the pinned program and in every row, IS THE sha256 OF THE DUMP (.gsa) THAT YbulkexpguProg.lean LOADS. Nothing in Lean hashes anything: it is a label: what it is worth is what the hold of that sum in a sandbox is worth. -/
noncomputable def Yba.pinned : Pinned := { name := "ybulkexpgu", sum := "0fb3cad70175e33d4871f0c32cc771e24589b28921b487ce0d88ae4d14b1f468", checked := Yba.checked }
namespace Rows
def none {H : Type} : Left H := { results := [], args := [] }

/-- 'candidate.LawS194123BWhole': WHATEVER THE INPUT: true; the input reads as it did. -/
def lawS194123BWholeSpec : ChangeSpec := { name := "lawS194123BWhole", fn := fun _ => fun
  | [d] => { results := [.lit (.bool true)], args := [d] }
  | _ => none }
def lawS194123BWholeRow : OpenClaim := { program := "ybulkexpgu", sum := "0fb3cad70175e33d4871f0c32cc771e24589b28921b487ce0d88ae4d14b1f468", func := "example.com/indexwright/indexwright/internal/candidate.LawS194123BWhole", spec := "lawS194123BWhole", inPlace := ["internal/abi.NoEscape"], unfollowed := true, recurses := true, apart := false }
def LawS194123BWholeSaid : Prop := lawS194123BWholeRow.holds Yba.pinned (OpenSpec.ofChange lawS194123BWholeSpec)

/-- ITS FALSE NEIGHBOUR: 'it returns false'. Refute it at one input. -/
def lawS194123BWholeWrong : ChangeSpec := { name := "lawS194123BWhole", fn := fun _ => fun
  | [d] => { results := [.lit (.bool false)], args := [d] }
  | _ => none }
def LawS194123BWholeWrongFalsely : Prop := lawS194123BWholeRow.holds Yba.pinned (OpenSpec.ofChange lawS194123BWholeWrong)

/-- 'sqlparse.LawS194123CWhole': WHATEVER THE INPUT: true; the input reads as it did. -/
def lawS194123CWholeSpec : ChangeSpec := { name := "lawS194123CWhole", fn := fun _ => fun
  | [d1, d2, d3] => { results := [.lit (.bool true)], args := [d1, d2, d3] }
  | _ => none }
def lawS194123CWholeRow : OpenClaim := { program := "ybulkexpgu", sum := "0fb3cad70175e33d4871f0c32cc771e24589b28921b487ce0d88ae4d14b1f468", func := "example.com/indexwright/indexwright/internal/sqlparse.LawS194123CWhole", spec := "lawS194123CWhole", unfollowed := true, recurses := true, apart := false }
def LawS194123CWholeSaid : Prop := lawS194123CWholeRow.holds Yba.pinned (OpenSpec.ofChange lawS194123CWholeSpec)

/-- ITS FALSE NEIGHBOUR: 'it returns false'. Refute it at one input. -/
def lawS194123CWholeWrong : ChangeSpec := { name := "lawS194123CWhole", fn := fun _ => fun
  | [d1, d2, d3] => { results := [.lit (.bool false)], args := [d1, d2, d3] }
  | _ => none }
def LawS194123CWholeWrongFalsely : Prop := lawS194123CWholeRow.holds Yba.pinned (OpenSpec.ofChange lawS194123CWholeWrong)

end Rows
end Go.Proofs.Ybulkexpgu
