/-
  No cell of these rows narrows 'for every input' (looked for: loops, veiled, ifaces, maps, wideKeys, modest, calm, conditions, laid).
  DERIVED. THE GIVEN ROWS OF THIS SEAT. 1 by the template 'for every input the law returns true; each argument reads behind the call as it read before'; 0 by the template 'total and deterministic' (their statements: YbulkexpikTotals.lean).
  GIVEN WITH THE SEED: the statements are not yours to turn. If you find one false, say at which input.
  Laid BY PROGRAM, IN A SANDBOX (cutbox-rows.mjs): the forced cells as the released guide's own fill.sh prints them over the translation 1724b7f86e391efc… (all of the seat's roots in one cut). By AI agents, Wed Nov 11 2026. No macro, syntax, notation, axiom, sorry.
-/
import Derived.Test.YbulkexpikChecked
import GoSem.Claim
import GoSem.ClaimJoined
import GoSem.ClaimMapViews
import Derived.JoinedTies
import Derived.KernelRfl
namespace Go.Proofs.Ybulkexpik
/- THE CELL 'sum', in the pinned program and in every row, IS THE sha256 OF THE DUMP (.gsa) THAT YbulkexpikProg.lean LOADS. Nothing in Lean hashes anything: it is a label: what it is worth is what the hold of that sum in a sandbox is worth. -/
noncomputable def Yba.pinned : Pinned := { name := "ybulkexpik", sum := "1724b7f86e391efc67f8d18b2848815691934151f009ab7c44a6a90103d20a6f", checked := Yba.checked }
namespace Rows
def none {H : Type} : Left H := { results := [], args := [] }

/-- 'format.LawS194126BWhole': WHATEVER THE INPUT: true; the input reads as it did. -/
def lawS194126BWholeSpec : ChangeSpec := { name := "lawS194126BWhole", fn := fun _ => fun
  | [d1, d2, d3, d4, d5, d6, d7, d8] => { results := [.lit (.bool true)], args := [d1, d2, d3, d4, d5, d6, d7, d8] }
  | _ => none }
def lawS194126BWholeRow : OpenClaim := { program := "ybulkexpik", sum := "1724b7f86e391efc67f8d18b2848815691934151f009ab7c44a6a90103d20a6f", func := "example.com/lineweave/lineweave/format.LawS194126BWhole", spec := "lawS194126BWhole", unfollowed := true, recurses := true, plainKeys := false, apart := false }
def LawS194126BWholeSaid : Prop := lawS194126BWholeRow.holds Yba.pinned (OpenSpec.ofChange lawS194126BWholeSpec)

/-- ITS FALSE NEIGHBOUR: 'it returns false'. Refute it at one input. -/
def lawS194126BWholeWrong : ChangeSpec := { name := "lawS194126BWhole", fn := fun _ => fun
  | [d1, d2, d3, d4, d5, d6, d7, d8] => { results := [.lit (.bool false)], args := [d1, d2, d3, d4, d5, d6, d7, d8] }
  | _ => none }
def LawS194126BWholeWrongFalsely : Prop := lawS194126BWholeRow.holds Yba.pinned (OpenSpec.ofChange lawS194126BWholeWrong)

end Rows
end Go.Proofs.Ybulkexpik
