/-
  No cell of these rows narrows 'for every input' (looked for: loops, veiled, ifaces, maps, wideKeys, modest, calm, conditions, laid).
  DERIVED. THE GIVEN ROWS OF THIS SEAT. 1 by the template 'for every input the law returns true; each argument reads behind the call as it read before'; 0 by the template 'total and deterministic' (their statements: YbulkexnkwTotals.lean).
  GIVEN WITH THE SEED: the statements are not yours to turn. If you find one false, say at which input.
  Laid BY PROGRAM, IN A SANDBOX (cutbox-rows.mjs): the forced cells as the released guide's own fill.sh prints them over the translation 7af95d3315a54e1f… (all of the seat's roots in one cut). By AI agents, Wed Nov 11 2026. No macro, syntax, notation, axiom, sorry.
-/
import Derived.Test.YbulkexnkwChecked
import GoSem.Claim
import GoSem.ClaimJoined
import GoSem.ClaimMapViews
import Derived.JoinedTies
import Derived.KernelRfl
namespace Go.Proofs.Ybulkexnkw
/- THE CELL 'sum', in the pinned program and in every row, IS THE sha256 OF THE DUMP (.gsa) THAT YbulkexnkwProg.lean LOADS. Nothing in Lean hashes anything: it is a label: what it is worth is what the hold of that sum in a sandbox is worth. -/
noncomputable def Yba.pinned : Pinned := { name := "ybulkexnkw", sum := "7af95d3315a54e1f9269a0fc5288fb212e6661fbc2019b22c1154e7c7031ff2e", checked := Yba.checked }
namespace Rows
def none {H : Type} : Left H := { results := [], args := [] }

/-- 'policy.LawS194034BWhole': WHATEVER THE INPUT: true; the input reads as it did. -/
def lawS194034BWholeSpec : ChangeSpec := { name := "lawS194034BWhole", fn := fun _ => fun
  | [d1, d2, d3, d4, d5, d6, d7, d8, d9, d10] => { results := [.lit (.bool true)], args := [d1, d2, d3, d4, d5, d6, d7, d8, d9, d10] }
  | _ => none }
def lawS194034BWholeRow : OpenClaim := { program := "ybulkexnkw", sum := "7af95d3315a54e1f9269a0fc5288fb212e6661fbc2019b22c1154e7c7031ff2e", func := "example.com/tessera/tessera/pkg/policy.LawS194034BWhole", spec := "lawS194034BWhole", unfollowed := true, recurses := true, apart := false }
def LawS194034BWholeSaid : Prop := lawS194034BWholeRow.holds Yba.pinned (OpenSpec.ofChange lawS194034BWholeSpec)

/-- ITS FALSE NEIGHBOUR: 'it returns false'. Refute it at one input. -/
def lawS194034BWholeWrong : ChangeSpec := { name := "lawS194034BWhole", fn := fun _ => fun
  | [d1, d2, d3, d4, d5, d6, d7, d8, d9, d10] => { results := [.lit (.bool false)], args := [d1, d2, d3, d4, d5, d6, d7, d8, d9, d10] }
  | _ => none }
def LawS194034BWholeWrongFalsely : Prop := lawS194034BWholeRow.holds Yba.pinned (OpenSpec.ofChange lawS194034BWholeWrong)

end Rows
end Go.Proofs.Ybulkexnkw
