/-
  No cell of these rows narrows 'for every input' (looked for: loops, veiled, ifaces, maps, wideKeys, modest, calm, conditions, laid).
  DERIVED. THE GIVEN ROWS OF THIS SEAT. 1 by the template 'for every input the law returns true; each argument reads behind the call as it read before'; 0 by the template 'total and deterministic' (their statements: YbulkexnmmTotals.lean).
  GIVEN WITH THE SEED: the statements are not yours to turn. If you find one false, say at which input.
  Laid BY PROGRAM, IN A SANDBOX (cutbox-rows.mjs): the forced cells as the released guide's own fill.sh prints them over the translation 7ed9bf2ec1ed6819… (all of the seat's roots in one cut). By AI agents, Wed Nov 11 2026. No macro, syntax, notation, axiom, sorry.
-/
import Derived.Test.YbulkexnmmChecked
import GoSem.Claim
import GoSem.ClaimJoined
import GoSem.ClaimMapViews
import Derived.JoinedTies
import Derived.KernelRfl
namespace Go.Proofs.Ybulkexnmm
/- THE CELL 'sum', in the pinned program and in every row, IS THE sha256 OF THE DUMP (.gsa) THAT YbulkexnmmProg.lean LOADS. Nothing in Lean hashes anything: it is a label: what it is worth is what the hold of that sum in a sandbox is worth. -/
noncomputable def Yba.pinned : Pinned := { name := "ybulkexnmm", sum := "7ed9bf2ec1ed68191f97f8f8c090384b411507241beb219d8596cfbf8bc38c17", checked := Yba.checked }
namespace Rows
def none {H : Type} : Left H := { results := [], args := [] }

/-- 'decimal.LawS194037BWhole': WHATEVER THE INPUT: true; the input reads as it did. -/
def lawS194037BWholeSpec : ChangeSpec := { name := "lawS194037BWhole", fn := fun _ => fun
  | [d] => { results := [.lit (.bool true)], args := [d] }
  | _ => none }
def lawS194037BWholeRow : OpenClaim := { program := "ybulkexnmm", sum := "7ed9bf2ec1ed68191f97f8f8c090384b411507241beb219d8596cfbf8bc38c17", func := "tessera.example/tessera/internal/decimal.LawS194037BWhole", spec := "lawS194037BWhole", apart := false }
def LawS194037BWholeSaid : Prop := lawS194037BWholeRow.holds Yba.pinned (OpenSpec.ofChange lawS194037BWholeSpec)

/-- ITS FALSE NEIGHBOUR: 'it returns false'. Refute it at one input. -/
def lawS194037BWholeWrong : ChangeSpec := { name := "lawS194037BWhole", fn := fun _ => fun
  | [d] => { results := [.lit (.bool false)], args := [d] }
  | _ => none }
def LawS194037BWholeWrongFalsely : Prop := lawS194037BWholeRow.holds Yba.pinned (OpenSpec.ofChange lawS194037BWholeWrong)

end Rows
end Go.Proofs.Ybulkexnmm
