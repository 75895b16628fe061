/-
  No cell of these rows narrows 'for every input' (looked for: loops, veiled, ifaces, maps, wideKeys, modest, calm, conditions, laid).
  DERIVED. THE GIVEN ROWS OF THIS SEAT. 1 by the template 'for every input the law returns true; each argument reads behind the call as it read before'; 0 by the template 'total and deterministic' (their statements: YbulkexnnaFmtTotals.lean).
  GIVEN WITH THE SEED: the statements are not yours to turn. If you find one false, say at which input.
  Laid BY PROGRAM, IN A SANDBOX (cutbox-rows.mjs): the forced cells as the released guide's own fill.sh prints them over the translation c04e291d9265f7f2… (all of the seat's roots in one cut). By AI agents, Wed Nov 11 2026. No macro, syntax, notation, axiom, sorry.
-/
import Derived.Test.YbulkexnnaFmtChecked
import GoSem.Claim
import GoSem.ClaimJoined
import GoSem.ClaimMapViews
import Derived.JoinedTies
import Derived.KernelRfl
namespace Go.Proofs.YbulkexnnaFmt
/- THE CELL 'sum', in the pinned program and in every row, IS THE sha256 OF THE DUMP (.gsa) THAT YbulkexnnaFmtProg.lean LOADS. Nothing in Lean hashes anything: it is a label: what it is worth is what the hold of that sum in a sandbox is worth. -/
noncomputable def Ybaf.pinned : Pinned := { name := "ybulkexnnafmt", sum := "c04e291d9265f7f215493f650f0300e209dd969c830fa644fc2045041da43cc2", checked := Ybaf.checked }
namespace Rows
def none {H : Type} : Left H := { results := [], args := [] }

/-- 'xmltext.LawS194038BWhole': WHATEVER THE INPUT: true; the input reads as it did. -/
def lawS194038BWholeSpec : ChangeSpec := { name := "lawS194038BWhole", fn := fun _ => fun
  | [d1, d2, d3, d4] => { results := [.lit (.bool true)], args := [d1, d2, d3, d4] }
  | _ => none }
def lawS194038BWholeRow : OpenClaim := { program := "ybulkexnnafmt", sum := "c04e291d9265f7f215493f650f0300e209dd969c830fa644fc2045041da43cc2", func := "example.com/strict-schema/strict-schema/xmltext.LawS194038BWhole", spec := "lawS194038BWhole", stops := ["fmt.Sprintf"], inPlace := ["fmt.Sprintf"], apart := false }
/-- NO THEOREM (fmt's text is open here; it may be false): for the released tool's asking of the row's closed facts alone. THE STATEMENT IS 'LawS194038BWholeToldSaid' (YbulkexnnaFmtCards.lean). -/
def LawS194038BWholeFormAsk : Prop := lawS194038BWholeRow.holds Ybaf.pinned (OpenSpec.ofChange lawS194038BWholeSpec)

/-- ITS FALSE NEIGHBOUR: 'it returns false'. Refute it at one input. -/
def lawS194038BWholeWrong : ChangeSpec := { name := "lawS194038BWhole", fn := fun _ => fun
  | [d1, d2, d3, d4] => { results := [.lit (.bool false)], args := [d1, d2, d3, d4] }
  | _ => none }
def LawS194038BWholeWrongFormAsk : Prop := lawS194038BWholeRow.holds Ybaf.pinned (OpenSpec.ofChange lawS194038BWholeWrong)

end Rows
end Go.Proofs.YbulkexnnaFmt
