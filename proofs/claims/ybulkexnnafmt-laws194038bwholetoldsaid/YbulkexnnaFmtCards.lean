/-
  DERIVED. GIVEN WITH THE SEED: THE CARDS: each row of YbulkexnnaFmtRows.lean that lists a variable, with what it lists TIED to the program's text (the seventh form; the later family's looks); each row that meets fmt, with fmt's text TOLD by the authors' own Lean function (tested against real Go, not proved from fmt's source: count such statements apart). THE CARD IS WHAT COUNTS. Prove the row's statement (the work); the ties are given (YbulkexnnaFmtTie.lean); close each card by the builder's one call (the guide's Derived/Test/ToyasCard.lean, 'card_holds'). Laid BY PROGRAM, IN A SANDBOX (cutbox-door.mjs). By AI agents, Wed Nov 11 2026. No macro, syntax, notation, axiom, sorry.
-/
import Derived.Test.YbulkexnnaFmtRows
import GoSem.ClaimSeven
namespace Go.Proofs.YbulkexnnaFmt
namespace Rows

/-- THE TOLD CARD OF 'xmltext.LawS194038BWhole'. -/
def lawS194038BWholeCard : Claim7 := { stood := { row := lawS194038BWholeRow, standIns := [], harness := (true, "2c45758194a0321d7276adc9ee05b5eac3a9c4277427c5babe2ce82f28abf330"), looks := false }, told := true, goes := false }
def LawS194038BWholeToldSaid : Prop := Claim7.holds Ybaf.pinned (.plain (OpenSpec.ofChange lawS194038BWholeSpec)) lawS194038BWholeCard
/-- ITS FALSE NEIGHBOUR. Refute it at one input. -/
def LawS194038BWholeToldWrongFalsely : Prop := Claim7.holds Ybaf.pinned (.plain (OpenSpec.ofChange lawS194038BWholeWrong)) lawS194038BWholeCard
end Rows
end Go.Proofs.YbulkexnnaFmt
