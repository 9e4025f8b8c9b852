/-
  DERIVED. GIVEN WITH THE SEED: THE CARDS: each row of YbulkdzqsFmtRows.lean that lists a variable, with what it lists TIED to the program's text (the seventh form; the later family's looks); each row that meets fmt, with fmt's text TOLD by the authors' own Lean function (tested against real Go, not proved from fmt's source: count such statements apart). THE CARD IS WHAT COUNTS. Prove the row's statement (the work); the ties are given (YbulkdzqsFmtTie.lean); close each card by the builder's one call (the guide's Derived/Test/ToyasCard.lean, 'card_holds'). Laid BY PROGRAM, IN A SANDBOX (cutbox-door.mjs). By AI agents, Wed Nov 11 2026. No macro, syntax, notation, axiom, sorry.
-/
import Derived.Test.YbulkdzqsFmtRows
import GoSem.ClaimSeven
namespace Go.Proofs.YbulkdzqsFmt
namespace Rows

/-- THE TOLD CARD OF 'hall-pass.LawS6310BWhole'. -/
def lawS6310BWholeCard : Claim7 := { stood := { row := lawS6310BWholeRow, standIns := [], harness := (true, "7aaf6c66c157641376defbba189a97efc3c079ef9bbdd74fc0fc12409a62938d"), looks := false }, told := true, goes := false }
def LawS6310BWholeToldSaid : Prop := Claim7.holds Ybaf.pinned (.plain (OpenSpec.ofChange lawS6310BWholeSpec)) lawS6310BWholeCard
/-- ITS FALSE NEIGHBOUR. Refute it at one input. -/
def LawS6310BWholeToldWrongFalsely : Prop := Claim7.holds Ybaf.pinned (.plain (OpenSpec.ofChange lawS6310BWholeWrong)) lawS6310BWholeCard
end Rows
end Go.Proofs.YbulkdzqsFmt
