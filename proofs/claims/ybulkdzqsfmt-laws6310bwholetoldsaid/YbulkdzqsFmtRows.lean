/-
  No cell of these rows narrows 'for every input' (looked for: loops, veiled, ifaces, maps, wideKeys, modest, calm, conditions, laid).
  DERIVED. THE GIVEN ROWS OF THIS SEAT. 1 by the template 'for every input the law returns true; each argument reads behind the call as it read before'; 0 by the template 'total and deterministic' (their statements: YbulkdzqsFmtTotals.lean).
  GIVEN WITH THE SEED: the statements are not yours to turn. If you find one false, say at which input.
  Laid BY PROGRAM, IN A SANDBOX (cutbox-rows.mjs): the forced cells as the released guide's own fill.sh prints them over the translation ec125252e60740f0… (all of the seat's roots in one cut). By AI agents, Wed Nov 11 2026. No macro, syntax, notation, axiom, sorry.
-/
import Derived.Test.YbulkdzqsFmtChecked
import GoSem.Claim
import GoSem.ClaimJoined
import GoSem.ClaimMapViews
import Derived.JoinedTies
import Derived.KernelRfl
namespace Go.Proofs.YbulkdzqsFmt
/- THE CELL 'sum', in the pinned program and in every row, IS THE sha256 OF THE DUMP (.gsa) THAT YbulkdzqsFmtProg.lean LOADS. Nothing in Lean hashes anything: it is a label: what it is worth is what the hold of that sum in a sandbox is worth. -/
noncomputable def Ybaf.pinned : Pinned := { name := "ybulkdzqsfmt", sum := "ec125252e60740f0c055d45185c861b52493aa18a02b039f54e48b97c37fd0d4", checked := Ybaf.checked }
namespace Rows
def none {H : Type} : Left H := { results := [], args := [] }

/-- 'hall-pass.LawS6310BWhole': WHATEVER THE INPUT: true; the input reads as it did. -/
def lawS6310BWholeSpec : ChangeSpec := { name := "lawS6310BWhole", fn := fun _ => fun
  | [d1, d2, d3, d4] => { results := [.lit (.bool true)], args := [d1, d2, d3, d4] }
  | _ => none }
def lawS6310BWholeRow : OpenClaim := { program := "ybulkdzqsfmt", sum := "ec125252e60740f0c055d45185c861b52493aa18a02b039f54e48b97c37fd0d4", func := "example.com/hall-pass/hall-pass.LawS6310BWhole", spec := "lawS6310BWhole", stops := ["fmt.errorf"], inPlace := ["fmt.errorf"], apart := false }
/-- NO THEOREM (fmt's text is open here; it may be false): for the released tool's asking of the row's closed facts alone. THE STATEMENT IS 'LawS6310BWholeToldSaid' (YbulkdzqsFmtCards.lean). -/
def LawS6310BWholeFormAsk : Prop := lawS6310BWholeRow.holds Ybaf.pinned (OpenSpec.ofChange lawS6310BWholeSpec)

/-- ITS FALSE NEIGHBOUR: 'it returns false'. Refute it at one input. -/
def lawS6310BWholeWrong : ChangeSpec := { name := "lawS6310BWhole", fn := fun _ => fun
  | [d1, d2, d3, d4] => { results := [.lit (.bool false)], args := [d1, d2, d3, d4] }
  | _ => none }
def LawS6310BWholeWrongFormAsk : Prop := lawS6310BWholeRow.holds Ybaf.pinned (OpenSpec.ofChange lawS6310BWholeWrong)

end Rows
end Go.Proofs.YbulkdzqsFmt
