/-
  No cell of these rows narrows 'for every input' (looked for: loops, veiled, ifaces, maps, wideKeys, modest, calm, conditions, laid).
  DERIVED. THE GIVEN ROWS OF THIS SEAT. 1 by the template 'for every input the law returns true; each argument reads behind the call as it read before'; 0 by the template 'total and deterministic' (their statements: YbulkdzpcTotals.lean).
  GIVEN WITH THE SEED: the statements are not yours to turn. If you find one false, say at which input.
  Laid BY PROGRAM, IN A SANDBOX (cutbox-rows.mjs): the forced cells as the released guide's own fill.sh prints them over the translation d9b9c2e0167e5a53… (all of the seat's roots in one cut). By AI agents, Wed Nov 11 2026. No macro, syntax, notation, axiom, sorry.
-/
import Derived.Test.YbulkdzpcChecked
import GoSem.Claim
import GoSem.ClaimJoined
import GoSem.ClaimMapViews
import Derived.JoinedTies
import Derived.KernelRfl
namespace Go.Proofs.Ybulkdzpc
/- THE CELL 'sum', in the pinned program and in every row, IS THE sha256 OF THE DUMP (.gsa) THAT YbulkdzpcProg.lean LOADS. Nothing in Lean hashes anything: it is a label: what it is worth is what the hold of that sum in a sandbox is worth. -/
noncomputable def Yba.pinned : Pinned := { name := "ybulkdzpc", sum := "d9b9c2e0167e5a53977738478ba09fa1023df94ddf8aa1c08929d3e78b57e2f1", checked := Yba.checked }
namespace Rows
def none {H : Type} : Left H := { results := [], args := [] }

/-- 'labelwise.LawS6307AWhole': WHATEVER THE INPUT: true; the input reads as it did. -/
def lawS6307AWholeSpec : ChangeSpec := { name := "lawS6307AWhole", fn := fun _ => fun
  | [d1, d2] => { results := [.lit (.bool true)], args := [d1, d2] }
  | _ => none }
def lawS6307AWholeRow : OpenClaim := { program := "ybulkdzpc", sum := "d9b9c2e0167e5a53977738478ba09fa1023df94ddf8aa1c08929d3e78b57e2f1", func := "example.com/labelwise/labelwise.LawS6307AWhole", spec := "lawS6307AWhole", apart := false }
def LawS6307AWholeSaid : Prop := lawS6307AWholeRow.holds Yba.pinned (OpenSpec.ofChange lawS6307AWholeSpec)

/-- ITS FALSE NEIGHBOUR: 'it returns false'. Refute it at one input. -/
def lawS6307AWholeWrong : ChangeSpec := { name := "lawS6307AWhole", fn := fun _ => fun
  | [d1, d2] => { results := [.lit (.bool false)], args := [d1, d2] }
  | _ => none }
def LawS6307AWholeWrongFalsely : Prop := lawS6307AWholeRow.holds Yba.pinned (OpenSpec.ofChange lawS6307AWholeWrong)

end Rows
end Go.Proofs.Ybulkdzpc
