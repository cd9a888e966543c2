/-
  No cell of these rows narrows 'for every input' (looked for: loops, veiled, ifaces, maps, wideKeys, modest, calm, conditions, laid).
  DERIVED. THE GIVEN ROWS OF THIS SEAT. 1 by the template 'for every input the law returns true; each argument reads behind the call as it read before'; 0 by the template 'total and deterministic' (their statements: YbulkbfaiFmtTotals.lean).
  GIVEN WITH THE SEED: the statements are not yours to turn. If you find one false, say at which input.
  Laid BY PROGRAM, IN A SANDBOX (cutbox-rows.mjs): the forced cells as the released guide's own fill.sh prints them over the translation 17554497fc4ca70c… (all of the seat's roots in one cut). By AI agents, Wed Nov 11 2026. No macro, syntax, notation, axiom, sorry.
-/
import Derived.Test.YbulkbfaiFmtChecked
import GoSem.Claim
import GoSem.ClaimJoined
import GoSem.ClaimMapViews
import Derived.JoinedTies
import Derived.KernelRfl
namespace Go.Proofs.YbulkbfaiFmt
/- THE CELL 'sum', in the pinned program and in every row, IS THE sha256 OF THE DUMP (.gsa) THAT YbulkbfaiFmtProg.lean LOADS. Nothing in Lean hashes anything: it is a label: what it is worth is what the hold of that sum in a sandbox is worth. -/
noncomputable def Ybaf.pinned : Pinned := { name := "ybulkbfaifmt", sum := "17554497fc4ca70c02f3dc2438c9c7406e6212c2d8ae66338744ff848bc0693c", checked := Ybaf.checked }
namespace Rows
def none {H : Type} : Left H := { results := [], args := [] }

/-- 'meeting.LawS2803AAddRows': WHATEVER THE INPUT: true; the input reads as it did. -/
def lawS2803AAddRowsSpec : ChangeSpec := { name := "lawS2803AAddRows", fn := fun _ => fun
  | [d1, d2, d3] => { results := [.lit (.bool true)], args := [d1, d2, d3] }
  | _ => none }
def lawS2803AAddRowsRow : OpenClaim := { program := "ybulkbfaifmt", sum := "17554497fc4ca70c02f3dc2438c9c7406e6212c2d8ae66338744ff848bc0693c", func := "example.com/tallyseat/tallyseat/internal/meeting.LawS2803AAddRows", spec := "lawS2803AAddRows", stops := ["fmt.errorf"], inPlace := ["fmt.errorf"], apart := false }
/-- NO THEOREM (fmt's text is open here; it may be false): for the released tool's asking of the row's closed facts alone. THE STATEMENT IS 'LawS2803AAddRowsToldSaid' (YbulkbfaiFmtCards.lean). -/
def LawS2803AAddRowsFormAsk : Prop := lawS2803AAddRowsRow.holds Ybaf.pinned (OpenSpec.ofChange lawS2803AAddRowsSpec)

/-- ITS FALSE NEIGHBOUR: 'it returns false'. Refute it at one input. -/
def lawS2803AAddRowsWrong : ChangeSpec := { name := "lawS2803AAddRows", fn := fun _ => fun
  | [d1, d2, d3] => { results := [.lit (.bool false)], args := [d1, d2, d3] }
  | _ => none }
def LawS2803AAddRowsWrongFormAsk : Prop := lawS2803AAddRowsRow.holds Ybaf.pinned (OpenSpec.ofChange lawS2803AAddRowsWrong)

end Rows
end Go.Proofs.YbulkbfaiFmt
