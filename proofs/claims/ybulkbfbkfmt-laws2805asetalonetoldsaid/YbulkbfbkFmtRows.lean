/-
  No cell of these rows narrows 'for every input' (looked for: loops, veiled, ifaces, maps, wideKeys, modest, calm, conditions, laid).
  DERIVED. THE GIVEN ROWS OF THIS SEAT. 2 by the template 'for every input the law returns true; each argument reads behind the call as it read before'; 0 by the template 'total and deterministic' (their statements: YbulkbfbkFmtTotals.lean).
  GIVEN WITH THE SEED: the statements are not yours to turn. If you find one false, say at which input.
  Laid BY PROGRAM, IN A SANDBOX (cutbox-rows.mjs): the forced cells as the released guide's own fill.sh prints them over the translation 261a02309f584fd0… (all of the seat's roots in one cut). By AI agents, Wed Nov 11 2026. No macro, syntax, notation, axiom, sorry.
-/
import Derived.Test.YbulkbfbkFmtChecked
import GoSem.Claim
import GoSem.ClaimJoined
import GoSem.ClaimMapViews
import Derived.JoinedTies
import Derived.KernelRfl
namespace Go.Proofs.YbulkbfbkFmt
/- THE CELL 'sum', in the pinned program and in every row, IS THE sha256 OF THE DUMP (.gsa) THAT YbulkbfbkFmtProg.lean LOADS. Nothing in Lean hashes anything: it is a label: what it is worth is what the hold of that sum in a sandbox is worth. -/
noncomputable def Ybaf.pinned : Pinned := { name := "ybulkbfbkfmt", sum := "261a02309f584fd0d57f6e8a330515088a800ec53c04c859f6e2661cab600ba8", checked := Ybaf.checked }
namespace Rows
def none {H : Type} : Left H := { results := [], args := [] }

/-- 'policy.LawS2805ASetAlone': WHATEVER THE INPUT: true; the input reads as it did. -/
def lawS2805ASetAloneSpec : ChangeSpec := { name := "lawS2805ASetAlone", fn := fun _ => fun
  | [d] => { results := [.lit (.bool true)], args := [d] }
  | _ => none }
def lawS2805ASetAloneRow : OpenClaim := { program := "ybulkbfbkfmt", sum := "261a02309f584fd0d57f6e8a330515088a800ec53c04c859f6e2661cab600ba8", func := "example.com/tapewain/tapewain/policy.LawS2805ASetAlone", spec := "lawS2805ASetAlone", stops := ["fmt.Sprintf"], inPlace := ["fmt.Sprintf"], apart := false }
/-- NO THEOREM (fmt's text is open here; it may be false): for the released tool's asking of the row's closed facts alone. THE STATEMENT IS 'LawS2805ASetAloneToldSaid' (YbulkbfbkFmtCards.lean). -/
def LawS2805ASetAloneFormAsk : Prop := lawS2805ASetAloneRow.holds Ybaf.pinned (OpenSpec.ofChange lawS2805ASetAloneSpec)

/-- ITS FALSE NEIGHBOUR: 'it returns false'. Refute it at one input. -/
def lawS2805ASetAloneWrong : ChangeSpec := { name := "lawS2805ASetAlone", fn := fun _ => fun
  | [d] => { results := [.lit (.bool false)], args := [d] }
  | _ => none }
def LawS2805ASetAloneWrongFormAsk : Prop := lawS2805ASetAloneRow.holds Ybaf.pinned (OpenSpec.ofChange lawS2805ASetAloneWrong)

/-- 'policy.LawS2805ACopyCalls': WHATEVER THE INPUT: true; the input reads as it did. -/
def lawS2805ACopyCallsSpec : ChangeSpec := { name := "lawS2805ACopyCalls", fn := fun _ => fun
  | [d1, d2] => { results := [.lit (.bool true)], args := [d1, d2] }
  | _ => none }
def lawS2805ACopyCallsRow : OpenClaim := { program := "ybulkbfbkfmt", sum := "261a02309f584fd0d57f6e8a330515088a800ec53c04c859f6e2661cab600ba8", func := "example.com/tapewain/tapewain/policy.LawS2805ACopyCalls", spec := "lawS2805ACopyCalls", stops := ["fmt.Sprintf"], inPlace := ["fmt.Sprintf"], apart := false }
/-- NO THEOREM (fmt's text is open here; it may be false): for the released tool's asking of the row's closed facts alone. THE STATEMENT IS 'LawS2805ACopyCallsToldSaid' (YbulkbfbkFmtCards.lean). -/
def LawS2805ACopyCallsFormAsk : Prop := lawS2805ACopyCallsRow.holds Ybaf.pinned (OpenSpec.ofChange lawS2805ACopyCallsSpec)

/-- ITS FALSE NEIGHBOUR: 'it returns false'. Refute it at one input. -/
def lawS2805ACopyCallsWrong : ChangeSpec := { name := "lawS2805ACopyCalls", fn := fun _ => fun
  | [d1, d2] => { results := [.lit (.bool false)], args := [d1, d2] }
  | _ => none }
def LawS2805ACopyCallsWrongFormAsk : Prop := lawS2805ACopyCallsRow.holds Ybaf.pinned (OpenSpec.ofChange lawS2805ACopyCallsWrong)

end Rows
end Go.Proofs.YbulkbfbkFmt
