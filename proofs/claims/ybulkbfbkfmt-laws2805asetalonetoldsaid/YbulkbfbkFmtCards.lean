/-
  DERIVED. GIVEN WITH THE SEED: THE CARDS: each row of YbulkbfbkFmtRows.lean that lists a variable, with what it lists TIED to the program's text (the seventh form; the later family's looks); each row that meets fmt, with fmt's text TOLD by the authors' own Lean function (tested against real Go, not proved from fmt's source: count such statements apart). THE CARD IS WHAT COUNTS. Prove the row's statement (the work); the ties are given (YbulkbfbkFmtTie.lean); close each card by the builder's one call (the guide's Derived/Test/ToyasCard.lean, 'card_holds'). Laid BY PROGRAM, IN A SANDBOX (cutbox-door.mjs). By AI agents, Wed Nov 11 2026. No macro, syntax, notation, axiom, sorry.
-/
import Derived.Test.YbulkbfbkFmtRows
import GoSem.ClaimSeven
namespace Go.Proofs.YbulkbfbkFmt
namespace Rows

/-- THE TOLD CARD OF 'policy.LawS2805ASetAlone'. -/
def lawS2805ASetAloneCard : Claim7 := { stood := { row := lawS2805ASetAloneRow, standIns := [], harness := (true, "c9c3180f409d6eabbcda1064fb507d2b32efe042a8b8db5ed036439c5f5e2fed"), looks := false }, told := true, goes := false }
def LawS2805ASetAloneToldSaid : Prop := Claim7.holds Ybaf.pinned (.plain (OpenSpec.ofChange lawS2805ASetAloneSpec)) lawS2805ASetAloneCard
/-- ITS FALSE NEIGHBOUR. Refute it at one input. -/
def LawS2805ASetAloneToldWrongFalsely : Prop := Claim7.holds Ybaf.pinned (.plain (OpenSpec.ofChange lawS2805ASetAloneWrong)) lawS2805ASetAloneCard

/-- THE TOLD CARD OF 'policy.LawS2805ACopyCalls'. -/
def lawS2805ACopyCallsCard : Claim7 := { stood := { row := lawS2805ACopyCallsRow, standIns := [], harness := (true, "c9c3180f409d6eabbcda1064fb507d2b32efe042a8b8db5ed036439c5f5e2fed"), looks := false }, told := true, goes := false }
def LawS2805ACopyCallsToldSaid : Prop := Claim7.holds Ybaf.pinned (.plain (OpenSpec.ofChange lawS2805ACopyCallsSpec)) lawS2805ACopyCallsCard
/-- ITS FALSE NEIGHBOUR. Refute it at one input. -/
def LawS2805ACopyCallsToldWrongFalsely : Prop := Claim7.holds Ybaf.pinned (.plain (OpenSpec.ofChange lawS2805ACopyCallsWrong)) lawS2805ACopyCallsCard
end Rows
end Go.Proofs.YbulkbfbkFmt
