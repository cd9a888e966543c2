/-
  DERIVED. GIVEN WITH THE SEED: THE CARDS: each row of YbulkbfaiFmtRows.lean that lists a variable, with what it lists TIED to the program's text (the seventh form; the later family's looks); each row that meets fmt, with fmt's text TOLD by the authors' own Lean function (tested against real Go, not proved from fmt's source: count such statements apart). THE CARD IS WHAT COUNTS. Prove the row's statement (the work); the ties are given (YbulkbfaiFmtTie.lean); close each card by the builder's one call (the guide's Derived/Test/ToyasCard.lean, 'card_holds'). Laid BY PROGRAM, IN A SANDBOX (cutbox-door.mjs). By AI agents, Wed Nov 11 2026. No macro, syntax, notation, axiom, sorry.
-/
import Derived.Test.YbulkbfaiFmtRows
import GoSem.ClaimSeven
namespace Go.Proofs.YbulkbfaiFmt
namespace Rows

/-- THE TOLD CARD OF 'meeting.LawS2803AAddRows'. -/
def lawS2803AAddRowsCard : Claim7 := { stood := { row := lawS2803AAddRowsRow, standIns := [], harness := (true, "3df472a9a36e432fcbc63f352c6bd4e1f16b9bda327055458bef65d9d002c210"), looks := true }, told := true, goes := false }
def LawS2803AAddRowsToldSaid : Prop := Claim7.holds Ybaf.pinned (.plain (OpenSpec.ofChange lawS2803AAddRowsSpec)) lawS2803AAddRowsCard
/-- ITS FALSE NEIGHBOUR. Refute it at one input. -/
def LawS2803AAddRowsToldWrongFalsely : Prop := Claim7.holds Ybaf.pinned (.plain (OpenSpec.ofChange lawS2803AAddRowsWrong)) lawS2803AAddRowsCard
end Rows
end Go.Proofs.YbulkbfaiFmt
