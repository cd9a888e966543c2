/-
  No cell of these rows narrows 'for every input' (looked for: loops, veiled, ifaces, maps, wideKeys, modest, calm, conditions, laid).
  DERIVED. THE GIVEN ROWS OF THIS SEAT. 1 by the template 'for every input the law returns true; each argument reads behind the call as it read before'; 0 by the template 'total and deterministic' (their statements: YbulkbfbyTotals.lean).
  GIVEN WITH THE SEED: the statements are not yours to turn. If you find one false, say at which input.
  Laid BY PROGRAM, IN A SANDBOX (cutbox-rows.mjs): the forced cells as the released guide's own fill.sh prints them over the translation 265c0a79392fd64b… (all of the seat's roots in one cut). By AI agents, Wed Nov 11 2026. No macro, syntax, notation, axiom, sorry.
-/
import Derived.Test.YbulkbfbyChecked
import GoSem.Claim
import GoSem.ClaimJoined
import GoSem.ClaimMapViews
import Derived.JoinedTies
import Derived.KernelRfl
namespace Go.Proofs.Ybulkbfby
/- THE CELL 'sum', in the pinned program and in every row, IS THE sha256 OF THE DUMP (.gsa) THAT YbulkbfbyProg.lean LOADS. Nothing in Lean hashes anything: it is a label: what it is worth is what the hold of that sum in a sandbox is worth. -/
noncomputable def Yba.pinned : Pinned := { name := "ybulkbfby", sum := "265c0a79392fd64ba3a993d181b7f65ee741e4c3412a77388e3fcd745f30d381", checked := Yba.checked }
namespace Rows
def none {H : Type} : Left H := { results := [], args := [] }

/-- 'sim.LawS2806AModel': WHATEVER THE INPUT: true; the input reads as it did. -/
def lawS2806AModelSpec : ChangeSpec := { name := "lawS2806AModel", fn := fun _ => fun
  | [d1, d2, d3, d4, d5, d6, d7, d8, d9, d10, d11, d12] => { results := [.lit (.bool true)], args := [d1, d2, d3, d4, d5, d6, d7, d8, d9, d10, d11, d12] }
  | _ => none }
def lawS2806AModelRow : OpenClaim := { program := "ybulkbfby", sum := "265c0a79392fd64ba3a993d181b7f65ee741e4c3412a77388e3fcd745f30d381", func := "example.com/ballotine/ballotine/internal/sim.LawS2806AModel", spec := "lawS2806AModel", unfollowed := true, recurses := true, apart := false }
def LawS2806AModelSaid : Prop := lawS2806AModelRow.holds Yba.pinned (OpenSpec.ofChange lawS2806AModelSpec)

/-- ITS FALSE NEIGHBOUR: 'it returns false'. Refute it at one input. -/
def lawS2806AModelWrong : ChangeSpec := { name := "lawS2806AModel", fn := fun _ => fun
  | [d1, d2, d3, d4, d5, d6, d7, d8, d9, d10, d11, d12] => { results := [.lit (.bool false)], args := [d1, d2, d3, d4, d5, d6, d7, d8, d9, d10, d11, d12] }
  | _ => none }
def LawS2806AModelWrongFalsely : Prop := lawS2806AModelRow.holds Yba.pinned (OpenSpec.ofChange lawS2806AModelWrong)

end Rows
end Go.Proofs.Ybulkbfby
