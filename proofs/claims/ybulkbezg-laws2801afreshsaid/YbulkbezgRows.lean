/-
  No cell of these rows narrows 'for every input' (looked for: loops, veiled, ifaces, maps, wideKeys, modest, calm, conditions, laid).
  DERIVED. THE GIVEN ROWS OF THIS SEAT. 2 by the template 'for every input the law returns true; each argument reads behind the call as it read before'; 0 by the template 'total and deterministic' (their statements: YbulkbezgTotals.lean).
  GIVEN WITH THE SEED: the statements are not yours to turn. If you find one false, say at which input.
  Laid BY PROGRAM, IN A SANDBOX (cutbox-rows.mjs): the forced cells as the released guide's own fill.sh prints them over the translation 4fb38cecd3a7189a… (all of the seat's roots in one cut). By AI agents, Wed Nov 11 2026. No macro, syntax, notation, axiom, sorry.
-/
import Derived.Test.YbulkbezgChecked
import GoSem.Claim
import GoSem.ClaimJoined
import GoSem.ClaimMapViews
import Derived.JoinedTies
import Derived.KernelRfl
namespace Go.Proofs.Ybulkbezg
/- THE CELL 'sum', in the pinned program and in every row, IS THE sha256 OF THE DUMP (.gsa) THAT YbulkbezgProg.lean LOADS. Nothing in Lean hashes anything: it is a label: what it is worth is what the hold of that sum in a sandbox is worth. -/
noncomputable def Yba.pinned : Pinned := { name := "ybulkbezg", sum := "4fb38cecd3a7189a3c2610d9d86c25a38eba5abf709d01b2985b753e962ee8c7", checked := Yba.checked }
namespace Rows
def none {H : Type} : Left H := { results := [], args := [] }

/-- 'zhuangu.LawS2801AExact': WHATEVER THE INPUT: true; the input reads as it did. -/
def lawS2801AExactSpec : ChangeSpec := { name := "lawS2801AExact", fn := fun _ => fun
  | [] => { results := [.lit (.bool true)], args := [] }
  | _ => none }
def lawS2801AExactRow : OpenClaim := { program := "ybulkbezg", sum := "4fb38cecd3a7189a3c2610d9d86c25a38eba5abf709d01b2985b753e962ee8c7", func := "example.com/zhuangu/zhuangu.LawS2801AExact", spec := "lawS2801AExact", apart := false }
def LawS2801AExactSaid : Prop := lawS2801AExactRow.holds Yba.pinned (OpenSpec.ofChange lawS2801AExactSpec)

/-- ITS FALSE NEIGHBOUR: 'it returns false'. Refute it at one input. -/
def lawS2801AExactWrong : ChangeSpec := { name := "lawS2801AExact", fn := fun _ => fun
  | [] => { results := [.lit (.bool false)], args := [] }
  | _ => none }
def LawS2801AExactWrongFalsely : Prop := lawS2801AExactRow.holds Yba.pinned (OpenSpec.ofChange lawS2801AExactWrong)

/-- 'zhuangu.LawS2801AFresh': WHATEVER THE INPUT: true; the input reads as it did. -/
def lawS2801AFreshSpec : ChangeSpec := { name := "lawS2801AFresh", fn := fun _ => fun
  | [d1, d2] => { results := [.lit (.bool true)], args := [d1, d2] }
  | _ => none }
def lawS2801AFreshRow : OpenClaim := { program := "ybulkbezg", sum := "4fb38cecd3a7189a3c2610d9d86c25a38eba5abf709d01b2985b753e962ee8c7", func := "example.com/zhuangu/zhuangu.LawS2801AFresh", spec := "lawS2801AFresh", apart := false }
def LawS2801AFreshSaid : Prop := lawS2801AFreshRow.holds Yba.pinned (OpenSpec.ofChange lawS2801AFreshSpec)

/-- ITS FALSE NEIGHBOUR: 'it returns false'. Refute it at one input. -/
def lawS2801AFreshWrong : ChangeSpec := { name := "lawS2801AFresh", fn := fun _ => fun
  | [d1, d2] => { results := [.lit (.bool false)], args := [d1, d2] }
  | _ => none }
def LawS2801AFreshWrongFalsely : Prop := lawS2801AFreshRow.holds Yba.pinned (OpenSpec.ofChange lawS2801AFreshWrong)

end Rows
end Go.Proofs.Ybulkbezg
