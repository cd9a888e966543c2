/-
  THE CONTRACT OF 'zhuangu.Clauses' (function 5): a new block of three cells 0, 1, 2; nothing old has turned. By an AI agent.
-/
import Derived.Test.YbulkbezgRows
import Derived.WalkKit
import Derived.ProofKit
import Derived.OpenShut
import Derived.Handy
namespace Go.Proofs.Ybulkbezg
open Go.ChangeShapes Go.WideShapes Go.ChangeAt Go.RowKit

theorem Yba.make3 : ∀ w, (Instr.makeSlice 22 (.int .i64 3) (.int .i64 3)).run Yba.prog w = .ok (.slice (some ⟨w.heap.size, 0, none⟩) 3 3) (w.alloc (.cells #[.int .i64 0, .int .i64 0, .int .i64 0] 24)) := fun _ => by kernel_rfl

set_option maxHeartbeats 400000 in
theorem clauses_any (w : World) :
    Calls Yba.prog 5 #[] w fun e w' => e = .returned (.slice (some ⟨w.heap.size, 0, none⟩) 3 3) ∧ w' = w.alloc (.cells #[.int .i64 0, .int .i64 1, .int .i64 2] 24) := by
  have hmk := Yba.make3
  go_enter Yba.func5, Yba.ntmps5
  go_wp2
  go_rounds 4
  go_ret
  exact ⟨rfl, rfl⟩
end Go.Proofs.Ybulkbezg
