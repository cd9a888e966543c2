/-
  THE LAW OVER MORE THAN 1024 BYTES: true at once. By an AI agent.
-/
import Derived.Test.YbulkbfbyAll
import Derived.OwnWalk
namespace Go.Proofs.Ybulkbfby
open Go.RowKit

set_option maxRecDepth 100000 in
theorem law_many (part pre : Bool) (s0 s1 s2 s3 heal hearer kind hgt rnd from_ to_ now : Int) (ao : Option Addr) (len cap : Nat) (w : World) (hlen : 1024 < len) :
    Calls Yba.prog 3 #[.bool part, .agg #[.int .u64 s0, .int .u64 s1, .int .u64 s2, .int .u64 s3], .int .i64 heal, .int .u8 hearer, .slice ao len cap, .int .u8 kind, .int .u64 hgt, .int .u32 rnd, .bool pre, .int .u16 from_, .int .u16 to_, .int .i64 now] w
      fun e w' => e = .returned (.bool true) ∧ Below w.heap.size w w' := by
  go_enter Yba.func3, Yba.ntmps3
  go_wp2
  go_ret
  exact ⟨rfl, (Below.refl _ w).alloc (Nat.le_refl _) _⟩
end Go.Proofs.Ybulkbfby
