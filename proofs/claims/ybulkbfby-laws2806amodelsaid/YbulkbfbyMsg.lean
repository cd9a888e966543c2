/-
  THE MESSAGES: 'zzs2806amsg' (function 4), their 'Position' (functions 32, 35, 39, 41). By an AI agent.
-/
import Derived.Test.YbulkbfbySide
import Derived.Deep.QuietTactic
import Derived.BigQuiet
namespace Go.Proofs.Ybulkbfby
open Go.RowKit

/-- A Proposal (70), an Announcement (81). -/
abbrev prop (h r : Int) : Value := .agg #[.int .u64 h, .int .u32 r, .int .i64 0, .int .u8 0, .int .u8 0, .int .u8 0, .int .u8 0, .int .u8 0, .int .u8 0, .int .u8 0, .int .u8 0, .int .u8 0, .int .u8 0, .int .u8 0, .int .u8 0, .int .u8 0, .int .u8 0, .int .u8 0, .int .u8 0, .int .u8 0, .int .u8 0, .int .u8 0, .int .u8 0, .int .u8 0, .int .u8 0, .int .u8 0, .int .u8 0, .int .u8 0, .int .u8 0, .int .u8 0, .int .u8 0, .int .u8 0, .int .u8 0, .int .u8 0, .int .u8 0, .int .i64 0, .slice none 0 0, .slice none 0 0]
/-- A Vote (73). -/
abbrev vote (st h r : Int) : Value := .agg #[.int .u8 st, .int .u64 h, .int .u32 r, .int .u8 0, .int .u8 0, .int .u8 0, .int .u8 0, .int .u8 0, .int .u8 0, .int .u8 0, .int .u8 0, .int .u8 0, .int .u8 0, .int .u8 0, .int .u8 0, .int .u8 0, .int .u8 0, .int .u8 0, .int .u8 0, .int .u8 0, .int .u8 0, .int .u8 0, .int .u8 0, .int .u8 0, .int .u8 0, .int .u8 0, .int .u8 0, .int .u8 0, .int .u8 0, .int .u8 0, .int .u8 0, .int .u8 0, .int .u8 0, .int .u8 0, .int .u8 0, .int .i64 0, .slice none 0 0]
/-- A ChangeVote (79). -/
abbrev chv (h r : Int) : Value := .agg #[.int .u8 0, .int .u64 h, .int .u32 r, .int .u32 0, .int .u8 0, .int .u8 0, .int .u8 0, .int .u8 0, .int .u8 0, .int .u8 0, .int .u8 0, .int .u8 0, .int .u8 0, .int .u8 0, .int .u8 0, .int .u8 0, .int .u8 0, .int .u8 0, .int .u8 0, .int .u8 0, .int .u8 0, .int .u8 0, .int .u8 0, .int .u8 0, .int .u8 0, .int .u8 0, .int .u8 0, .int .u8 0, .int .u8 0, .int .u8 0, .int .u8 0, .int .u8 0, .int .u8 0, .int .u8 0, .int .u8 0, .int .u8 0, .int .u8 0, .int .i64 0, .slice none 0 0, .slice none 0 0, .slice none 0 0]

set_option maxHeartbeats 800000 in
set_option maxRecDepth 100000 in
theorem msg0 (h r : Int) (b : Bool) (w : World) :
    Calls Yba.prog 4 #[.int .u8 0, .int .u64 h, .int .u32 r, .bool b] w fun e w' => e = .returned (.iface 70 (prop h r)) ∧ w' = w := by
  go_enter Yba.func4, Yba.ntmps4
  go_wp2
  go_ret
  exact ⟨rfl, rfl⟩

set_option maxHeartbeats 800000 in
set_option maxRecDepth 100000 in
theorem msg1t (h r : Int) (w : World) :
    Calls Yba.prog 4 #[.int .u8 1, .int .u64 h, .int .u32 r, .bool true] w fun e w' => e = .returned (.iface 73 (vote 1 h r)) ∧ w' = w := by
  go_enter Yba.func4, Yba.ntmps4
  go_wp2
  go_ret
  exact ⟨rfl, rfl⟩

set_option maxHeartbeats 800000 in
set_option maxRecDepth 100000 in
theorem msg1f (h r : Int) (w : World) :
    Calls Yba.prog 4 #[.int .u8 1, .int .u64 h, .int .u32 r, .bool false] w fun e w' => e = .returned (.iface 73 (vote 2 h r)) ∧ w' = w := by
  go_enter Yba.func4, Yba.ntmps4
  go_wp2
  go_ret
  exact ⟨rfl, rfl⟩

set_option maxHeartbeats 800000 in
set_option maxRecDepth 100000 in
theorem msg2 (h r : Int) (b : Bool) (w : World) :
    Calls Yba.prog 4 #[.int .u8 2, .int .u64 h, .int .u32 r, .bool b] w fun e w' => e = .returned (.iface 79 (chv h r)) ∧ w' = w := by
  go_enter Yba.func4, Yba.ntmps4
  go_wp2
  go_ret
  exact ⟨rfl, rfl⟩

set_option maxHeartbeats 800000 in
set_option maxRecDepth 100000 in
theorem msg3 (h r : Int) (b : Bool) (w : World) :
    Calls Yba.prog 4 #[.int .u8 3, .int .u64 h, .int .u32 r, .bool b] w fun e w' => e = .returned (.iface 81 (prop h r)) ∧ w' = w := by
  go_enter Yba.func4, Yba.ntmps4
  go_wp2
  go_ret
  exact ⟨rfl, rfl⟩

set_option maxHeartbeats 800000 in
set_option maxRecDepth 100000 in
theorem pos70 (h r : Int) (w : World) :
    Calls Yba.prog 32 #[prop h r] w fun e w' => e = .returned (.tuple #[.int .u64 h, .int .u32 r]) ∧ Below w.heap.size w w' := by
  go_enter Yba.func32, Yba.ntmps32
  go_wp2
  go_quiet (fail)
  go_wp2
  go_ret2
  exact ⟨rfl, below_drewN ((Below.refl _ w).alloc (Nat.le_refl _) _) _⟩

set_option maxHeartbeats 800000 in
set_option maxRecDepth 100000 in
theorem pos73 (st h r : Int) (w : World) :
    Calls Yba.prog 35 #[vote st h r] w fun e w' => e = .returned (.tuple #[.int .u64 h, .int .u32 r]) ∧ Below w.heap.size w w' := by
  go_enter Yba.func35, Yba.ntmps35
  go_wp2
  go_quiet (fail)
  go_wp2
  go_ret2
  exact ⟨rfl, below_drewN ((Below.refl _ w).alloc (Nat.le_refl _) _) _⟩

set_option maxHeartbeats 800000 in
set_option maxRecDepth 100000 in
theorem pos79 (h r : Int) (w : World) :
    Calls Yba.prog 39 #[chv h r] w fun e w' => e = .returned (.tuple #[.int .u64 h, .int .u32 r]) ∧ Below w.heap.size w w' := by
  go_enter Yba.func39, Yba.ntmps39
  go_wp2
  go_quiet (fail)
  go_wp2
  go_ret2
  exact ⟨rfl, below_drewN ((Below.refl _ w).alloc (Nat.le_refl _) _) _⟩

set_option maxHeartbeats 800000 in
set_option maxRecDepth 100000 in
theorem pos81 (h r : Int) (w : World) :
    Calls Yba.prog 41 #[prop h r] w fun e w' => e = .returned (.tuple #[.int .u64 h, .int .u32 r]) ∧ Below w.heap.size w w' := by
  go_enter Yba.func41, Yba.ntmps41
  go_wp2
  go_quiet (fail)
  go_wp2
  go_ret2
  exact ⟨rfl, below_drewN ((Below.refl _ w).alloc (Nat.le_refl _) _) _⟩

end Go.Proofs.Ybulkbfby
