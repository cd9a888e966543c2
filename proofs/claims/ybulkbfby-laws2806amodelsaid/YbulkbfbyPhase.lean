/-
  THE WALKS OF 'sim.phase' (function 8). By an AI agent.
-/
import Derived.Test.YbulkbfbyMsg
namespace Go.Proofs.Ybulkbfby
open Go.RowKit

/-- The phase; 'late': a change vote or an announcement. -/
def ph (late : Bool) (h r : Int) : Int := if h = 1 ∧ r < 2 then 2 * r + (if late then 1 else 0) else 3
theorem ph_far (late : Bool) (h r : Int) (hh : ¬ (h = 1 ∧ r < 2)) : ph late h r = 3 := by simp [ph, hh]
theorem ph_near (late : Bool) (h r : Int) (hh : h = 1 ∧ r < 2) : ph late h r = 2 * r + (if late then 1 else 0) := by simp [ph, hh]

/-! ### Which message is it? -/
theorem ta70_70 (v : Value) (w : World) : (Instr.typeAssert (.iface 70 v) 60 70 true).run Yba.prog w = .ok (.tuple #[v, .bool true]) w := by kernel_rfl
theorem ta70_73 (v : Value) (w : World) : (Instr.typeAssert (.iface 70 v) 60 73 true).run Yba.prog w = .ok (.tuple #[vote 0 0 0, .bool false]) w := by kernel_rfl
theorem ta70_79 (v : Value) (w : World) : (Instr.typeAssert (.iface 70 v) 60 79 true).run Yba.prog w = .ok (.tuple #[chv 0 0, .bool false]) w := by kernel_rfl
theorem ta70_81 (v : Value) (w : World) : (Instr.typeAssert (.iface 70 v) 60 81 true).run Yba.prog w = .ok (.tuple #[prop 0 0, .bool false]) w := by kernel_rfl
theorem ta73_70 (v : Value) (w : World) : (Instr.typeAssert (.iface 73 v) 60 70 true).run Yba.prog w = .ok (.tuple #[prop 0 0, .bool false]) w := by kernel_rfl
theorem ta73_73 (v : Value) (w : World) : (Instr.typeAssert (.iface 73 v) 60 73 true).run Yba.prog w = .ok (.tuple #[v, .bool true]) w := by kernel_rfl
theorem ta73_79 (v : Value) (w : World) : (Instr.typeAssert (.iface 73 v) 60 79 true).run Yba.prog w = .ok (.tuple #[chv 0 0, .bool false]) w := by kernel_rfl
theorem ta73_81 (v : Value) (w : World) : (Instr.typeAssert (.iface 73 v) 60 81 true).run Yba.prog w = .ok (.tuple #[prop 0 0, .bool false]) w := by kernel_rfl
theorem ta79_70 (v : Value) (w : World) : (Instr.typeAssert (.iface 79 v) 60 70 true).run Yba.prog w = .ok (.tuple #[prop 0 0, .bool false]) w := by kernel_rfl
theorem ta79_73 (v : Value) (w : World) : (Instr.typeAssert (.iface 79 v) 60 73 true).run Yba.prog w = .ok (.tuple #[vote 0 0 0, .bool false]) w := by kernel_rfl
theorem ta79_79 (v : Value) (w : World) : (Instr.typeAssert (.iface 79 v) 60 79 true).run Yba.prog w = .ok (.tuple #[v, .bool true]) w := by kernel_rfl
theorem ta79_81 (v : Value) (w : World) : (Instr.typeAssert (.iface 79 v) 60 81 true).run Yba.prog w = .ok (.tuple #[prop 0 0, .bool false]) w := by kernel_rfl
theorem ta81_70 (v : Value) (w : World) : (Instr.typeAssert (.iface 81 v) 60 70 true).run Yba.prog w = .ok (.tuple #[prop 0 0, .bool false]) w := by kernel_rfl
theorem ta81_73 (v : Value) (w : World) : (Instr.typeAssert (.iface 81 v) 60 73 true).run Yba.prog w = .ok (.tuple #[vote 0 0 0, .bool false]) w := by kernel_rfl
theorem ta81_79 (v : Value) (w : World) : (Instr.typeAssert (.iface 81 v) 60 79 true).run Yba.prog w = .ok (.tuple #[chv 0 0, .bool false]) w := by kernel_rfl
theorem ta81_81 (v : Value) (w : World) : (Instr.typeAssert (.iface 81 v) 60 81 true).run Yba.prog w = .ok (.tuple #[v, .bool true]) w := by kernel_rfl

set_option maxHeartbeats 1600000 in
set_option maxRecDepth 100000 in
theorem phase70 (h r : Int) (w : World) (r0 : 0 ≤ r) (r1 : r ≤ 4294967295) :
    Calls Yba.prog 8 #[.iface 70 (prop h r)] w fun e w' => e = .returned (.int .i64 (ph false h r)) ∧ Below w.heap.size w w' := by
  have t79 := ta70_79
  have t81 := ta70_81
  by_cases hh : h = 1
  · have hb : (h != 1) = false := by simp [hh]
    by_cases hr : r < 2
    · have HP : Hid (ph false h r = 2 * r + 0) := by show _ = _; rw [ph_near _ _ _ ⟨hh, hr⟩]; simp
      clear hh
      go_enter Yba.func8, Yba.ntmps8
      go_wp2_with (go_at_call 32; refine (pos70 h r _).mono ?_; rintro e w1 ⟨rfl, hb1⟩)
      go_ret
      exact ⟨ret_int (by rw [HP.out]; omega), hb1⟩
    · have HP : Hid (ph false h r = 3) := ph_far _ _ _ (fun h => hr h.2)
      clear hh
      go_enter Yba.func8, Yba.ntmps8
      go_wp2_with (go_at_call 32; refine (pos70 h r _).mono ?_; rintro e w1 ⟨rfl, hb1⟩)
      go_ret
      exact ⟨ret_int HP.out.symm, hb1⟩
  · have hb : (h != 1) = true := by simp [hh]
    have HP : Hid (ph false h r = 3) := ph_far _ _ _ (fun h => hh h.1)
    clear hh
    go_enter Yba.func8, Yba.ntmps8
    go_wp2_with (go_at_call 32; refine (pos70 h r _).mono ?_; rintro e w1 ⟨rfl, hb1⟩)
    go_ret
    exact ⟨ret_int HP.out.symm, hb1⟩

set_option maxHeartbeats 1600000 in
set_option maxRecDepth 100000 in
theorem phase73 (st h r : Int) (w : World) (r0 : 0 ≤ r) (r1 : r ≤ 4294967295) :
    Calls Yba.prog 8 #[.iface 73 (vote st h r)] w fun e w' => e = .returned (.int .i64 (ph false h r)) ∧ Below w.heap.size w w' := by
  have t79 := ta73_79
  have t81 := ta73_81
  by_cases hh : h = 1
  · have hb : (h != 1) = false := by simp [hh]
    by_cases hr : r < 2
    · have HP : Hid (ph false h r = 2 * r + 0) := by show _ = _; rw [ph_near _ _ _ ⟨hh, hr⟩]; simp
      clear hh
      go_enter Yba.func8, Yba.ntmps8
      go_wp2_with (go_at_call 35; refine (pos73 st h r _).mono ?_; rintro e w1 ⟨rfl, hb1⟩)
      go_ret
      exact ⟨ret_int (by rw [HP.out]; omega), hb1⟩
    · have HP : Hid (ph false h r = 3) := ph_far _ _ _ (fun h => hr h.2)
      clear hh
      go_enter Yba.func8, Yba.ntmps8
      go_wp2_with (go_at_call 35; refine (pos73 st h r _).mono ?_; rintro e w1 ⟨rfl, hb1⟩)
      go_ret
      exact ⟨ret_int HP.out.symm, hb1⟩
  · have hb : (h != 1) = true := by simp [hh]
    have HP : Hid (ph false h r = 3) := ph_far _ _ _ (fun h => hh h.1)
    clear hh
    go_enter Yba.func8, Yba.ntmps8
    go_wp2_with (go_at_call 35; refine (pos73 st h r _).mono ?_; rintro e w1 ⟨rfl, hb1⟩)
    go_ret
    exact ⟨ret_int HP.out.symm, hb1⟩

set_option maxHeartbeats 1600000 in
set_option maxRecDepth 100000 in
theorem phase79 (h r : Int) (w : World) (r0 : 0 ≤ r) (r1 : r ≤ 4294967295) :
    Calls Yba.prog 8 #[.iface 79 (chv h r)] w fun e w' => e = .returned (.int .i64 (ph true h r)) ∧ Below w.heap.size w w' := by
  have t79 := ta79_79
  have t81 := ta79_81
  by_cases hh : h = 1
  · have hb : (h != 1) = false := by simp [hh]
    by_cases hr : r < 2
    · have HP : Hid (ph true h r = 2 * r + 1) := by show _ = _; rw [ph_near _ _ _ ⟨hh, hr⟩]; simp
      clear hh
      go_enter Yba.func8, Yba.ntmps8
      go_wp2_with (go_at_call 39; refine (pos79 h r _).mono ?_; rintro e w1 ⟨rfl, hb1⟩)
      go_ret
      exact ⟨ret_int (by rw [HP.out]), hb1⟩
    · have HP : Hid (ph true h r = 3) := ph_far _ _ _ (fun h => hr h.2)
      clear hh
      go_enter Yba.func8, Yba.ntmps8
      go_wp2_with (go_at_call 39; refine (pos79 h r _).mono ?_; rintro e w1 ⟨rfl, hb1⟩)
      go_ret
      exact ⟨ret_int HP.out.symm, hb1⟩
  · have hb : (h != 1) = true := by simp [hh]
    have HP : Hid (ph true h r = 3) := ph_far _ _ _ (fun h => hh h.1)
    clear hh
    go_enter Yba.func8, Yba.ntmps8
    go_wp2_with (go_at_call 39; refine (pos79 h r _).mono ?_; rintro e w1 ⟨rfl, hb1⟩)
    go_ret
    exact ⟨ret_int HP.out.symm, hb1⟩

set_option maxHeartbeats 1600000 in
set_option maxRecDepth 100000 in
theorem phase81 (h r : Int) (w : World) (r0 : 0 ≤ r) (r1 : r ≤ 4294967295) :
    Calls Yba.prog 8 #[.iface 81 (prop h r)] w fun e w' => e = .returned (.int .i64 (ph true h r)) ∧ Below w.heap.size w w' := by
  have t79 := ta81_79
  have t81 := ta81_81
  by_cases hh : h = 1
  · have hb : (h != 1) = false := by simp [hh]
    by_cases hr : r < 2
    · have HP : Hid (ph true h r = 2 * r + 1) := by show _ = _; rw [ph_near _ _ _ ⟨hh, hr⟩]; simp
      clear hh
      go_enter Yba.func8, Yba.ntmps8
      go_wp2_with (go_at_call 41; refine (pos81 h r _).mono ?_; rintro e w1 ⟨rfl, hb1⟩)
      go_ret
      exact ⟨ret_int (by rw [HP.out]), hb1⟩
    · have HP : Hid (ph true h r = 3) := ph_far _ _ _ (fun h => hr h.2)
      clear hh
      go_enter Yba.func8, Yba.ntmps8
      go_wp2_with (go_at_call 41; refine (pos81 h r _).mono ?_; rintro e w1 ⟨rfl, hb1⟩)
      go_ret
      exact ⟨ret_int HP.out.symm, hb1⟩
  · have hb : (h != 1) = true := by simp [hh]
    have HP : Hid (ph true h r = 3) := ph_far _ _ _ (fun h => hh h.1)
    clear hh
    go_enter Yba.func8, Yba.ntmps8
    go_wp2_with (go_at_call 41; refine (pos81 h r _).mono ?_; rintro e w1 ⟨rfl, hb1⟩)
    go_ret
    exact ⟨ret_int HP.out.symm, hb1⟩

end Go.Proofs.Ybulkbfby
