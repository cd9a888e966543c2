/-
  THE WALKS OF '(*reading).addRow' (function 6), a way each. By an AI agent.
-/
import Derived.Test.YbulkbfaiFmtErr
import Derived.Test.YbulkbfaiFmtKept
import Derived.Deep.RegionHeld3
import Derived.Deep.AppendLies
import Derived.Deep.DrawnRows
set_option linter.unusedSimpArgs false
namespace Go.Proofs.YbulkbfaiFmt
open Go.RowKit Go.Extern.Stop Go.Stop Go.Extern

/-- What lies in memory when addRow is called, no fault being noted. -/
structure Lies (R M Q h1 c1 h2 c2 : Nat) (s1 s2 : ByteArray) (p : Int) (va : Value) (w : World) : Prop where
  r0 : w.cell? ⟨R, 0, none⟩ = some (.pointer (some ⟨M, 0, none⟩))
  r4 : w.cell? ⟨R, 4, none⟩ = some .nilIface
  r6 : w.cell? ⟨R, 6, none⟩ = some (.int .u64 p)
  f4 : w.frozen? ⟨R, 4, none⟩ = false
  f6 : w.frozen? ⟨R, 6, none⟩ = false
  m5 : w.cell? ⟨M, 5, none⟩ = some va
  g5 : w.frozen? ⟨M, 5, none⟩ = false
  q0 : w.cell? ⟨Q, 0, none⟩ = some (.slice (some ⟨h1, 0, none⟩) s1.size c1)
  q1 : w.cell? ⟨Q, 1, none⟩ = some (.slice (some ⟨h2, 0, none⟩) s2.size c2)
  b1 : Lib.Bytes w h1 0 s1
  b2 : Lib.Bytes w h2 0 s2

/-- A fault is noted; the shares present are p. -/
def Faulted (R M : Nat) (row : Option Nat) (p : Int) (va : Value) (w : World) (e : Ending) (w' : World) : Prop :=
  e = .returned (.tuple #[]) ∧ Kept R M row w w' ∧ (∃ g, w'.cell? ⟨R, 4, none⟩ = some (.iface 61 (.pointer (some g)))) ∧ w'.cell? ⟨R, 6, none⟩ = some (.int .u64 p) ∧ w'.cell? ⟨M, 5, none⟩ = some va

/-- (A) A fault has been noted before: nothing happens. -/
theorem add_stop (R : Nat) (i : Int) (q : Value) (t : TypeId) (x : Value) (w : World) (h4 : w.cell? ⟨R, 4, none⟩ = some (.iface t x)) :
    Calls Ybaf.prog 6 #[.pointer (some ⟨R, 0, none⟩), .int .i64 i, q] w fun e w' => e = .returned (.tuple #[]) ∧ w' = w := by
  go_enter Ybaf.func6, Ybaf.ntmps6
  go_wp2
  go_returns
  exact ⟨rfl, rfl⟩

theorem bytes_alloc {w : World} {b : Nat} {s : ByteArray} (h : Lib.Bytes w b 0 s) (x : Obj) : Lib.Bytes (w.alloc x) b 0 s := fun i hi => (World.cell?_alloc_some _ _ _ (by rw [h i hi]; rfl)).trans (h i hi)
theorem bytes_setCell {w : World} {b R o : Nat} {s : ByteArray} (h : Lib.Bytes w b 0 s) (hne : R ≠ b) (u : Value) : Lib.Bytes (w.setCell ⟨R, o, none⟩ u) b 0 s := fun i hi => (World.cell?_setCell_far _ _ _ _ hne).trans (h i hi)
theorem bytes_drew {w : World} {b : Nat} {s : ByteArray} (h : Lib.Bytes w b 0 s) : Lib.Bytes w.drew b 0 s := h

set_option maxHeartbeats 800000 in
/-- (B) No holder. -/
theorem add_empty (F : Interp) (R M Q h1 c1 h2 c2 : Nat) (s1 s2 : ByteArray) (p : Int) (va : Value) (row : Option Nat) (i : Nat) (w : World) (hF : F.answers w.tape) (L : Lies R M Q h1 c1 h2 c2 s1 s2 p va w) (hi : i < 1024) (hz : s1.size = 0) :
    Calls Ybaf.prog 6 #[.pointer (some ⟨R, 0, none⟩), .int .i64 i, .pointer (some ⟨Q, 0, none⟩)] w (Faulted R M row p va w) := by
  obtain ⟨r0, r4, r6, f4, f6, m5, g5, q0, q1, b1, b2⟩ := L
  clear b1 b2 q1 g5 f6
  have lR := World.block_lt_of_cell? w _ r4
  have lM := World.block_lt_of_cell? w _ m5
  have hz' : ((s1.size : Int) == 0) = true := by simp [hz]
  rw [hz] at q0
  clear hz' hz
  go_enter Ybaf.func6, Ybaf.ntmps6
  go_wp2_with fail
  refine (errorf1 F (i + 1) w.heap.size _ (by exact hF) ?_).mono ?_
  · simp [go_sem]
  rintro e w1 ⟨rfl, t, rfl⟩
  go_wp2
  go_returns
  refine ⟨rfl, ((((Kept.refl lR lM).setCell R 4 (.inl ⟨rfl, rfl⟩) _).alloc _).alloc _).drew, ⟨⟨w.heap.size + 1, 0, none⟩, ?_⟩, ?_, ?_⟩
  · simp [go_sem, lR, r4]
  · simp [go_sem, lR, r6]
  · simp [go_sem, lM, m5]

set_option maxHeartbeats 1600000 in
/-- (C) The shares are no figure. -/
theorem add_bad (F : Interp) (R M Q h1 c1 h2 c2 : Nat) (s1 s2 : ByteArray) (p : Int) (va : Value) (row : Option Nat) (i : Nat) (w : World) (hF : F.answers w.tape) (L : Lies R M Q h1 c1 h2 c2 s1 s2 p va w) (_hi : i < 1024)
    (hz : s1.size ≠ 0) (hs2 : s2.size ≤ maxLen) (hno : okB s2.data.toList = false) (hRQ : R ≠ Q) :
    Calls Ybaf.prog 6 #[.pointer (some ⟨R, 0, none⟩), .int .i64 i, .pointer (some ⟨Q, 0, none⟩)] w (Faulted R M row p va w) := by
  obtain ⟨r0, r4, r6, f4, f6, m5, g5, q0, q1, b1, b2⟩ := L
  have B1 : Hid (Lib.Bytes w h1 0 s1) := b1
  have B2 : Hid (Lib.Bytes w h2 0 s2) := b2
  clear b1 b2
  have lR := World.block_lt_of_cell? w _ r4
  have lM := World.block_lt_of_cell? w _ m5
  have lQ : Q < w.heap.size := World.block_lt_of_cell? w _ q0
  have hz' : ((s1.size : Int) == 0) = false := by rw [beq_eq_false_iff_ne]; omega
  clear hz
  have W := whole_any h2 c2 s2 w hs2 B2.out
  rw [hno] at W
  have HW := W
  clear W
  replace HW : Hid _ := HW
  go_enter Ybaf.func6, Ybaf.ntmps6
  go_wp2_with fail
  refine Calls.mono HW.out ?_
  rintro e w1 ⟨rfl, rfl⟩
  go_wp2_with fail
  go_region_held3 (fun w' => w'.cell? ⟨Q, 0, none⟩ = some (.slice (some ⟨h1, 0, none⟩) s1.size c1) ∧ w'.cell? ⟨Q, 1, none⟩ = some (.slice (some ⟨h2, 0, none⟩) s2.size c2))
    (simp [go_sem, q0, q1, lQ, hRQ])
    (first | (go_at_call 9; refine (errorf2 F (IntKind.i64.wrap (i + 1)) 9007199254740991 w1.heap.size h1 c1 h2 c2 s1 s2 _ (by exact hF) ?_ ?_ ?_ ?_ ?_ ?_).mono ?_; (go_simp); (go_simp); (go_simp); (go_simp); (exact bytes_drew (bytes_alloc B1.out _)); (exact bytes_drew (bytes_alloc B2.out _)); rintro e w2 ⟨rfl, t, rfl⟩))
  go_wp2
  go_returns
  refine ⟨rfl, (((((Kept.refl lR lM).setCell R 4 (.inl ⟨rfl, rfl⟩) _).alloc _).alloc _).drew).drew, ⟨⟨w1.heap.size + 1, 0, none⟩, ?_⟩, ?_, ?_⟩
  · simp [go_sem, lR, r4]
  · simp [go_sem, lR, r6]
  · simp [go_sem, lM, m5]

set_option maxHeartbeats 1600000 in
/-- (D) Too many shares in all. -/
theorem add_over (F : Interp) (R M Q h1 c1 h2 c2 : Nat) (s1 s2 : ByteArray) (p : Int) (va : Value) (row : Option Nat) (i : Nat) (w : World) (hF : F.answers w.tape) (L : Lies R M Q h1 c1 h2 c2 s1 s2 p va w) (hi : i < 1024)
    (hz : s1.size ≠ 0) (hs2 : s2.size ≤ maxLen) (v : Nat) (hok : okB s2.data.toList = true) (hv : wv s2.data.toList = v) (hv1 : v ≤ 9007199254740991) (hp0 : 0 ≤ p) (hp1 : p ≤ 9007199254740991) (hov : 9007199254740991 < p + v) (hRh : R ≠ h1) :
    Calls Ybaf.prog 6 #[.pointer (some ⟨R, 0, none⟩), .int .i64 i, .pointer (some ⟨Q, 0, none⟩)] w (Faulted R M row (p + v) va w) := by
  obtain ⟨r0, r4, r6, f4, f6, m5, g5, q0, q1, b1, b2⟩ := L
  have B1 : Hid (Lib.Bytes w h1 0 s1) := b1
  have lR := World.block_lt_of_cell? w _ r4
  have lM := World.block_lt_of_cell? w _ m5
  have lQ : Q < w.heap.size := World.block_lt_of_cell? w _ q0
  have hz' : ((s1.size : Int) == 0) = false := by rw [beq_eq_false_iff_ne]; omega
  clear hz
  have W := whole_any h2 c2 s2 w hs2 b2
  rw [hok, hv] at W
  clear hok hv b1 b2
  have HW := W
  clear W
  replace HW : Hid _ := HW
  go_enter Ybaf.func6, Ybaf.ntmps6
  go_wp2_with fail
  refine Calls.mono HW.out ?_
  rintro e w1 ⟨rfl, rfl⟩
  go_wp2_with fail
  refine (errorf3 F (i + 1) 9007199254740991 w1.heap.size h1 c1 s1 _ (by exact hF) ?_ ?_ ?_ ?_).mono ?_
  · simp [go_sem]
  · simp [go_sem]
  · simp [go_sem]
  · exact bytes_alloc (bytes_setCell B1.out hRh _) _
  rintro e w2 ⟨rfl, t, rfl⟩
  go_wp2
  go_returns
  refine ⟨rfl, (((((Kept.refl lR lM).setCell R 6 (.inr (.inl ⟨rfl, rfl⟩)) _).setCell R 4 (.inl ⟨rfl, rfl⟩) _).alloc _).alloc _).drew, ⟨⟨w1.heap.size + 1, 0, none⟩, ?_⟩, ?_, ?_⟩
  · simp [go_sem, lR, r4]
  · simp [go_sem, lR, r6]
  · simp [go_sem, lM, m5]
end Go.Proofs.YbulkbfaiFmt
