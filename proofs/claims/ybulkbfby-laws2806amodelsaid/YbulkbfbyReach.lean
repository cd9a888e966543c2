/-
  THE WALKS OF '(*Sim).reaches' (function 5). By an AI agent.
-/
import Derived.Test.YbulkbfbyOver
import Derived.Deep.RegionWith
namespace Go.Proofs.Ybulkbfby
open Go.RowKit

theorem below_of_drew {B : Nat} {w w' : World} (h : Below B w.drew w') : Below B w w' := ⟨h.os, h.tape, h.output, h.size, h.block⟩
theorem ret_bool {a b : Bool} (h : a = b) : Ending.returned (.bool a) = .returned (.bool b) := by rw [h]

/-- No partition. -/
theorem reach_none (S : Nat) (f t m now : Value) (w : World) (h : w.cell? ⟨S, 6, none⟩ = some (.pointer none)) :
    Calls Yba.prog 5 #[.pointer (some ⟨S, 0, none⟩), f, t, m, now] w fun e w' => e = .returned (.bool true) ∧ w' = w := by
  go_enter Yba.func5, Yba.ntmps5
  go_wp2
  go_ret
  exact ⟨rfl, rfl⟩

/-- Healed. -/
theorem reach_healed {S Pb Nb n : Nat} {s0 s1 s2 s3 heal hr : Int} {t : Nat} {vt : Int} (f tv m : Value) (now : Int) (w : World) (N : Net S Pb Nb n s0 s1 s2 s3 heal hr t vt w) (hn : heal ≤ now) :
    Calls Yba.prog 5 #[.pointer (some ⟨S, 0, none⟩), f, tv, m, .int .i64 now] w fun e w' => e = .returned (.bool true) ∧ w' = w := by
  obtain ⟨sp, _, _, _, _, _, c4, _, _, _, _⟩ := N
  go_enter Yba.func5, Yba.ntmps5
  go_wp2
  go_ret
  exact ⟨rfl, rfl⟩

/-- What overheard answers, wherever the net lies so. -/
def Hears (S Pb Nb n : Nat) (s0 s1 s2 s3 heal hr : Int) (t : Nat) (vt : Int) (m : Value) (b : Bool) : Prop :=
  ∀ W, Net S Pb Nb n s0 s1 s2 s3 heal hr t vt W → Calls Yba.prog 7 #[.pointer (some ⟨S, 0, none⟩), .int .i64 t, m] W fun e w' => e = .returned (.bool b) ∧ Below W.heap.size W w'
/-- What phase answers. -/
def Phased (m : Value) (k : Int) : Prop := ∀ W, Calls Yba.prog 8 #[m] W fun e w' => e = .returned (.int .i64 k) ∧ Below W.heap.size W w'

set_option maxHeartbeats 800000 in
/-- Overheard. -/
theorem reach_heard {S Pb Nb n : Nat} {s0 s1 s2 s3 heal hr : Int} {t : Nat} {vt : Int} (f : Int) (m : Value) (now : Int) (w : World) (N : Net S Pb Nb n s0 s1 s2 s3 heal hr t vt w) (hn : ¬ heal ≤ now)
    (hh : Hears S Pb Nb n s0 s1 s2 s3 heal hr t vt m true) :
    Calls Yba.prog 5 #[.pointer (some ⟨S, 0, none⟩), .int .i64 f, .int .i64 t, m, .int .i64 now] w fun e w' => e = .returned (.bool true) ∧ Below w.heap.size w w' := by
  have HC : Hid (Calls Yba.prog 7 #[.pointer (some ⟨S, 0, none⟩), .int .i64 t, m] w fun e w' => e = .returned (.bool true) ∧ Below w.heap.size w w') := hh w N
  obtain ⟨sp, _, _, _, _, _, c4, _, _, _, _⟩ := N
  go_enter Yba.func5, Yba.ntmps5
  go_wp2_with fail
  refine Calls.mono HC.out ?_
  rintro e w1 ⟨rfl, hb1⟩
  go_wp2
  go_ret
  exact ⟨rfl, hb1⟩

set_option maxHeartbeats 800000 in
/-- By the split. -/
theorem reach_split {S Pb Nb n : Nat} {s0 s1 s2 s3 heal hr : Int} {t : Nat} {vt : Int} (f : Int) (m : Value) (now : Int) (w : World) (N : Net S Pb Nb n s0 s1 s2 s3 heal hr t vt w) (hn : ¬ heal ≤ now)
    (hh : Hears S Pb Nb n s0 s1 s2 s3 heal hr t vt m false) (k : Nat) (s : Int) (hk : k < 4) (hp : Phased m k) (hs : ∀ W, Net S Pb Nb n s0 s1 s2 s3 heal hr t vt W → W.cell? ⟨Pb, k, none⟩ = some (.int .u64 s)) (u0 : 0 ≤ s) (u1 : s ≤ 18446744073709551615) (f0 : 0 ≤ f) (f1 : f ≤ 70000) :
    Calls Yba.prog 5 #[.pointer (some ⟨S, 0, none⟩), .int .i64 f, .int .i64 t, m, .int .i64 now] w fun e w' => e = .returned (.bool (bitN s f == bitN s t)) ∧ Below w.heap.size w w' := by
  have HC : Hid (Calls Yba.prog 7 #[.pointer (some ⟨S, 0, none⟩), .int .i64 t, m] w fun e w' => e = .returned (.bool false) ∧ Below w.heap.size w w') := hh w N
  have HP : Hid (Phased m k) := hp
  have HN : Hid (Net S Pb Nb n s0 s1 s2 s3 heal hr t vt w) := N
  have HS : Hid (∀ W, Net S Pb Nb n s0 s1 s2 s3 heal hr t vt W → W.cell? ⟨Pb, k, none⟩ = some (.int .u64 s)) := hs
  obtain ⟨sp, _, _, _, _, _, c4, _, _, tn, nn⟩ := N
  clear hp hh hs
  go_enter Yba.func5, Yba.ntmps5
  go_wp2_with fail
  refine Calls.mono HC.out ?_
  rintro e w1 ⟨rfl, hb1⟩
  have HN1 : Hid (Net S Pb Nb n s0 s1 s2 s3 heal hr t vt w1) := HN.out.later hb1
  clear sp c4
  go_wp2_with fail
  have kk : (0 : Int) ≤ (k : Int) := by omega
  have kk' : (k : Int) < 4 := by omega
  go_region_with (first | (go_at_call 8; refine Calls.mono (HP.out _) ?_; rintro e w2 ⟨rfl, hb2⟩; have ck := HS.out _ (HN1.out.later (below_of_drew hb2))))
  go_wp2_with fail
  refine (side_any s f _ u0 u1 f0 f1).mono ?_
  rintro e w3 ⟨rfl, rfl⟩
  go_wp2_with fail
  refine (side_any s t _ u0 u1 (by omega) (by omega)).mono ?_
  rintro e w4 ⟨rfl, rfl⟩
  go_wp2
  go_ret
  exact ⟨rfl, hb1.trans ((below_of_drew hb2).mono hb1.size)⟩
end Go.Proofs.Ybulkbfby
