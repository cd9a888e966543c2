/-
  THE WALK OF THE LAW (function 3): an earlier fault; no rows; too many rows. By an AI agent.
-/
import Derived.Test.YbulkbfaiFmtLaw
import Derived.LaidEql
set_option linter.unusedSimpArgs false
namespace Go.Proofs.YbulkbfaiFmt
open Go.RowKit Go.Extern.Stop Go.Stop Go.Extern

set_option maxRecDepth 100000 in
theorem law_many (start : Int) (pre : Bool) (ao : Option Addr) (len cap : Nat) (w : World) (hlen : 1024 < len) :
    Calls Ybaf.prog 3 #[.int .u64 start, .bool pre, .slice ao len cap] w fun e w' => e = .returned (.bool true) ∧ Below w.heap.size w w' := by
  go_enter Ybaf.func3, Ybaf.ntmps3
  go_wp2
  go_ret
  exact ⟨rfl, Below.refl _ _⟩

set_option maxHeartbeats 1600000 in
set_option maxRecDepth 100000 in
theorem law_none_plain (start : Int) (ao : Option Addr) (cap : Nat) (w : World) (h0 : 0 ≤ start) (h1 : start ≤ 18446744073709551615) :
    Calls Ybaf.prog 3 #[.int .u64 start, .bool false, .slice ao 0 cap] w fun e w' => e = .returned (.bool true) ∧ Below w.heap.size w w' := by
  have hs31 : ∀ (w : World) (a : Option Addr) (n c n' c' : Nat), (binOp .neq 31 (.slice a n c) (.slice none n' c')).run Ybaf.prog w = .ok (.bool (!a.isNone)) w := fun w a n c n' c' => run_neq_slice_nil_any w 31 _ a n c n' c' Ybaf.underlying31
  have hs29 : ∀ (w : World) (a : Option Addr) (n c n' c' : Nat), (binOp .neq 29 (.slice a n c) (.slice none n' c')).run Ybaf.prog w = .ok (.bool (!a.isNone)) w := fun w a n c n' c' => run_neq_slice_nil_any w 29 _ a n c n' c' Ybaf.underlying29
  have hm39 : ∀ (w : World) (r : Option Nat), (binOp .neq 39 (.map r) (.map none)).run Ybaf.prog w = .ok (.bool (!r.isNone)) w := fun w r => run_neq_map_nil w 39 _ _ r Ybaf.underlying39
  go_enter Ybaf.func3, Ybaf.ntmps3
  go_wp2
  refine wp_loop_rounds 1 ?_
  rw [rounds_succ]
  go_wp2
  refine wp_loop_rounds 1 ?_
  rw [rounds_succ]
  go_wp2
  go_ret
  exact ⟨rfl, by go_grown⟩

/-- errors.New. -/
theorem new_any (s : ByteArray) (w : World) : Calls Ybaf.prog 4 #[.string s] w fun e w' => e = .returned (.iface 61 (.pointer (some ⟨w.heap.size, 0, none⟩))) ∧ w' = w.alloc (.cells #[.string s] 63) := by
  go_enter Ybaf.func4, Ybaf.ntmps4
  go_wp2
  go_ret
  exact ⟨rfl, rfl⟩

/-- An error is the same as itself. -/
theorem same_err (a : Addr) (w : World) : (binOp .neq 38 (.iface 61 (.pointer (some a))) (.iface 61 (.pointer (some a)))).run Ybaf.prog w = .ok (.bool false) w := by
  have h61 : Ybaf.prog.info? 61 = some Ybaf.t61 := by kernel_rfl
  have c61 : Ybaf.t61.comparable = true := by kernel_rfl
  have h63 : Ybaf.prog.info? 63 = some Ybaf.t63 := by kernel_rfl
  have h := run_equalIn_iface_ptr_same (P := Ybaf.prog) w 9998 (ti := 38) (tp := 61) (te := 63) a Ybaf.underlying38 Ybaf.underlying61 h61 c61 h63
  simp only [binOp]
  simp [Op.equal, Op.maxDepth, h]

set_option maxHeartbeats 1600000 in
set_option maxRecDepth 100000 in
theorem law_none_pre (start : Int) (ao : Option Addr) (cap : Nat) (w : World) (h0 : 0 ≤ start) (h1 : start ≤ 18446744073709551615) :
    Calls Ybaf.prog 3 #[.int .u64 start, .bool true, .slice ao 0 cap] w fun e w' => e = .returned (.bool true) ∧ Below w.heap.size w w' := by
  have hs31 : ∀ (w : World) (a : Option Addr) (n c n' c' : Nat), (binOp .neq 31 (.slice a n c) (.slice none n' c')).run Ybaf.prog w = .ok (.bool (!a.isNone)) w := fun w a n c n' c' => run_neq_slice_nil_any w 31 _ a n c n' c' Ybaf.underlying31
  have hs29 : ∀ (w : World) (a : Option Addr) (n c n' c' : Nat), (binOp .neq 29 (.slice a n c) (.slice none n' c')).run Ybaf.prog w = .ok (.bool (!a.isNone)) w := fun w a n c n' c' => run_neq_slice_nil_any w 29 _ a n c n' c' Ybaf.underlying29
  have hm39 : ∀ (w : World) (r : Option Nat), (binOp .neq 39 (.map r) (.map none)).run Ybaf.prog w = .ok (.bool (!r.isNone)) w := fun w r => run_neq_map_nil w 39 _ _ r Ybaf.underlying39
  have hsame := same_err
  go_enter Ybaf.func3, Ybaf.ntmps3
  go_wp2_with (go_at_call 4; refine (new_any _ _).mono ?_; rintro e w1 ⟨rfl, rfl⟩)
  refine wp_loop_rounds 1 ?_
  rw [rounds_succ]
  go_wp2
  refine wp_loop_rounds 1 ?_
  rw [rounds_succ]
  go_wp2
  go_ret
  exact ⟨rfl, by go_grown⟩

/-- An earlier fault: nothing is taken in. -/
theorem st_pre (w : World) (p : Int) (t : ByteArray) : St w.heap.size true p (.slice none 0 0) (.slice none 0 0) [] w
    (((w.alloc (.cells #[.string ⟨#[]⟩, .int .i64 0, .bool false, .int .i64 0, .slice none 0 0, .slice none 0 0, .slice none 0 0, .slice none 0 0, .pointer none] 35)).alloc
      (.cells #[.pointer (some ⟨w.heap.size, 0, none⟩), .bool false, .bool false, .nilIface, .iface 61 (.pointer (some ⟨w.heap.size + 1 + 1, 0, none⟩)), .nilIface, .int .u64 p, .map none, .slice none 0 0, .slice none 0 0, .slice none 0 0, .bool false, .slice none 0 0, .slice none 0 0, .slice none 0 0] 47)).alloc
      (.cells #[.string t] 63)) := by
  refine ⟨?_, by simp, ?_, ?_, ?_, ?_, ?_, ?_, fun e => (by cases e), fun _ => ⟨⟨w.heap.size + 1 + 1, 0, none⟩, ?_⟩, ?_, ?_, ?_, ?_, ?_, fun e => (by cases e), World.ownsRow_nil _ _ _ _, World.ownsRow_nil _ _ _ _, fun g hg => (by cases hg)⟩
  · exact (((Below.refl _ w).alloc (Nat.le_refl _) _).alloc (by simp) _).alloc (by simp; omega) _
  all_goals simp [go_sem]

set_option maxHeartbeats 3200000 in
set_option maxRecDepth 100000 in
theorem law_pre (start : Int) (b off len cap : Nat) (w : World) (h0 : 0 ≤ start) (h1 : start ≤ 18446744073709551615) (hlen : len ≤ 1024) (hb : b < w.heap.size)
    (hrow : ∀ k, k < len → ∃ holder raw kind n, RowAt b off k holder raw kind n w) :
    Calls Ybaf.prog 3 #[.int .u64 start, .bool true, .slice (some ⟨b, off, none⟩) len cap] w fun e w' => e = .returned (.bool true) ∧ Below w.heap.size w w' := by
  have HR : Hid (∀ k, k < len → ∃ holder raw kind n, RowAt b off k holder raw kind n w) := hrow
  clear hrow
  have hs31 : ∀ (w : World) (a : Option Addr) (n c n' c' : Nat), (binOp .neq 31 (.slice a n c) (.slice none n' c')).run Ybaf.prog w = .ok (.bool (!a.isNone)) w := fun w a n c n' c' => run_neq_slice_nil_any w 31 _ a n c n' c' Ybaf.underlying31
  have hs29 : ∀ (w : World) (a : Option Addr) (n c n' c' : Nat), (binOp .neq 29 (.slice a n c) (.slice none n' c')).run Ybaf.prog w = .ok (.bool (!a.isNone)) w := fun w a n c n' c' => run_neq_slice_nil_any w 29 _ a n c n' c' Ybaf.underlying29
  have hm39 : ∀ (w : World) (r : Option Nat), (binOp .neq 39 (.map r) (.map none)).run Ybaf.prog w = .ok (.bool (!r.isNone)) w := fun w r => run_neq_map_nil w 39 _ _ r Ybaf.underlying39
  have hsame := same_err
  go_enter Ybaf.func3, Ybaf.ntmps3
  go_wp2_with (go_at_call 4; refine (new_any _ _).mono ?_; rintro e w1 ⟨rfl, rfl⟩)
  go_loopw [10, 11, 12, 43] (fun e q vw i wr => ∃ k : Nat, k ≤ len ∧ i = .int .i64 k ∧ e = .bool true ∧ q = .int .u64 (start % 9007199254740992) ∧ vw = .slice none 0 0 ∧ St w.heap.size true (start % 9007199254740992) (.slice none 0 0) (.slice none 0 0) [] w wr ∧ wr.cell? ⟨w.heap.size + 1, 4, none⟩ = some (.iface 61 (.pointer (some ⟨w.heap.size + 1 + 1, 0, none⟩))))
    (fun _ _ _ i _ => len - (intOf i).toNat)
  case atStart => exact ⟨0, Nat.zero_le _, rfl, rfl, rfl, rfl, st_pre w _ _, by simp [go_sem]⟩
  case round =>
    obtain ⟨k, hk, rfl, rfl, rfl, rfl, hst, r4⟩ := hrel
    have HS : Hid (St w.heap.size true (start % 9007199254740992) (.slice none 0 0) (.slice none 0 0) [] w wr) := hst
    clear hst
    by_cases hlt : k < len
    · obtain ⟨holder, raw, kind, n, hR⟩ := HR.out k hlt
      obtain ⟨c0, c1, c2, c3, k0, k1, n0, n1, rs⟩ := hR.later HS.out.below hb
      clear hR
      go_wp2_with fail
      refine (text_any holder raw kind n _ k0 k1 n0 n1).mono ?_
      rintro e w1 ⟨⟨s, rfl, hs⟩, hb1⟩
      clear c0 c1 c2 c3 k0 k1 n0 n1
      obtain ⟨ca, w2, hcv1, sz2, bl2, by2⟩ := conv w1 holder
      obtain ⟨cb, w3, hcv2, sz3, bl3, by3⟩ := conv w2 s
      have hq1 : w1.cell? ⟨wr.heap.size, 0, none⟩ = some (.string holder) := (hb1.cell (p := ⟨wr.heap.size, 0, none⟩) (by simp)).trans (by simp [go_sem])
      have sz1 : wr.heap.size < w1.heap.size := by have := hb1.size; simp at this; omega
      have B1 : Hid (Below wr.heap.size wr w1) := ((Below.refl _ wr).alloc (Nat.le_refl _) _).trans (hb1.mono (by simp))
      have B3 : Hid (Below w1.heap.size w1 w3) := bl2.trans (bl3.mono (by omega))
      have Z2 : Hid (w2.heap.size = w1.heap.size + 1) := sz2
      have Z3 : Hid (w3.heap.size = w2.heap.size + 1) := sz3
      clear by2 by3 sz2 sz3 bl2 bl3 hb1
      go_wp2_with fail
      obtain ⟨w4, hw4⟩ : ∃ w4, w4 = w3.alloc (.cells #[.slice (some ⟨w1.heap.size, 0, none⟩) holder.size ca, .slice (some ⟨w2.heap.size, 0, none⟩) s.size cb, .slice none 0 0] 54) := ⟨_, rfl⟩
      rw [← hw4]
      have B4 : Below wr.heap.size wr w4 := by rw [hw4]; exact (B1.out.trans (B3.out.mono (by omega))).alloc (by have := Z2.out; have := Z3.out; omega) _
      have r44 : w4.cell? ⟨w.heap.size + 1, 4, none⟩ = some (.iface 61 (.pointer (some ⟨w.heap.size + 1 + 1, 0, none⟩))) := (B4.cell (p := ⟨w.heap.size + 1, 4, none⟩) (by have := HS.out.size; simp only; omega)).trans r4
      have ST : Hid (St w.heap.size true (start % 9007199254740992) (.slice none 0 0) (.slice none 0 0) [] w w4) := HS.out.later B4
      clear hw4 hcv1 hcv2 B3 B1 hq1 HS r4
      refine (add_stop (w.heap.size + 1) k _ 61 _ w4 r44).mono ?_
      rintro e w5 ⟨rfl, rfl⟩
      go_wp2
      go_roundw
      case rel => exact ⟨k + 1, by omega, by go_num, rfl, rfl, rfl, ST.out, r44⟩
      case measure => simp [intOf]; omega
    · have m4 := HS.out.m4
      have m5 := HS.out.m5
      have m6 := HS.out.m6
      have r3 := HS.out.r3
      have r5 := HS.out.r5
      have r6 := HS.out.r6
      have r7 := HS.out.r7
      have HB : Hid (Below w.heap.size w wr) := HS.out.below
      clear HS
      go_wp2
      refine wp_loop_rounds 1 ?_
      rw [rounds_succ]
      go_wp2
      go_ret
      exact ⟨rfl, HB.out⟩
end Go.Proofs.YbulkbfaiFmt
