/-
  THE WALKS OF 'meeting.zzs2803adec' (function 8) and 'zzs2803atext' (function 5): each hands back some string, and turns nothing old. By an AI agent.
-/
import Derived.Test.YbulkbfaiFmtParse
import Derived.Laws.IdiomStrings
namespace Go.Proofs.YbulkbfaiFmt
open Go.RowKit

theorem size_fold (ns : List Int) (r : ByteArray) : (ns.foldl (fun r n => r.push (UInt8.ofNat n.toNat)) r).size = r.size + ns.length := by
  induction ns generalizing r with
  | nil => simp
  | cons n ns ih => simp only [List.foldl_cons, ih, List.length_cons, ByteArray.size_push]; omega

/-- 'string(buf[k:])', buf a row of bytes. -/
theorem run_tail (w : World) (ns : List Int) (k : Nat) (cap : Nat) : ∃ s : ByteArray, s.size = ns.length - k ∧
    (convert 40 9 (.slice (some ⟨w.heap.size, k, none⟩) (ns.length - k) cap)).run Ybaf.prog (w.alloc (.cells (ns.map (Value.int .u8)).toArray 67)) = .ok (.string s) (w.alloc (.cells (ns.map (Value.int .u8)).toArray 67)) := by
  refine ⟨(ns.drop k).foldl (fun r n => r.push (UInt8.ofNat n.toNat)) ByteArray.empty, by rw [size_fold]; simp, ?_⟩
  rw [run_convert_bytes_string _ 40 9 5 _ _ _ Ybaf.underlying40 Ybaf.underlying5 Ybaf.underlying9]
  have hl := run_loadCells_list (P := Ybaf.prog) (w.alloc (.cells (ns.map (Value.int .u8)).toArray 67)) ⟨w.heap.size, k, none⟩ ((ns.drop k).map (Value.int .u8)) (fun j v hj => by
    rw [show (⟨w.heap.size, k, none⟩ : Addr).add j = ⟨w.heap.size, k + j, none⟩ by simp [Addr.add], World.cell?_alloc_at _ _ _ _ rfl]
    rw [List.getElem?_map, List.getElem?_drop] at hj
    simpa using hj)
  rw [List.length_map, List.length_drop] at hl
  exact run_bytesToString _ _ _ _ _ hl

/-- 'buf[k:]', buf a variable of 24 bytes. -/
theorem run_cut (b m : Nat) (hm : m < 24) (w : World) : (Instr.sliceAt 67 (.pointer (some ⟨b, 0, none⟩)) (some (.int .i64 (m : Int))) none none).run Ybaf.prog w = .ok (.slice (some ⟨b, m, none⟩) (24 - m) (24 - m)) w := by
  have h24 : Ybaf.prog.arrayLen 67 = 24 := by kernel_rfl
  have he : Ybaf.prog.elem 67 = 5 := by kernel_rfl
  have hsz : (Go.sizeOf 5).run Ybaf.prog w = .ok 1 w := by kernel_rfl
  rw [run_sliceAt_array_l w 67 _ (by rw [h24, he]; exact Ybaf.underlying67) .i64 (m : Int) (by omega) (by rw [h24]; omega), h24, he, hsz]
  simp [Result.andThen, slicedAt, Addr.add, show ¬ 24 = m by omega]
  omega

set_option maxHeartbeats 800000 in
theorem dec_any (v : Int) (w : World) (h0 : 0 ≤ v) (h1 : v ≤ 18446744073709551615) :
    Calls Ybaf.prog 8 #[.int .u64 v] w fun e w' => (∃ s : ByteArray, e = .returned (.string s) ∧ s.size ≤ 24) ∧ Below w.heap.size w w' := by
  by_cases hz : v = 0
  · subst hz
    go_enter Ybaf.func8, Ybaf.ntmps8
    go_wp2
    go_ret
    exact ⟨⟨_, rfl, by decide⟩, Below.refl _ _⟩
  · have hz' : (v == 0) = false := by rw [beq_eq_false_iff_ne]; exact hz
    have hpos : 0 < v := by omega
    clear hz
    go_enter Ybaf.func8, Ybaf.ntmps8
    go_wp2
    go_loopw [0, 4] (fun x k wr => ∃ (n : Nat) (m : Nat) (ns : List Int), x = .int .u64 n ∧ k = .int .i64 (m : Nat) ∧ 4 ≤ m ∧ m ≤ 24 ∧ Hid (n < 10 ^ (m - 4)) ∧ n ≤ 18446744073709551615 ∧ (m = 24 → 0 < n) ∧ ns.length = 24 ∧ wr = w.alloc (.cells (ns.map (Value.int .u8)).toArray 67)) (fun x _ _ => (intOf x).toNat)
    case atStart =>
      refine ⟨v.toNat, 24, List.replicate 24 0, ?_, rfl, by omega, by omega, ?_, by omega, fun _ => by omega, rfl, rfl⟩
      · exact congrArg (Value.int .u64) (by omega)
      · show v.toNat < 10 ^ 20
        have : (10 : Nat) ^ 20 = 100000000000000000000 := by decide
        omega
    case round =>
      obtain ⟨n, m, ns, rfl, rfl, hm4, hm24, HN, hn, hm0, hns, rfl⟩ := hrel
      by_cases hn0 : n = 0
      · subst hn0
        have hmlt : m < 24 := by
          rcases Nat.lt_or_ge m 24 with h | h
          · exact h
          · have := hm0 (by omega); omega
        obtain ⟨s, hs, hrun⟩ := run_tail w ns m (24 - m)
        rw [hns] at hrun hs
        have HS : Hid (s.size = 24 - m) := hs
        clear hs hm0 HN
        have hcut := fun W => run_cut w.heap.size m hmlt W
        go_wp2
        go_ret
        exact ⟨⟨s, rfl, by rw [HS.out]; omega⟩, (Below.refl _ _).alloc (Nat.le_refl _) _⟩
      · have hm5 : 4 < m := by
          rcases Nat.lt_or_ge 4 m with h | h
          · exact h
          · have := HN.out; rw [show m - 4 = 0 by omega] at this; simp at this; omega
        have hpn : 0 < (n : Int) := by omega
        obtain ⟨m, rfl⟩ : ∃ m', m = m' + 1 := ⟨m - 1, by omega⟩
        obtain ⟨x, hx⟩ : ∃ x, ns[m]? = some x := ⟨ns[m]'(by omega), List.getElem?_eq_getElem _⟩
        clear hm0
        go_wp2
        go_roundw
        case rel =>
          refine ⟨n / 10, m, ns.set m (48 + n % 10), congrArg (Value.int .u64) (by omega), rfl, by omega, by omega, ?_, by omega, fun h => by omega, by simp [hns], ?_⟩
          · show n / 10 < 10 ^ (m - 4)
            have := HN.out
            rw [show m + 1 - 4 = (m - 4) + 1 by omega, Nat.pow_succ] at this
            omega
          · rw [List.map_set]
        case measure => simp [intOf]; omega

/-- 'zzs2803atext': some string, no longer than 26 bytes or Raw. -/
def TextOk (raw : ByteArray) (w : World) (e : Ending) (w' : World) : Prop := (∃ s : ByteArray, e = .returned (.string s) ∧ (s.size ≤ 26 ∨ s.size ≤ raw.size)) ∧ Below w.heap.size w w'

theorem size_two (s : ByteArray) (hs : s.size ≤ 24) : (({ data := #[48, 48] } : ByteArray) ++ s).size ≤ 26 := by
  rw [ByteArray.size_append]
  have : ({ data := #[48, 48] } : ByteArray).size = 2 := rfl
  omega

set_option maxHeartbeats 800000 in
theorem text_any (holder raw : ByteArray) (kind n : Int) (w : World) (hk0 : 0 ≤ kind) (hk1 : kind ≤ 255) (hn0 : 0 ≤ n) (hn1 : n ≤ 18446744073709551615) :
    Calls Ybaf.prog 5 #[.agg #[.string holder, .int .u8 kind, .int .u64 n, .string raw]] w (TextOk raw w) := by
  have hr : kind % 4 = 0 ∨ kind % 4 = 1 ∨ kind % 4 = 2 ∨ kind % 4 = 3 := by omega
  rcases hr with h | h | h | h
  · go_enter Ybaf.func5, Ybaf.ntmps5
    go_wp2_with (go_at_call 8; refine (dec_any _ _ (by omega) (by omega)).mono ?_; rintro e w1 ⟨⟨s, rfl, hs⟩, hb⟩)
    go_ret
    exact ⟨⟨s, rfl, Or.inl (by omega)⟩, ((Below.refl _ _).alloc (Nat.le_refl _) _).trans (hb.mono (by simp))⟩
  · go_enter Ybaf.func5, Ybaf.ntmps5
    go_wp2_with (go_at_call 8; refine (dec_any _ _ (by omega) (by omega)).mono ?_; rintro e w1 ⟨⟨s, rfl, hs⟩, hb⟩)
    go_ret
    exact ⟨⟨s, rfl, Or.inl (by omega)⟩, ((Below.refl _ _).alloc (Nat.le_refl _) _).trans (hb.mono (by simp))⟩
  · go_enter Ybaf.func5, Ybaf.ntmps5
    go_wp2
    go_ret
    exact ⟨⟨_, rfl, Or.inr (Nat.le_refl _)⟩, (Below.refl _ _).alloc (Nat.le_refl _) _⟩
  · go_enter Ybaf.func5, Ybaf.ntmps5
    go_wp2_with (go_at_call 8; refine (dec_any _ _ (by omega) (by omega)).mono ?_; rintro e w1 ⟨⟨s, rfl, hs⟩, hb⟩)
    go_ret
    exact ⟨⟨_, rfl, Or.inl (size_two s hs)⟩, ((Below.refl _ _).alloc (Nat.le_refl _) _).trans (hb.mono (by simp))⟩
end Go.Proofs.YbulkbfaiFmt
