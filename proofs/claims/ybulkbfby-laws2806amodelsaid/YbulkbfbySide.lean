/-
  THE WALKS OF 'sim.side' (function 9) and 'zzs2806agrp' (function 6): both tell one bit. By an AI agent.
-/
import Derived.Test.YbulkbfbyRows
import Derived.WalkKit
import Derived.WalkSpells
import Derived.Handy
import Derived.WalkSmall
namespace Go.Proofs.Ybulkbfby
open Go.RowKit

theorem ret_int {k : IntKind} {a b : Int} (h : a = b) : Ending.returned (.int k a) = .returned (.int k b) := by rw [h]

/-- The bit of node i in the split sp. -/
def bitOf (sp i : Int) : Bool := decide (1 ≤ i) && decide (i ≤ 64) && sp.toNat.testBit (i.toNat - 1)
/-- .. as a number. -/
def bitN (sp i : Int) : Int := if bitOf sp i then 1 else 0
theorem bitN_eq (sp i j : Int) : (bitN sp i == bitN sp j) = (bitOf sp i == bitOf sp j) := by
  unfold bitN
  cases bitOf sp i <;> cases bitOf sp j <;> rfl

theorem side_plain (sp i : Int) (h0 : 0 ≤ sp) (h1 : sp ≤ 18446744073709551615) (hi : 1 ≤ i) : bits BinOp.and IntKind.u64 (sp / 2 ^ min (i.toNat - 1) 64) 1 = bitN sp i := by
  obtain ⟨s, rfl⟩ := Int.eq_ofNat_of_zero_le h0
  have hpos : (0 : Int) < 2 ^ min (i.toNat - 1) 64 := Int.pow_pos (by decide)
  have hd : (s : Int) / 2 ^ min (i.toNat - 1) 64 = ((s / 2 ^ min (i.toNat - 1) 64 : Nat) : Int) := by
    rw [Int.natCast_ediv, Int.natCast_pow]
    rfl
  have hle : s / 2 ^ min (i.toNat - 1) 64 ≤ s := Nat.div_le_self _ _
  have hq : ∀ q : Nat, q ≤ s → (0 : Int) ≤ (q : Int) ∧ (q : Int) ≤ 18446744073709551615 := fun q hq => ⟨by omega, by omega⟩
  rw [hd, and_one_u64 _ (hq _ hle).1 (hq _ hle).2]
  unfold bitN bitOf
  by_cases hb : i ≤ 64
  · rw [Nat.min_eq_left (by omega)]
    have ht := Nat.testBit_eq_decide_div_mod_eq (x := s) (i := i.toNat - 1)
    simp only [hi, hb, decide_true, Bool.true_and, Int.toNat_natCast, ht]
    generalize s / 2 ^ (i.toNat - 1) = q
    by_cases hm : q % 2 = 1
    · simp only [hm, decide_true, if_true]
      omega
    · simp only [hm, decide_false, Bool.false_eq_true, if_false]
      omega
  · rw [Nat.min_eq_right (by omega)]
    simp only [hb, decide_false, Bool.and_false, Bool.false_and, Bool.false_eq_true, if_false]
    have : s / 2 ^ 64 = 0 := Nat.div_eq_of_lt (by have : (2 : Nat) ^ 64 = 18446744073709551616 := by decide
                                                  omega)
    rw [this]
    rfl

theorem grp_plain (sp i : Int) (h0 : 0 ≤ sp) (h1 : sp ≤ 18446744073709551615) (hi : 0 < i) (hb : i ≤ 64) : (bits BinOp.and IntKind.u64 sp (IntKind.u64.wrap (2 ^ (i.toNat - 1))) != 0) = bitOf sp i := by
  obtain ⟨s, rfl⟩ := Int.eq_ofNat_of_zero_le h0
  have hlt : 2 ^ (i.toNat - 1) < 18446744073709551616 := by
    have h : 2 ^ (i.toNat - 1) ≤ 2 ^ 63 := Nat.pow_le_pow_right (by decide) (by omega)
    have : (2 : Nat) ^ 63 = 9223372036854775808 := by decide
    omega
  have hw : IntKind.u64.wrap (2 ^ (i.toNat - 1)) = ((2 ^ (i.toNat - 1) : Nat) : Int) := by
    rw [IntKind.wrap_u64, show (2 : Int) ^ (i.toNat - 1) = ((2 ^ (i.toNat - 1) : Nat) : Int) by rw [Int.natCast_pow]; rfl]
    generalize 2 ^ (i.toNat - 1) = q at hlt
    omega
  rw [hw, bits_and_u64_nat s _ (by omega) hlt]
  have h1i : 1 ≤ i := by omega
  unfold bitOf
  simp only [h1i, hb, decide_true, Bool.true_and, Int.toNat_natCast]
  generalize i.toNat - 1 = m
  cases ht : s.testBit m
  · have hz : s &&& 2 ^ m = 0 := by
      apply Nat.eq_of_testBit_eq
      intro j
      rw [Nat.testBit_and, Nat.testBit_two_pow, Nat.zero_testBit]
      by_cases hj : m = j
      · subst hj
        simp [ht]
      · simp [hj]
    rw [hz]
    rfl
  · have hz : s &&& 2 ^ m ≠ 0 := by
      intro hz
      have h := congrArg (fun x => x.testBit m) hz
      simp [Nat.testBit_and, ht] at h
    rw [bne_iff_ne]
    generalize s &&& 2 ^ m = q at hz
    omega

theorem side_any (sp i : Int) (w : World) (h0 : 0 ≤ sp) (h1 : sp ≤ 18446744073709551615) (hi : 0 ≤ i) (hi' : i ≤ 70000) :
    Calls Yba.prog 9 #[.int .u64 sp, .int .i64 i] w fun e w' => e = .returned (.int .u64 (bitN sp i)) ∧ w' = w := by
  by_cases hz : i = 0
  · subst hz
    go_enter Yba.func9, Yba.ntmps9
    go_wp2
    go_ret
    exact ⟨rfl, rfl⟩
  · have hz' : (i == 0) = false := by rw [beq_eq_false_iff_ne]; exact hz
    have hp : 1 ≤ i := by omega
    clear hz
    have HP : Hid (bits BinOp.and IntKind.u64 (sp / 2 ^ min (i.toNat - 1) 64) 1 = bitN sp i) := side_plain sp i h0 h1 hp
    go_enter Yba.func9, Yba.ntmps9
    go_wp2
    go_ret
    exact ⟨ret_int HP.out, rfl⟩

theorem grp_any (sp i : Int) (w : World) (h0 : 0 ≤ sp) (h1 : sp ≤ 18446744073709551615) (hi : 0 ≤ i) (hi' : i ≤ 70000) :
    Calls Yba.prog 6 #[.int .u64 sp, .int .i64 i] w fun e w' => e = .returned (.int .i64 (bitN sp i)) ∧ w' = w := by
  by_cases hz : i ≤ 0
  · have HB : Hid (bitN sp i = 0) := by
      show _ = _
      have : ¬ 1 ≤ i := by omega
      simp [bitN, bitOf, this]
    go_enter Yba.func6, Yba.ntmps6
    go_wp2
    go_ret
    exact ⟨ret_int HB.out.symm, rfl⟩
  · by_cases hb : 64 < i
    · have HB : Hid (bitN sp i = 0) := by
        show _ = _
        have : ¬ i ≤ 64 := by omega
        simp [bitN, bitOf, this]
      go_enter Yba.func6, Yba.ntmps6
      go_wp2
      go_ret
      exact ⟨ret_int HB.out.symm, rfl⟩
    · have hg := grp_plain sp i h0 h1 (by omega) (by omega)
      cases hbit : bitOf sp i with
      | true =>
        rw [hbit] at hg
        have HB : Hid (bitN sp i = 1) := by show _ = _; simp [bitN, hbit]
        clear hbit
        go_enter Yba.func6, Yba.ntmps6
        go_wp2
        go_ret
        exact ⟨ret_int HB.out.symm, rfl⟩
      | false =>
        rw [hbit] at hg
        have HB : Hid (bitN sp i = 0) := by show _ = _; simp [bitN, hbit]
        clear hbit
        go_enter Yba.func6, Yba.ntmps6
        go_wp2
        go_ret
        exact ⟨ret_int HB.out.symm, rfl⟩
end Go.Proofs.Ybulkbfby
