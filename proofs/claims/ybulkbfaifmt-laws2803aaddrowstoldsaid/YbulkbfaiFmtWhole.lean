/-
  THE WALK OF 'meeting.whole' (function 10): what it says of a slice whose cells are the bytes of s. By an AI agent.
-/
import Derived.Test.YbulkbfaiFmtCards
import Derived.Test.YbulkbfaiFmtPlain
import Derived.WalkKit
import Derived.WalkSpells
import Derived.Handy
import Derived.Lib.SlBytesRow
namespace Go.Proofs.YbulkbfaiFmt
open Go.RowKit

/-- What 'whole' answers. -/
def wv (l : List UInt8) : Nat := if l.all dig && decide (dv l 0 ≤ top) then dv l 0 else 0
theorem wv_yes (l : List UInt8) (h : l.all dig = true) (h' : dv l 0 ≤ top) : wv l = dv l 0 := by simp [wv, h, h']
theorem wv_no (l : List UInt8) (h : l.all dig = false ∨ top < dv l 0) : wv l = 0 := by
  rcases h with h | h
  · simp [wv, h]
  · simp [wv, Nat.not_le.2 h]
theorem okB_yes (l : List UInt8) (h : l.all dig = true) (h' : dv l 0 ≤ top) : okB l = !l.isEmpty := by simp [okB, h, h']
theorem okB_no (l : List UInt8) (h : l.all dig = false ∨ top < dv l 0) : okB l = false := by
  rcases h with h | h
  · simp [okB, h]
  · simp [okB, Nat.not_le.2 h]
theorem take_snoc (s : ByteArray) (k : Nat) (h : k < s.size) : s.data.toList.take (k + 1) = s.data.toList.take k ++ [s[k]] := by
  rw [List.take_succ_eq_append_getElem (by simpa using h)]; rfl
theorem get_list (s : ByteArray) (k : Nat) (h : k < s.size) : s.data.toList[k]? = some s[k] := by
  rw [List.getElem?_eq_getElem (by simpa using h)]; rfl
theorem not_all (s : ByteArray) (k : Nat) (h : k < s.size) (hd : dig s[k] = false) : s.data.toList.all dig = false := by
  rw [List.all_eq_false]
  exact ⟨s[k], List.mem_iff_getElem?.2 ⟨k, get_list s k h⟩, by simp [hd]⟩
theorem ret2 {k : IntKind} {a b : Int} {p q : Bool} (h : a = b) (h' : p = q) : Ending.returned (.tuple #[.int k a, .bool p]) = .returned (.tuple #[.int k b, .bool q]) := by rw [h, h']

set_option maxHeartbeats 800000 in
theorem whole_any (b cap : Nat) (s : ByteArray) (w : World) (hs : s.size ≤ maxLen) (hc : Lib.Bytes w b 0 s) :
    Calls Ybaf.prog 10 #[.slice (some ⟨b, 0, none⟩) s.size cap] w fun e w' => e = .returned (.tuple #[.int .u64 (wv s.data.toList), .bool (okB s.data.toList)]) ∧ w' = w := by
  unfold maxLen at hs
  have HC : Hid (Lib.Bytes w b 0 s) := hc
  clear hc
  go_enter Ybaf.func10, Ybaf.ntmps10
  go_wp2
  go_loop [4, 9] (fun v i => ∃ k : Nat, k ≤ s.size ∧ i = .int .i64 k ∧ v = .int .u64 (dv (s.data.toList.take k) 0) ∧ Hid ((s.data.toList.take k).all dig = true) ∧ dv (s.data.toList.take k) 0 ≤ 9007199254740991) (fun _ i => s.size - (intOf i).toNat)
  case atStart => exact ⟨0, Nat.zero_le _, rfl, rfl, rfl, Nat.zero_le _⟩
  case round =>
    obtain ⟨k, hk, rfl, rfl, HA, hv⟩ := hrel
    obtain ⟨v, hve⟩ : ∃ v, v = dv (s.data.toList.take k) 0 := ⟨_, rfl⟩
    rw [← hve] at hv ⊢
    have HV : Hid (v = dv (s.data.toList.take k) 0) := hve
    clear hve
    by_cases hlt : k < s.size
    · obtain ⟨c, hce⟩ : ∃ c : UInt8, c = s[k] := ⟨_, rfl⟩
      have hcell : w.cell? ⟨b, k, none⟩ = some (.int .u8 (c.toNat : Int)) := by have := HC.out k hlt; rw [Nat.zero_add, ← hce] at this; exact this
      have HE : Hid (c = s[k]) := hce
      clear hce
      have hsn : Hid (dv (s.data.toList.take (k + 1)) 0 = 10 * v + (c.toNat - 48)) := by show _ = _; rw [take_snoc s k hlt, dv_snoc, ← HV.out, ← HE.out]
      have hc256 := c.toNat_lt
      by_cases h48 : 48 ≤ (c.toNat : Int)
      · by_cases h57 : (c.toNat : Int) ≤ 57
        · have hdg : Hid (dig s[k] = true) := by show _ = _; rw [← HE.out]; simp [dig]; omega
          by_cases htop : 10 * (v : Int) + ((c.toNat : Int) - 48) ≤ 9007199254740991
          · go_wp2
            go_round
            case rel =>
              refine ⟨k + 1, by omega, by go_num, ?_, ?_, ?_⟩
              · rw [hsn.out]; exact congrArg (Value.int .u64) (by omega)
              · show _ = _
                rw [take_snoc s k hlt, List.all_append, HA.out]; simp [hdg.out]
              · rw [hsn.out]; omega
            case measure => simp [intOf]; omega
          · have hno : Hid (top < dv s.data.toList 0) := by
              show _ < _
              have := dv_take_le s.data.toList (k + 1) 0
              have := hsn.out
              unfold top
              omega
            go_wp2
            go_ret2
            exact ⟨ret2 (by rw [wv_no _ (Or.inr hno.out)]; rfl) (by rw [okB_no _ (Or.inr hno.out)]), rfl⟩
        · have hno : Hid (s.data.toList.all dig = false) := not_all s k hlt (by rw [← HE.out]; simp [dig]; omega)
          go_wp2
          go_ret2
          exact ⟨ret2 (by rw [wv_no _ (Or.inl hno.out)]; rfl) (by rw [okB_no _ (Or.inl hno.out)]), rfl⟩
      · have hno : Hid (s.data.toList.all dig = false) := not_all s k hlt (by rw [← HE.out]; simp [dig]; omega)
        go_wp2
        go_ret2
        exact ⟨ret2 (by rw [wv_no _ (Or.inl hno.out)]; rfl) (by rw [okB_no _ (Or.inl hno.out)]), rfl⟩
    · have hkk : k = s.size := by omega
      have ht : Hid (s.data.toList.take k = s.data.toList) := List.take_of_length_le (by simp; omega)
      have HK : Hid (k = s.size) := hkk
      clear hkk
      go_wp2
      go_ret2
      have hall : s.data.toList.all dig = true := by have := HA.out; rwa [ht.out] at this
      have hvv : v = dv s.data.toList 0 := by have := HV.out; rwa [ht.out] at this
      have htp : dv s.data.toList 0 ≤ top := by unfold top; omega
      refine ⟨ret2 (by rw [wv_yes _ hall htp, hvv]) ?_, rfl⟩
      rw [okB_yes _ hall htp]
      have : s.data.toList.length = s.size := by simp
      cases h : s.data.toList with
      | nil => rw [h] at this; simp at this; simp [← this]
      | cons x l => rw [h] at this; simp at this; simp; omega
end Go.Proofs.YbulkbfaiFmt
