/-
  THE WALK OF 'meeting.zzs2803aparse' (function 7): it says of a string what 'whole' says of its bytes. By an AI agent.
-/
import Derived.Test.YbulkbfaiFmtWhole
import Derived.Lib.Strings
import Derived.Lib.IndexBytes
namespace Go.Proofs.YbulkbfaiFmt
open Go.RowKit

/-- What is asked of parse's answer. -/
def ParseOk (s : ByteArray) (e : Ending) : Prop := ∃ v : Int, e = .returned (.tuple #[.int .u64 v, .bool (okB s.data.toList)]) ∧ (okB s.data.toList = true → v = (wv s.data.toList : Nat))
theorem parseOk_no (s : ByteArray) (v : Int) (h : okB s.data.toList = false) : ParseOk s (.returned (.tuple #[.int .u64 v, .bool false])) :=
  ⟨v, by rw [h], by rw [h]; intro h; cases h⟩

theorem okB_empty (s : ByteArray) (h : s.size = 0) : okB s.data.toList = false := by
  have : s.data.toList.length = s.size := by simp
  cases hl : s.data.toList with
  | nil => rfl
  | cons x l => rw [hl] at this; simp at this; omega

/-- One digit more. -/
theorem step3 (s : ByteArray) (j m : Nat) (hmm : m < s.size - j) (h16 : ((s.size - j : Nat) : Int) ≤ 16) (hall : s.data.toList.all dig = true) :
    Hid (Value.int IntKind.u64 (IntKind.u64.wrap (IntKind.u64.wrap ((dv (List.take m (List.drop j s.data.toList)) 0 : Nat) * 10) + (((s.extract j s.size)[m]'(by simp; omega)).toNat - 48) % 256)) =
      Value.int IntKind.u64 (dv (List.take (m + 1) (List.drop j s.data.toList)) 0 : Nat)) := by
  have hx : m < (s.extract j s.size).size := by simp; omega
  have hl : (s.extract j s.size).data.toList = s.data.toList.drop j := by
    rw [Lib.extract_data]; exact List.take_of_length_le (by simp)
  have e1 : List.take (m + 1) (List.drop j s.data.toList) = List.take m (List.drop j s.data.toList) ++ [(s.extract j s.size)[m]] := by
    rw [← hl]; exact take_snoc _ m hx
  have hd : dig (s.extract j s.size)[m] = true := by
    have h := all_drop _ j hall
    rw [List.all_eq_true] at h
    exact h _ (by rw [← hl]; exact List.mem_iff_getElem?.2 ⟨m, get_list _ m hx⟩)
  have hs := dv_short (List.take m (List.drop j s.data.toList)) (all_take _ _ (all_drop _ _ hall)) (by simp; omega)
  show _ = _
  rw [e1, dv_snoc]
  simp only [dig, Bool.and_eq_true, decide_eq_true_eq] at hd
  refine congrArg (Value.int .u64) ?_
  simp only [IntKind.wrap_u64]
  omega

/-- The end. -/
theorem end3 (s : ByteArray) (j m : Nat) (hm : s.size - j ≤ m) (hpos : 0 < s.size) (hz : ∀ i, i < j → s.data.toList[i]? = some 48) (hall : s.data.toList.all dig = true) :
    Hid (ParseOk s (.returned (.tuple #[.int .u64 (dv (List.take m (List.drop j s.data.toList)) 0 : Nat), .bool (decide ((dv (List.take m (List.drop j s.data.toList)) 0 : Int) ≤ 9007199254740991))]))) := by
  have e1 : List.take m (List.drop j s.data.toList) = List.drop j s.data.toList := List.take_of_length_le (by simp; omega)
  have e2 := dv_zeros _ j hz
  rw [e1, ← e2]
  have hne : s.data.toList.isEmpty = false := by
    cases hl : s.data.toList with
    | nil => have : s.data.toList.length = s.size := by simp
             rw [hl] at this; simp at this; omega
    | cons x l => rfl
  by_cases h : dv s.data.toList 0 ≤ top
  · have h1 := okB_yes _ hall h
    rw [hne] at h1
    refine ⟨_, ret2 rfl ?_, fun _ => by rw [wv_yes _ hall h]⟩
    rw [h1]; unfold top at h; simp; omega
  · have h1 := okB_no _ (Or.inr (Nat.lt_of_not_le h))
    refine ⟨_, ret2 rfl ?_, fun h' => by rw [h1] at h'; cases h'⟩
    rw [h1]; unfold top at h; simp; omega

set_option maxHeartbeats 1600000 in
theorem parse_any (s : ByteArray) (w : World) (hs : s.size ≤ maxLen) :
    Calls Ybaf.prog 7 #[.string s] w fun e w' => ParseOk s e ∧ w' = w := by
  unfold maxLen at hs
  by_cases hz : s.size = 0
  · have H0 : Hid (okB s.data.toList = false) := okB_empty s hz
    have hz' : ((s.size : Int) == 0) = true := by simp [hz]
    clear hz
    go_enter Ybaf.func7, Ybaf.ntmps7
    go_wp2
    go_ret2
    exact ⟨parseOk_no s 0 H0.out, rfl⟩
  · have hz' : ((s.size : Int) == 0) = false := by rw [beq_eq_false_iff_ne]; omega
    have hpos : 0 < s.size := by omega
    clear hz
    go_enter Ybaf.func7, Ybaf.ntmps7
    go_wp2
    go_loop [4] (fun i => ∃ k : Nat, k ≤ s.size ∧ i = .int .i64 k ∧ Hid ((s.data.toList.take k).all dig = true)) (fun i => s.size - (intOf i).toNat)
    case atStart => exact ⟨0, Nat.zero_le _, rfl, rfl⟩
    case round =>
      obtain ⟨k, hk, rfl, HA⟩ := hrel
      by_cases hlt : k < s.size
      · by_cases h48 : (s[k].toNat : Int) < 48
        · have hno : Hid (okB s.data.toList = false) := okB_no _ (Or.inl (not_all s k hlt (by simp [dig]; omega)))
          go_wp2
          go_ret2
          exact ⟨parseOk_no s 0 hno.out, rfl⟩
        · by_cases h57 : 57 < (s[k].toNat : Int)
          · have hno : Hid (okB s.data.toList = false) := okB_no _ (Or.inl (not_all s k hlt (by simp [dig]; omega)))
            go_wp2
            go_ret2
            exact ⟨parseOk_no s 0 hno.out, rfl⟩
          · have hdg : Hid (dig s[k] = true) := by show _ = _; simp [dig]; omega
            go_wp2
            go_round
            case rel =>
              refine ⟨k + 1, by omega, by go_num, ?_⟩
              show _ = _
              rw [take_snoc s k hlt, List.all_append, HA.out]; simp [hdg.out]
            case measure => simp [intOf]; omega
      · have HALL : Hid (s.data.toList.all dig = true) := by have := HA.out; rwa [List.take_of_length_le (by simp; omega)] at this
        clear HA
        go_wp2
        go_loop [5] (fun i => ∃ j : Nat, j ≤ s.size ∧ i = .int .i64 j ∧ Hid (∀ i, i < j → s.data.toList[i]? = some 48)) (fun i => s.size - (intOf i).toNat)
        case atStart => exact ⟨0, Nat.zero_le _, rfl, fun i hi => by omega⟩
        case round =>
          obtain ⟨j, hj, rfl, HZ⟩ := hrel
          by_cases hgo : ∃ h : j < s.size, s[j] = 48
          · obtain ⟨hlt', h0⟩ := hgo
            have hb : ((s[j].toNat : Int) == 48) = true := by rw [h0]; rfl
            have H0 : Hid (s[j] = 48) := h0
            clear h0
            go_wp2
            go_round
            case rel =>
              refine ⟨j + 1, by omega, by go_num, ?_⟩
              intro i hi
              by_cases hij : i < j
              · exact HZ.out i hij
              · have : i = j := by omega
                subst this
                rw [get_list s i hlt', H0.out]
            case measure => simp [intOf]; omega
          · have HF : Hid (∀ c, (s.data.toList.drop j)[0]? = some c → c ≠ 48) := by
              intro c hc h
              rw [List.getElem?_drop, Nat.add_zero] at hc
              have hj' : j < s.size := by have := (List.getElem?_eq_some_iff.1 hc).1; simpa using this
              rw [get_list s j hj'] at hc
              exact hgo ⟨hj', by rw [Option.some.inj hc]; exact h⟩
            have hb : ∀ h : j < s.size, ((s[j].toNat : Int) == 48) = false := by
              intro h
              rw [beq_eq_false_iff_ne]
              intro he
              exact hgo ⟨h, UInt8.toNat_inj.1 (by show s[j].toNat = 48; omega)⟩
            have HB : Hid (∀ h : j < s.size, ((s[j].toNat : Int) == 48) = false) := hb
            clear hb hgo
            by_cases h16 : ((s.size - j : Nat) : Int) ≤ 16
            · by_cases hlt' : j < s.size
              all_goals
                try have hb := HB.out hlt'
                go_wp2
                go_loop [7, 8] (fun v i => ∃ k : Nat, k ≤ s.size - j ∧ i = .int .i64 k ∧ v = .int .u64 (dv ((s.data.toList.drop j).take k) 0)) (fun _ i => s.size - j - (intOf i).toNat)
                case atStart => exact ⟨0, Nat.zero_le _, rfl, rfl⟩
                case round =>
                  obtain ⟨m, hm, rfl, rfl⟩ := hrel
                  by_cases hmm : m < s.size - j
                  · first
                    | (exfalso; omega)
                    | (have HS := step3 s j m hmm h16 HALL.out
                       go_wp2
                       go_round
                       case rel => exact ⟨m + 1, by omega, by go_num, HS.out⟩
                       case measure => simp [intOf]; omega)
                  · have HV := end3 s j m (by omega) hpos HZ.out HALL.out
                    go_wp2
                    go_ret2
                    exact ⟨HV.out, rfl⟩
            · have hlt' : j < s.size := by omega
              have hb := HB.out hlt'
              have hno : Hid (okB s.data.toList = false) := okB_no _ (Or.inr (by
                rw [dv_zeros _ j HZ.out]
                exact dv_long _ HF.out (all_drop _ _ HALL.out) (by simp; omega)))
              go_wp2
              go_ret2
              exact ⟨parseOk_no s 0 hno.out, rfl⟩
end Go.Proofs.YbulkbfaiFmt
