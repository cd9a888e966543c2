/-
  EVERY MESSAGE AT ONCE: what phase, overheard and reaches say of it. By an AI agent.
-/
import Derived.Test.YbulkbfbyReach
namespace Go.Proofs.Ybulkbfby
open Go.RowKit

/-- Is the message overheard? -/
def ovh (k h r : Int) (pre : Bool) (hr vt : Int) : Bool := decide (hr ≠ 0) && decide (h = 1) && decide (r = 0) && (decide (k = 0) || (decide (k = 1) && pre && (vt == hr)))

theorem ovh_zero (k h r : Int) (pre : Bool) (vt : Int) : ovh k h r pre 0 vt = false := by simp [ovh]
theorem ovh_away (k h r : Int) (pre : Bool) (hr vt : Int) (hh : ¬ (h = 1 ∧ r = 0)) : ovh k h r pre hr vt = false := by
  unfold ovh
  by_cases h1 : h = 1
  · have : ¬ r = 0 := fun e => hh ⟨h1, e⟩
    simp [this]
  · simp [h1]

/-- All that is asked of a message. -/
structure Told (k h r : Int) (pre : Bool) (m : Value) : Prop where
  made : ∀ w, Calls Yba.prog 4 #[.int .u8 k, .int .u64 h, .int .u32 r, .bool pre] w fun e w' => e = .returned m ∧ w' = w
  phased : Phased m (ph (decide (k = 2) || decide (k = 3)) h r)
  hears : ∀ (S Pb Nb n : Nat) (s0 s1 s2 s3 heal hr : Int) (t : Nat) (vt : Int), Hears S Pb Nb n s0 s1 s2 s3 heal hr t vt m (ovh k h r pre hr vt)

theorem told0 (h r : Int) (pre : Bool) (r0 : 0 ≤ r) (r1 : r ≤ 4294967295) : Told 0 h r pre (.iface 70 (prop h r)) := by
  refine ⟨fun w => msg0 h r pre w, fun W => phase70 h r W r0 r1, fun S Pb Nb n s0 s1 s2 s3 heal hr t vt W N => ?_⟩
  by_cases hz : hr = 0
  · subst hz
    rw [ovh_zero]
    exact (ovh_none _ _ W N).mono fun e w' ⟨he, hw⟩ => ⟨he, by rw [hw]; exact Below.refl _ _⟩
  by_cases hh : h = 1 ∧ r = 0
  · obtain ⟨rfl, rfl⟩ := hh
    rw [show ovh 0 1 0 pre hr vt = true by simp [ovh, hz]]
    exact ovh_70 W N hz
  · rw [ovh_away _ _ _ _ _ _ hh]
    exact ovh_far70 h r W N hz hh

theorem told1 (h r : Int) (pre : Bool) (r0 : 0 ≤ r) (r1 : r ≤ 4294967295) : ∃ m, Told 1 h r pre m := by
  cases pre with
  | true =>
    refine ⟨_, fun w => msg1t h r w, fun W => phase73 1 h r W r0 r1, fun S Pb Nb n s0 s1 s2 s3 heal hr t vt W N => ?_⟩
    by_cases hz : hr = 0
    · subst hz
      rw [ovh_zero]
      exact (ovh_none _ _ W N).mono fun e w' ⟨he, hw⟩ => ⟨he, by rw [hw]; exact Below.refl _ _⟩
    by_cases hh : h = 1 ∧ r = 0
    · obtain ⟨rfl, rfl⟩ := hh
      rw [show ovh 1 1 0 true hr vt = (vt == hr) by simp [ovh, hz]]
      exact ovh_prep W N hz
    · rw [ovh_away _ _ _ _ _ _ hh]
      exact ovh_far73 1 h r W N hz hh
  | false =>
    refine ⟨_, fun w => msg1f h r w, fun W => phase73 2 h r W r0 r1, fun S Pb Nb n s0 s1 s2 s3 heal hr t vt W N => ?_⟩
    by_cases hz : hr = 0
    · subst hz
      rw [ovh_zero]
      exact (ovh_none _ _ W N).mono fun e w' ⟨he, hw⟩ => ⟨he, by rw [hw]; exact Below.refl _ _⟩
    by_cases hh : h = 1 ∧ r = 0
    · obtain ⟨rfl, rfl⟩ := hh
      rw [show ovh 1 1 0 false hr vt = false by simp [ovh]]
      exact ovh_prec W N hz
    · rw [ovh_away _ _ _ _ _ _ hh]
      exact ovh_far73 2 h r W N hz hh

theorem told2 (h r : Int) (pre : Bool) (r0 : 0 ≤ r) (r1 : r ≤ 4294967295) : Told 2 h r pre (.iface 79 (chv h r)) := by
  refine ⟨fun w => msg2 h r pre w, fun W => phase79 h r W r0 r1, fun S Pb Nb n s0 s1 s2 s3 heal hr t vt W N => ?_⟩
  by_cases hz : hr = 0
  · subst hz
    rw [ovh_zero]
    exact (ovh_none _ _ W N).mono fun e w' ⟨he, hw⟩ => ⟨he, by rw [hw]; exact Below.refl _ _⟩
  by_cases hh : h = 1 ∧ r = 0
  · obtain ⟨rfl, rfl⟩ := hh
    rw [show ovh 2 1 0 pre hr vt = false by simp [ovh]]
    exact ovh_79 W N hz
  · rw [ovh_away _ _ _ _ _ _ hh]
    exact ovh_far79 h r W N hz hh

theorem told3 (h r : Int) (pre : Bool) (r0 : 0 ≤ r) (r1 : r ≤ 4294967295) : Told 3 h r pre (.iface 81 (prop h r)) := by
  refine ⟨fun w => msg3 h r pre w, fun W => phase81 h r W r0 r1, fun S Pb Nb n s0 s1 s2 s3 heal hr t vt W N => ?_⟩
  by_cases hz : hr = 0
  · subst hz
    rw [ovh_zero]
    exact (ovh_none _ _ W N).mono fun e w' ⟨he, hw⟩ => ⟨he, by rw [hw]; exact Below.refl _ _⟩
  by_cases hh : h = 1 ∧ r = 0
  · obtain ⟨rfl, rfl⟩ := hh
    rw [show ovh 3 1 0 pre hr vt = false by simp [ovh]]
    exact ovh_81 W N hz
  · rw [ovh_away _ _ _ _ _ _ hh]
    exact ovh_far81 h r W N hz hh

theorem told_any (k h r : Int) (pre : Bool) (k0 : 0 ≤ k) (k1 : k < 4) (r0 : 0 ≤ r) (r1 : r ≤ 4294967295) : ∃ m, Told k h r pre m := by
  rcases (show k = 0 ∨ k = 1 ∨ k = 2 ∨ k = 3 by omega) with rfl | rfl | rfl | rfl
  · exact ⟨_, told0 h r pre r0 r1⟩
  · exact told1 h r pre r0 r1
  · exact ⟨_, told2 h r pre r0 r1⟩
  · exact ⟨_, told3 h r pre r0 r1⟩

/-- The split of phase k. -/
def splitOf (s0 s1 s2 s3 : Int) (k : Int) : Int := if k = 0 then s0 else if k = 1 then s1 else if k = 2 then s2 else s3

/-- Does it get there? -/
def gets (late : Bool) (h r : Int) (ov : Bool) (s0 s1 s2 s3 heal now f t : Int) : Bool :=
  decide (heal ≤ now) || ov || (bitN (splitOf s0 s1 s2 s3 (ph late h r)) f == bitN (splitOf s0 s1 s2 s3 (ph late h r)) t)

theorem ph_cases (late : Bool) (h r : Int) (r0 : 0 ≤ r) : ph late h r = 0 ∨ ph late h r = 1 ∨ ph late h r = 2 ∨ ph late h r = 3 := by
  unfold ph
  split
  · cases late <;> simp <;> omega
  · exact .inr (.inr (.inr rfl))

theorem reach_any {k h r : Int} {pre : Bool} {m : Value} (T : Told k h r pre m) {S Pb Nb n : Nat} {s0 s1 s2 s3 heal hr : Int} {t : Nat} {vt : Int} (f now : Int) (w : World) (N : Net S Pb Nb n s0 s1 s2 s3 heal hr t vt w) (r0 : 0 ≤ r)
    (u : ∀ i : Int, 0 ≤ splitOf s0 s1 s2 s3 i ∧ splitOf s0 s1 s2 s3 i ≤ 18446744073709551615) (f0 : 0 ≤ f) (f1 : f ≤ 70000) :
    Calls Yba.prog 5 #[.pointer (some ⟨S, 0, none⟩), .int .i64 f, .int .i64 t, m, .int .i64 now] w fun e w' =>
      e = .returned (.bool (gets (decide (k = 2) || decide (k = 3)) h r (ovh k h r pre hr vt) s0 s1 s2 s3 heal now f t)) ∧ Below w.heap.size w w' := by
  unfold gets
  by_cases hn : heal ≤ now
  · simp only [hn, decide_true, Bool.true_or]
    exact (reach_healed _ _ _ now w N hn).mono fun e w' ⟨he, hw⟩ => ⟨he, by rw [hw]; exact Below.refl _ _⟩
  simp only [hn, decide_false, Bool.false_or]
  cases ho : ovh k h r pre hr vt with
  | true =>
    have hh := T.hears S Pb Nb n s0 s1 s2 s3 heal hr t vt
    rw [ho] at hh
    exact reach_heard f m now w N hn hh
  | false =>
    have hh := T.hears S Pb Nb n s0 s1 s2 s3 heal hr t vt
    rw [ho] at hh
    simp only [Bool.false_or]
    have hp := T.phased
    rcases ph_cases (decide (k = 2) || decide (k = 3)) h r r0 with e | e | e | e
    · rw [e] at hp ⊢
      exact reach_split f m now w N hn hh 0 s0 (by omega) hp (fun W hW => hW.c0) (u 0).1 (u 0).2 f0 f1
    · rw [e] at hp ⊢
      exact reach_split f m now w N hn hh 1 s1 (by omega) hp (fun W hW => hW.c1) (u 1).1 (u 1).2 f0 f1
    · rw [e] at hp ⊢
      exact reach_split f m now w N hn hh 2 s2 (by omega) hp (fun W hW => hW.c2) (u 2).1 (u 2).2 f0 f1
    · rw [e] at hp ⊢
      exact reach_split f m now w N hn hh 3 s3 (by omega) hp (fun W hW => hW.c3) (u 3).1 (u 3).2 f0 f1
end Go.Proofs.Ybulkbfby
