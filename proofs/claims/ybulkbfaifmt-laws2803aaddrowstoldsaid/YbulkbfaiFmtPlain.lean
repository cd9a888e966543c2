/-
  THE PLAIN LAW behind LawS2803AAddRows: what 'whole' and 'zzs2803aparse' say of a list of bytes. No Go in sight. By an AI agent.
-/
import GoSem.Claims
namespace Go.Proofs.YbulkbfaiFmt

/-- A decimal digit. -/
def dig (c : UInt8) : Bool := decide (48 ≤ c.toNat) && decide (c.toNat ≤ 57)
/-- The value of the digits, begun at v. -/
def dv : List UInt8 → Nat → Nat
  | [], v => v
  | c :: l, v => dv l (10 * v + (c.toNat - 48))
/-- The largest figure. -/
def top : Nat := 9007199254740991
/-- Is it a figure? -/
def okB (l : List UInt8) : Bool := l.all dig && decide (dv l 0 ≤ top) && !l.isEmpty

theorem dv_append (l m : List UInt8) (v : Nat) : dv (l ++ m) v = dv m (dv l v) := by
  induction l generalizing v with
  | nil => rfl
  | cons c l ih => simp [dv, ih]

theorem dv_snoc (l : List UInt8) (c : UInt8) (v : Nat) : dv (l ++ [c]) v = 10 * dv l v + (c.toNat - 48) := by
  rw [dv_append]; rfl

theorem dv_ge (l : List UInt8) (v : Nat) : v ≤ dv l v := by
  induction l generalizing v with
  | nil => exact Nat.le_refl _
  | cons c l ih => have := ih (10 * v + (c.toNat - 48)); simp only [dv]; omega

theorem dv_take_le (l : List UInt8) (k : Nat) (v : Nat) : dv (l.take k) v ≤ dv l v := by
  conv => rhs; rw [← List.take_append_drop k l]
  rw [dv_append]; exact dv_ge _ _

theorem dv_pow (l : List UInt8) (v : Nat) : v * 10 ^ l.length ≤ dv l v := by
  induction l generalizing v with
  | nil => simp [dv]
  | cons c l ih =>
    have := ih (10 * v + (c.toNat - 48))
    simp only [dv, List.length_cons, Nat.pow_succ]
    refine Nat.le_trans ?_ this
    rw [Nat.mul_comm (10 ^ l.length) 10, ← Nat.mul_assoc]
    exact Nat.mul_le_mul_right _ (by omega)

theorem dv_lt (l : List UInt8) (v : Nat) (h : l.all dig = true) : dv l v < (v + 1) * 10 ^ l.length := by
  induction l generalizing v with
  | nil => simp [dv]
  | cons c l ih =>
    simp only [List.all_cons, Bool.and_eq_true] at h
    have hc := h.1
    simp only [dig, Bool.and_eq_true, decide_eq_true_eq] at hc
    have := ih (10 * v + (c.toNat - 48)) h.2
    simp only [dv, List.length_cons, Nat.pow_succ]
    refine Nat.lt_of_lt_of_le this ?_
    rw [Nat.mul_comm (10 ^ l.length) 10, ← Nat.mul_assoc]
    exact Nat.mul_le_mul_right _ (by omega)

/-- Leading noughts count for nothing. -/
theorem dv_zeros (l : List UInt8) (j : Nat) (h : ∀ i, i < j → l[i]? = some 48) : dv l 0 = dv (l.drop j) 0 := by
  have e : dv (l.take j) 0 = 0 := by
    have : ∀ (m : List UInt8), (∀ c ∈ m, c = 48) → dv m 0 = 0 := by
      intro m
      induction m with
      | nil => intro _; rfl
      | cons c m ih =>
        intro hm
        have hc : c = 48 := hm c (by simp)
        subst hc
        simp only [dv]
        exact ih (fun c hc => hm c (by simp [hc]))
    apply this
    intro c hc
    obtain ⟨i, hi⟩ := List.mem_iff_getElem?.1 hc
    by_cases hij : i < j
    · rw [List.getElem?_take_of_lt hij, h i hij] at hi
      exact (Option.some.inj hi).symm
    · rw [List.getElem?_take, if_neg hij] at hi
      exact absurd hi (by simp)
  conv => lhs; rw [← List.take_append_drop j l]
  rw [dv_append, e]

/-- More than sixteen digits, the first no nought: too large. -/
theorem dv_long (l : List UInt8) (h0 : ∀ c, l[0]? = some c → c ≠ 48) (hd : l.all dig = true) (hl : 16 < l.length) : top < dv l 0 := by
  cases l with
  | nil => simp at hl
  | cons c m =>
    simp only [List.all_cons, Bool.and_eq_true] at hd
    have hc := hd.1
    simp only [dig, Bool.and_eq_true, decide_eq_true_eq] at hc
    have hne : c ≠ 48 := h0 c rfl
    have h49 : 49 ≤ c.toNat := by
      rcases Nat.lt_or_ge 48 c.toNat with h | h
      · exact h
      · exact absurd (UInt8.toNat_inj.1 (by show c.toNat = 48; omega)) hne
    have hp := dv_pow m (10 * 0 + (c.toNat - 48))
    simp only [dv]
    simp only [List.length_cons] at hl
    have hm : 10 ^ 16 ≤ 10 ^ m.length := Nat.pow_le_pow_right (by omega) (by omega)
    have h1 : 1 * 10 ^ m.length ≤ (10 * 0 + (c.toNat - 48)) * 10 ^ m.length := Nat.mul_le_mul_right _ (by omega)
    unfold top
    have : (10 : Nat) ^ 16 = 10000000000000000 := by decide
    omega

/-- At most sixteen digits: no wrap. -/
theorem dv_short (l : List UInt8) (hd : l.all dig = true) (hl : l.length ≤ 16) : dv l 0 < 10000000000000000 := by
  have h := dv_lt l 0 hd
  have hm : 10 ^ l.length ≤ 10 ^ 16 := Nat.pow_le_pow_right (by omega) hl
  have : (10 : Nat) ^ 16 = 10000000000000000 := by decide
  omega

theorem all_take (l : List UInt8) (k : Nat) (h : l.all dig = true) : (l.take k).all dig = true := by
  rw [List.all_eq_true] at h ⊢
  exact fun c hc => h c (List.mem_of_mem_take hc)
theorem all_drop (l : List UInt8) (k : Nat) (h : l.all dig = true) : (l.drop k).all dig = true := by
  rw [List.all_eq_true] at h ⊢
  exact fun c hc => h c (List.mem_of_mem_drop hc)
end Go.Proofs.YbulkbfaiFmt
