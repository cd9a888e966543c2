/-
  A LAW OF ONE's OWN: A REGION THAT DRAWS ITS ORDER, LOADS CELLS, AND STORES INTO ONE OF THEM AT ITS END ('x.f = append(x.f, v)' through pointers). The library's law on held cells (Derived/OrdersHeld.lean) asks its condition S behind EVERY operation, the last store too, and there it is false. Here a tail of operations (E), each of which waits for whatever is taken first, is let off. By an AI agent; nothing here is trusted.
-/
import Derived.OrdersHeld
import Derived.StillTail
namespace Go.Proofs.YbulkbfaiFmt

section
variable {P : Program} {ops : Array Oper} {Q : Exit → Act → World → Prop} {md : Region.Mode} {S : World → Prop} {E : Nat → Bool}

/-- Whatever order is picked: S holds behind every operation that is none of the tail's. -/
def Tailed (P : Program) (md : Region.Mode) (ops : Array Oper) (Q : Exit → Act → World → Prop) (S : World → Prop) (E : Nat → Bool) : Nat → Array Bool → Act → World → Prop
  | 0, listed, a, w => Region.ready md ops listed = [] ∧ Q .normal a w
  | fuel + 1, listed, a, w =>
    (Region.ready md ops listed = [] → Q .normal a w) ∧
    ∀ i ∈ Region.ready md ops listed, wpOp P ops Q i (fun a' w' => (E i = false → S w') ∧ Tailed P md ops Q S E fuel (listed.setIfInBounds i true) a' w') a w

theorem Tailed.any : ∀ (fuel : Nat) (listed : Array Bool) (a : Act) (w : World), Tailed P md ops Q S E fuel listed a w → wpAny P md ops Q fuel listed a w
  | 0, _, _, _, h => h
  | fuel + 1, _, _, _, h => ⟨h.1, fun i hi => wpOp_mono (fun a' w' h' => Tailed.any fuel _ a' w' h'.2) (h.2 i hi)⟩

/-- Every operation of the tail waits for operation i. -/
def tailWaits (md : Region.Mode) (ops : Array Oper) (E : Nat → Bool) (i : Nat) : Bool := !E i && (List.range ops.size).all fun j => !E j || Region.waitsFor md ops j i

theorem tailWaits_spec {i : Nat} (h : tailWaits md ops E i = true) : E i = false ∧ ∀ j oj, ops[j]? = some oj → (∀ e ∈ oj.after, Region.binds md e = true → e.on ≠ i) → E j = false := by
  simp only [tailWaits, Bool.and_eq_true, Bool.not_eq_true', List.all_eq_true, List.mem_range, Bool.or_eq_true] at h
  refine ⟨h.1, fun j oj hj hno => ?_⟩
  rcases h.2 j (Array.getElem?_eq_some_iff.1 hj).1 with he | hw
  · exact he
  · obtain ⟨oj', hj', e, he, hb, ho⟩ := Region.waitsFor_spec hw
    rw [hj] at hj'
    cases hj'
    exact absurd ho (hno e he hb)

/-- TAKE ONE FIRST. -/
theorem Tailed.first {i : Nat} {oi : Oper} {v : Value} (hi : ops[i]? = some oi) (hsel : ∀ (j : Nat) (o : Oper) cs b, ops[j]? = some o → o.op ≠ .select cs b)
    (hQ : ∀ c a w, Q (.panic c) (a.put oi.dst v) w → Q (.panic c) a w)
    (hE : ∀ j oj, ops[j]? = some oj → (∀ e ∈ oj.after, Region.binds md e = true → e.on ≠ i) → E j = false) :
    ∀ (fuel : Nat) (listed : Array Bool) (a : Act) (w : World),
      (∀ j oj, ops[j]? = some oj → j ≠ i → listed.getD j true = false → (∀ e ∈ oj.after, Region.binds md e = true → e.on ≠ i) → oi.apart ops oj = true) →
      i ∈ Region.ready md ops listed → YieldsIf P ops S oi v a → S w →
      Tailed P md ops Q S E fuel (listed.setIfInBounds i true) (a.put oi.dst v) w → Tailed P md ops Q S E (fuel + 1) listed a w := by
  intro fuel
  induction fuel with
  | zero =>
    intro listed a w _ hr hy hS H
    refine ⟨fun h => (by rw [h] at hr; cases hr), fun j hj => ?_⟩
    rcases Decidable.em (j = i) with hji | hji
    · subst hji
      exact hy.wpOp hi hS ⟨fun _ => hS, H⟩
    · exact absurd (ready_mono hj hji) (by rw [H.1]; simp)
  | succ fuel ih =>
    intro listed a w hfree hr hy hS H
    refine ⟨fun h => (by rw [h] at hr; cases hr), fun j hj => ?_⟩
    rcases Decidable.em (j = i) with hji | hji
    · subst hji
      exact hy.wpOp hi hS ⟨fun _ => hS, H⟩
    · obtain ⟨hun, oj, hoj, hall⟩ := mem_ready.1 hj
      -- j does not wait for i: i has not come up yet
      have hno : ∀ e ∈ oj.after, Region.binds md e = true → e.on ≠ i := by
        intro e he hb heq
        have h1 := hall e he hb
        have h0 := (mem_ready.1 hr).1
        rw [heq] at h1
        rcases Nat.lt_or_ge i listed.size with h' | h'
        · simp [h'] at h0 h1
          rw [h0] at h1
          cases h1
        · simp [Array.getElem?_eq_none h'] at h1
      have hEj := hE j oj hoj hno
      have step := wpOp_putIf hoj (hfree j oj hoj hji hun hno) (fun cs b => hsel i oi cs b hi) (fun cs b => hsel j oj cs b hoj) hQ hy (H.2 j (ready_mono hj hji))
      refine wpOp_mono (fun a' w' h3 => ⟨h3.2.1, ih (listed.setIfInBounds j true) a' w' (fun k ok hk hki hunk hnok => hfree k ok hk hki ?_ hnok) (ready_mono hr (Ne.symm hji)) h3.1 (h3.2.1 hEj) ?_⟩) step
      · rcases Decidable.em (j = k) with hjk | hjk
        · subst hjk
          exact hun
        · rwa [getD_set_ne true hjk] at hunk
      · rw [Array.setIfInBounds_comm _ _ hji]
        exact h3.2.2

theorem Tailed.take {i : Nat} {oi : Oper} {v : Value} {fuel : Nat} {listed : Array Bool} {a : Act} {w : World} (hi : ops[i]? = some oi)
    (hs : Region.noSelect ops = true) (hf : Region.free md ops listed i = true) (hr : (Region.ready md ops listed).contains i = true) (ht : tailWaits md ops E i = true)
    (hQ : ∀ c a w, Q (.panic c) (a.put oi.dst v) w → Q (.panic c) a w) (hy : YieldsIf P ops S oi v a) (hS : S w)
    (h : Tailed P md ops Q S E fuel (listed.setIfInBounds i true) (a.put oi.dst v) w) : Tailed P md ops Q S E (fuel + 1) listed a w :=
  Tailed.first hi (Region.noSelect_spec hs) hQ (tailWaits_spec ht).2 fuel listed a w (Region.free_spec hi hf) (by simpa using hr) hy hS h

/-- A hypothesis that no tactic looks into. -/
def Lid (p : Prop) : Prop := p
theorem Lid.out {p : Prop} (h : Lid p) : p := h

/-- ONE ALONE MAY COME UP. -/
theorem Tailed.step {i : Nat} {o : Oper} {fuel : Nat} {listed : Array Bool} {a : Act} {w : World} (ho : ops[i]? = some o) (hr : Region.ready md ops listed = [i])
    (h : ∀ K' : Act → World → Prop, Lid (∀ a w, (E i = false → S w) → Tailed P md ops Q S E fuel (listed.setIfInBounds i true) a w → K' a w) → if Region.wanted o (yielded ops a.tmps) = true then Oper.wp P o a w K' Q else K' (a.put o.dst undef) w) :
    Tailed P md ops Q S E (fuel + 1) listed a w := by
  refine ⟨fun h0 => (by rw [hr] at h0; cases h0), fun j hj => ?_⟩
  rw [hr] at hj
  obtain rfl : j = i := by simpa using hj
  have hk := h (fun a' w' => (E j = false → S w') ∧ Tailed P md ops Q S E fuel (listed.setIfInBounds j true) a' w') (fun a w h1 h2 => ⟨h1, h2⟩)
  unfold wpOp
  simp only [ho]
  split
  · rename_i hw
    rw [if_pos hw] at hk
    exact .inl hk
  · rename_i hw
    rw [if_neg hw] at hk
    exact hk

theorem Tailed.done {fuel : Nat} {listed : Array Bool} {a : Act} {w : World} (hr : Region.ready md ops listed = []) (h : Q .normal a w) : Tailed P md ops Q S E fuel listed a w := by
  cases fuel with
  | zero => exact ⟨hr, h⟩
  | succ f => exact ⟨fun _ => h, by rw [hr]; simp⟩

theorem wp_region_tailed {id : Nat} {a : Act} {w : World} (hm : P.follows .mixedOrders = true)
    (h : Tailed P .any ops Q S E ops.size (Array.replicate ops.size false) a w.drew) : (Code.region id ops true).wp P Q a w :=
  wp_region_any hm (Tailed.any _ _ _ _ h)
end
end Go.Proofs.YbulkbfaiFmt
