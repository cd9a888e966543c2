/-
  THE LAW's STATE BETWEEN TWO ROWS, and what each way of a round makes of it. No walk here. By an AI agent.
-/
import Derived.Test.YbulkbfaiFmtApp
namespace Go.Proofs.YbulkbfaiFmt
open Go.RowKit

/-- The attendances, as cells. -/
def recs (L : List (ByteArray × Nat)) : List Value := L.flatMap fun x => [.string x.1, .int .u64 x.2]
theorem recs_snoc (L : List (ByteArray × Nat)) (s : ByteArray) (v : Nat) : recs (L ++ [(s, v)]) = recs L ++ [.string s, .int .u64 v] := by simp [recs]

/-- M is block B, R is block B + 1; no fault was there before. -/
structure St (B : Nat) (er : Bool) (p : Int) (vw va : Value) (L : List (ByteArray × Nat)) (w wr : World) : Prop where
  below : Below B w wr
  size : B + 2 ≤ wr.heap.size
  m4 : wr.cell? ⟨B, 4, none⟩ = some (.slice none 0 0)
  m5 : wr.cell? ⟨B, 5, none⟩ = some va
  m6 : wr.cell? ⟨B, 6, none⟩ = some (.slice none 0 0)
  g5 : wr.frozen? ⟨B, 5, none⟩ = false
  r0 : wr.cell? ⟨B + 1, 0, none⟩ = some (.pointer (some ⟨B, 0, none⟩))
  r3 : wr.cell? ⟨B + 1, 3, none⟩ = some .nilIface
  r4 : er = false → wr.cell? ⟨B + 1, 4, none⟩ = some .nilIface
  r4' : er = true → ∃ a, wr.cell? ⟨B + 1, 4, none⟩ = some (.iface 61 (.pointer (some a)))
  r5 : wr.cell? ⟨B + 1, 5, none⟩ = some .nilIface
  r6 : wr.cell? ⟨B + 1, 6, none⟩ = some (.int .u64 p)
  r7 : wr.cell? ⟨B + 1, 7, none⟩ = some (.map none)
  f4 : wr.frozen? ⟨B + 1, 4, none⟩ = false
  f6 : wr.frozen? ⟨B + 1, 6, none⟩ = false
  pOk : er = false → 0 ≤ p ∧ p ≤ 9007199254740991
  ownW : wr.ownsRow (B + 2) 59 2 vw L.length (recs L)
  ownA : wr.ownsRow (B + 2) 59 2 va L.length (recs L)
  apart : ∀ g, vw.ownBlock = some g → va.ownBlock ≠ some g

variable {B : Nat} {er : Bool} {p : Int} {vw va : Value} {L : List (ByteArray × Nat)} {w wr : World}

theorem grown_of_below {w4 : World} (hb : Below wr.heap.size wr w4) : wr.grownBy w4 none := ⟨hb.os, hb.tape, hb.output, hb.size, fun k hk _ => hb.block k hk⟩

/-- New blocks alone. -/
theorem St.later {w4 : World} (h : St B er p vw va L w wr) (hb : Below wr.heap.size wr w4) : St B er p vw va L w w4 := by
  have hs := h.size
  have c : ∀ o, w4.cell? ⟨B, o, none⟩ = wr.cell? ⟨B, o, none⟩ := fun o => hb.cell (p := ⟨B, o, none⟩) (by simp only; omega)
  have c' : ∀ o, w4.cell? ⟨B + 1, o, none⟩ = wr.cell? ⟨B + 1, o, none⟩ := fun o => hb.cell (p := ⟨B + 1, o, none⟩) (by simp only; omega)
  have f : ∀ o, w4.frozen? ⟨B, o, none⟩ = wr.frozen? ⟨B, o, none⟩ := fun o => hb.frozen (p := ⟨B, o, none⟩) (by simp only; omega)
  have f' : ∀ o, w4.frozen? ⟨B + 1, o, none⟩ = wr.frozen? ⟨B + 1, o, none⟩ := fun o => hb.frozen (p := ⟨B + 1, o, none⟩) (by simp only; omega)
  have n : ∀ v : Value, v.ownBlock = none ∨ v.ownBlock ≠ none := fun v => by cases v.ownBlock <;> simp
  exact ⟨h.below.trans (hb.mono (by omega)), Nat.le_trans hs hb.size, (c 4).trans h.m4, (c 5).trans h.m5, (c 6).trans h.m6, (f 5).trans h.g5, (c' 0).trans h.r0, (c' 3).trans h.r3, fun e => (c' 4).trans (h.r4 e),
    fun e => by obtain ⟨a, ha⟩ := h.r4' e; exact ⟨a, (c' 4).trans ha⟩, (c' 5).trans h.r5, (c' 6).trans h.r6, (c' 7).trans h.r7, (f' 4).trans h.f4, (f' 6).trans h.f6, h.pOk,
    h.ownW.kept (grown_of_below hb) (n vw), h.ownA.kept (grown_of_below hb) (n va), h.apart⟩

theorem ne_own {base : Nat} {e : TypeId} {size : Nat} {v : Value} {n : Nat} {xs : List Value} (h : wr.ownsRow base e size v n xs) (k : Nat) (hk : k < base) : v.ownBlock ≠ some k := fun he => by have := (h.lt k he).1; omega

/-- What addRow keeps, of the state. -/
theorem St.kept {w5 : World} {row : Option Nat} (h : St B er p vw va L w wr) (hk : Kept (B + 1) B row wr w5) (hrow : ∀ k, row = some k → B ≤ k) :
    Below B w w5 ∧ B + 2 ≤ w5.heap.size ∧ w5.cell? ⟨B, 4, none⟩ = some (.slice none 0 0) ∧ w5.cell? ⟨B, 6, none⟩ = some (.slice none 0 0) ∧ w5.frozen? ⟨B, 5, none⟩ = false ∧
    w5.cell? ⟨B + 1, 0, none⟩ = some (.pointer (some ⟨B, 0, none⟩)) ∧ w5.cell? ⟨B + 1, 3, none⟩ = some .nilIface ∧ w5.cell? ⟨B + 1, 5, none⟩ = some .nilIface ∧ w5.cell? ⟨B + 1, 7, none⟩ = some (.map none) ∧
    w5.frozen? ⟨B + 1, 4, none⟩ = false ∧ w5.frozen? ⟨B + 1, 6, none⟩ = false := by
  have hs := h.size
  have c := fun o => hk.cell B o (.inr rfl) (by omega) (by omega)
  have c' := fun o h1 h2 => hk.cell (B + 1) o (.inl rfl) h1 h2 (by omega)
  exact ⟨h.below.trans (hk.below (by omega) (by omega) (Nat.le_refl _) hrow), Nat.le_trans hs hk.size, (c 4 (by omega)).trans h.m4, (c 6 (by omega)).trans h.m6, (hk.frozen B 5 (.inr rfl)).trans h.g5,
    (c' 0 (by omega) (by omega)).trans h.r0, (c' 3 (by omega) (by omega)).trans h.r3, (c' 5 (by omega) (by omega)).trans h.r5, (c' 7 (by omega) (by omega)).trans h.r7, (hk.frozen (B + 1) 4 (.inl rfl)).trans h.f4, (hk.frozen (B + 1) 6 (.inl rfl)).trans h.f6⟩

/-- A fault is noted. -/
theorem St.fault {w5 : World} {p' : Int} {e : Ending} (h : St B false p vw va L w wr) (hf : Faulted (B + 1) B none p' va wr e w5) : St B true p' vw va L w w5 := by
  obtain ⟨_, hk, hg, h6, h5⟩ := hf
  obtain ⟨k1, k2, k3, k4, k5, k6, k7, k8, k9, k10, k11⟩ := h.kept hk (fun k hk' => by cases hk')
  have n : ∀ v : Value, v.ownBlock = none ∨ v.ownBlock ≠ none := fun v => by cases v.ownBlock <;> simp
  exact ⟨k1, k2, k3, h5, k4, k5, k6, k7, fun e => (by cases e), fun _ => hg.elim fun g hg => ⟨g, hg⟩, k8, h6, k9, k10, k11, fun e => (by cases e),
    hk.owns h.ownW (ne_own h.ownW (B + 1) (by omega)) (ne_own h.ownW B (by omega)) (n vw), hk.owns h.ownA (ne_own h.ownA (B + 1) (by omega)) (ne_own h.ownA B (by omega)) (n va), h.apart⟩

/-- The row is taken in by addRow: the model's own list is still to follow. -/
structure Half (B : Nat) (p : Int) (vw va' : Value) (L : List (ByteArray × Nat)) (s : ByteArray) (v : Nat) (w w4 w5 : World) : Prop where
  below : Below B w w5
  size : B + 2 ≤ w5.heap.size
  m4 : w5.cell? ⟨B, 4, none⟩ = some (.slice none 0 0)
  m5 : w5.cell? ⟨B, 5, none⟩ = some va'
  m6 : w5.cell? ⟨B, 6, none⟩ = some (.slice none 0 0)
  g5 : w5.frozen? ⟨B, 5, none⟩ = false
  r0 : w5.cell? ⟨B + 1, 0, none⟩ = some (.pointer (some ⟨B, 0, none⟩))
  r3 : w5.cell? ⟨B + 1, 3, none⟩ = some .nilIface
  r4 : w5.cell? ⟨B + 1, 4, none⟩ = some .nilIface
  r5 : w5.cell? ⟨B + 1, 5, none⟩ = some .nilIface
  r6 : w5.cell? ⟨B + 1, 6, none⟩ = some (.int .u64 p)
  r7 : w5.cell? ⟨B + 1, 7, none⟩ = some (.map none)
  f4 : w5.frozen? ⟨B + 1, 4, none⟩ = false
  f6 : w5.frozen? ⟨B + 1, 6, none⟩ = false
  ownW : w5.ownsRow (B + 2) 59 2 vw L.length (recs L)
  ownA : w5.ownsRow (B + 2) 59 2 va' (L ++ [(s, v)]).length (recs (L ++ [(s, v)]))
  apart : ∀ g, vw.ownBlock = some g → va'.ownBlock ≠ some g

theorem St.half {w5 : World} {s : ByteArray} {v : Nat} {e : Ending} (h : St B false p vw va L w wr) (ha : Added (B + 1) B (B + 2) va L.length (recs L) (p + v) s v wr e w5) :
    ∃ va', Half B (p + v) vw va' L s v w wr w5 := by
  obtain ⟨_, hk, h4, h6, g, cap, h5, hown, hat⟩ := ha
  obtain ⟨k1, k2, k3, k4, k5, k6, k7, k8, k9, k10, k11⟩ := h.kept hk (fun k hk' => by have := (h.ownA.lt k hk').1; omega)
  have hap : vw.ownBlock = none ∨ vw.ownBlock ≠ va.ownBlock := by
    cases hv : vw.ownBlock with
    | none => exact .inl rfl
    | some g => exact .inr (fun e => h.apart g hv e.symm)
  refine ⟨_, k1, k2, k3, h5, k4, k5, k6, k7, h4, k8, h6, k9, k10, k11, hk.owns h.ownW (ne_own h.ownW (B + 1) (by omega)) (ne_own h.ownW B (by omega)) hap, ?_, ?_⟩
  · rw [recs_snoc, List.length_append]
    exact hown
  · intro g' hg' he
    simp only [Value.ownBlock, Option.some.injEq] at he
    subst he
    rcases hat with hat | hat
    · exact h.apart g hg' hat
    · have := (h.ownW.lt g hg').2
      omega

/-- The model's own list follows. -/
theorem Half.full {w4 w5 w6 : World} {va' : Value} {s : ByteArray} {v g cap : Nat} {X : Obj} (h : Half B p vw va' L s v w w4 w5)
    (hown : w6.ownsRow (B + 2) 59 2 (.slice (some ⟨g, 0, none⟩) (L.length + 1) cap) (L.length + 1) (recs L ++ [.string s, .int .u64 v])) (hg : (w5.alloc X).grownBy w6 vw.ownBlock) (hat : vw.ownBlock = some g ∨ g = w5.heap.size + 1)
    (hp : 0 ≤ p ∧ p ≤ 9007199254740991) :
    St B false p (.slice (some ⟨g, 0, none⟩) (L.length + 1) cap) va' (L ++ [(s, v)]) w w6 := by
  have hs := h.size
  have sz : (w5.alloc X).heap.size = w5.heap.size + 1 := by simp
  have nB : some B ≠ vw.ownBlock := fun e => ne_own h.ownW B (by omega) e.symm
  have nB1 : some (B + 1) ≠ vw.ownBlock := fun e => ne_own h.ownW (B + 1) (by omega) e.symm
  have blk : ∀ k, k < w5.heap.size → some k ≠ vw.ownBlock → w6.heap[k]? = w5.heap[k]? := fun k hk hne => (hg.block k (by omega) hne).trans (Below.heap_alloc _ _ _ hk)
  have c := fun o => World.cell?_of_block (w := w5) (w' := w6) (a := ⟨B, o, none⟩) (blk B (by omega) nB)
  have c' := fun o => World.cell?_of_block (w := w5) (w' := w6) (a := ⟨B + 1, o, none⟩) (blk (B + 1) (by omega) nB1)
  have f := fun o => World.frozen?_of_block (w := w5) (w' := w6) (a := ⟨B, o, none⟩) (blk B (by omega) nB)
  have f' := fun o => World.frozen?_of_block (w := w5) (w' := w6) (a := ⟨B + 1, o, none⟩) (blk (B + 1) (by omega) nB1)
  have hap : va'.ownBlock = none ∨ va'.ownBlock ≠ vw.ownBlock := by
    cases hv : va'.ownBlock with
    | none => exact .inl rfl
    | some g => exact .inr (fun e => h.apart g e.symm hv)
  refine ⟨?_, ?_, (c 4).trans h.m4, (c 5).trans h.m5, (c 6).trans h.m6, (f 5).trans h.g5, (c' 0).trans h.r0, (c' 3).trans h.r3, fun _ => (c' 4).trans h.r4, fun e => (by cases e), (c' 5).trans h.r5, (c' 6).trans h.r6, (c' 7).trans h.r7,
    (f' 4).trans h.f4, (f' 6).trans h.f6, fun _ => hp, ?_, (h.ownA.alloc X).kept hg hap, ?_⟩
  · exact (h.below.alloc (by omega) X).grown hg (by omega) (fun k hk => by have := (h.ownW.lt k hk).1; omega)
  · have := hg.size
    omega
  · rw [recs_snoc, List.length_append]
    exact hown
  · intro g' hg' he
    simp only [Value.ownBlock, Option.some.injEq] at hg'
    subst hg'
    rcases hat with hat | hat
    · exact h.apart g hat he
    · have := (h.ownA.lt g he).2
      omega
end Go.Proofs.YbulkbfaiFmt
