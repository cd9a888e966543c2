/-
  WHAT '(*reading).addRow' MAY TURN: three cells of the two blocks R (the reading) and M (the meeting), the row of attendances, new blocks; nothing else. By an AI agent.
-/
import Derived.WalkKit
import Derived.Below
import Derived.Deep.AppendLies
namespace Go.Proofs.YbulkbfaiFmt
open Go.RowKit

/-- w' is w, but for the cells ⟨R, 4⟩, ⟨R, 6⟩, ⟨M, 5⟩, the block 'row', and new blocks. -/
structure Kept (R M : Nat) (row : Option Nat) (w w' : World) : Prop where
  os : w'.os = w.os
  tape : w'.tape = w.tape
  output : w'.output = w.output
  size : w.heap.size ≤ w'.heap.size
  inR : R < w.heap.size
  inM : M < w.heap.size
  block : ∀ k, k < w.heap.size → k ≠ R → k ≠ M → some k ≠ row → w'.heap[k]? = w.heap[k]?
  cell : ∀ b o, b = R ∨ b = M → ¬ (b = R ∧ o = 4) → ¬ (b = R ∧ o = 6) → ¬ (b = M ∧ o = 5) → w'.cell? ⟨b, o, none⟩ = w.cell? ⟨b, o, none⟩
  frozen : ∀ b o, b = R ∨ b = M → w'.frozen? ⟨b, o, none⟩ = w.frozen? ⟨b, o, none⟩

variable {R M : Nat} {row : Option Nat} {w w' : World}

theorem Kept.refl (hR : R < w.heap.size) (hM : M < w.heap.size) : Kept R M row w w :=
  ⟨rfl, rfl, rfl, Nat.le_refl _, hR, hM, fun _ _ _ _ _ => rfl, fun _ _ _ _ _ _ => rfl, fun _ _ _ => rfl⟩

theorem Kept.drew (h : Kept R M row w w') : Kept R M row w w'.drew :=
  ⟨h.os, h.tape, h.output, h.size, h.inR, h.inM, h.block, h.cell, h.frozen⟩

theorem Kept.alloc (h : Kept R M row w w') (o : Obj) : Kept R M row w (w'.alloc o) := by
  have hs : ∀ b, b = R ∨ b = M → b < w'.heap.size := fun b hb => by
    have := h.inR; have := h.inM; have := h.size
    rcases hb with rfl | rfl <;> omega
  refine ⟨h.os, h.tape, h.output, Nat.le_trans h.size (by simp), h.inR, h.inM, fun k hk h1 h2 h3 => ?_, fun b o' hb h1 h2 h3 => ?_, fun b o' hb => ?_⟩
  · rw [Below.heap_alloc _ _ _ (Nat.lt_of_lt_of_le hk h.size)]
    exact h.block k hk h1 h2 h3
  · rw [World.cell?_of_block (w := w') (Below.heap_alloc _ _ _ (hs b hb))]
    exact h.cell b o' hb h1 h2 h3
  · rw [World.frozen?_of_block (w := w') (Below.heap_alloc _ _ _ (hs b hb))]
    exact h.frozen b o' hb

theorem Kept.setCell (h : Kept R M row w w') (b o : Nat) (hb : (b = R ∧ o = 4) ∨ (b = R ∧ o = 6) ∨ (b = M ∧ o = 5)) (u : Value) : Kept R M row w (w'.setCell ⟨b, o, none⟩ u) := by
  refine ⟨h.os, h.tape, h.output, Nat.le_trans h.size (by simp [World.setCell]), h.inR, h.inM, fun k hk h1 h2 h3 => ?_, fun b' o' hb' h1 h2 h3 => ?_, fun b' o' hb' => ?_⟩
  · rw [Below.heap_setCell _ _ _ _ (by rcases hb with ⟨rfl, _⟩ | ⟨rfl, _⟩ | ⟨rfl, _⟩ <;> assumption)]
    exact h.block k hk h1 h2 h3
  · rw [← h.cell b' o' hb' h1 h2 h3]
    refine World.cell?_setCell_other _ _ _ _ ?_
    intro he
    simp only [Addr.mk.injEq, and_true] at he
    obtain ⟨rfl, rfl⟩ := he
    rcases hb with hb | hb | hb
    · exact h1 hb
    · exact h2 hb
    · exact h3 hb
  · rw [World.frozen?_setCell]
    exact h.frozen b' o' hb'

theorem Kept.grown {w2 : World} (h : Kept R M row w w') (hg : w'.grownBy w2 row) (hR : some R ≠ row) (hM : some M ≠ row) : Kept R M row w w2 := by
  have hs : ∀ b, b = R ∨ b = M → b < w'.heap.size ∧ some b ≠ row := fun b hb => by
    have := h.inR; have := h.inM; have := h.size
    rcases hb with rfl | rfl
    · exact ⟨by omega, hR⟩
    · exact ⟨by omega, hM⟩
  refine ⟨hg.os.trans h.os, hg.tape.trans h.tape, hg.output.trans h.output, Nat.le_trans h.size hg.size, h.inR, h.inM, fun k hk h1 h2 h3 => ?_, fun b o' hb h1 h2 h3 => ?_, fun b o' hb => ?_⟩
  · rw [hg.block k (Nat.lt_of_lt_of_le hk h.size) h3]
    exact h.block k hk h1 h2 h3
  · rw [World.cell?_of_block (w := w') (hg.block b (hs b hb).1 (hs b hb).2)]
    exact h.cell b o' hb h1 h2 h3
  · rw [World.frozen?_of_block (w := w') (hg.block b (hs b hb).1 (hs b hb).2)]
    exact h.frozen b o' hb

/-- What it leaves below a number that lies under all that may turn. -/
theorem Kept.below {B : Nat} (h : Kept R M row w w') (hB : B ≤ w.heap.size) (hR : B ≤ R) (hM : B ≤ M) (hrow : ∀ k, row = some k → B ≤ k) : Below B w w' :=
  ⟨h.os, h.tape, h.output, h.size, fun k hk => h.block k (by omega) (by omega) (by omega) (fun e => by have := hrow k e.symm; omega)⟩

/-- Another row that is owned stays owned. -/
theorem Kept.owns {base : Nat} {e : TypeId} {size : Nat} {v : Value} {n : Nat} {xs : List Value} (h : Kept R M row w w') (ho : w.ownsRow base e size v n xs) (h1 : v.ownBlock ≠ some R) (h2 : v.ownBlock ≠ some M) (h3 : v.ownBlock = none ∨ v.ownBlock ≠ row) : w'.ownsRow base e size v n xs := by
  refine ⟨ho.1, ?_⟩
  rcases ho.2 with hn | ⟨g, cap, cur, rfl, hb, hgg, rest⟩
  · exact .inl hn
  · refine .inr ⟨g, cap, cur, rfl, hb, ?_, rest⟩
    simp only [Value.ownBlock, ne_eq, Option.some.injEq, reduceCtorEq, false_or] at h1 h2 h3
    rw [h.block g (Array.getElem?_eq_some_iff.1 hgg).1 h1 h2 h3]
    exact hgg

theorem Kept.cellOf (h : Kept R M row w w') (b o : Nat) (hb : b < w.heap.size) (h1 : b ≠ R) (h2 : b ≠ M) (h3 : some b ≠ row) : w'.cell? ⟨b, o, none⟩ = w.cell? ⟨b, o, none⟩ :=
  World.cell?_of_block (h.block b hb h1 h2 h3)
end Go.Proofs.YbulkbfaiFmt
