/-
  'Rows.LawS2803AAddRowsToldSaid' PROVED. By an AI agent; the frame after the guide's TagTold.lean, TagSeven.lean.
-/
import Derived.Test.YbulkbfaiFmtLaw2
import Derived.ProofKit
import Derived.OpenShut
import Derived.JoinedOf
import Derived.Carry
import Derived.Stop.JoinedAt
import Derived.Stop.Texts
import Derived.Stop.JoinedTold
import Derived.SizedLaws
import Derived.SevenToldRow
import Derived.Deep.Slices
import Derived.Lib.SmallJoins
namespace Go.Proofs.YbulkbfaiFmt
open Go.ChangeShapes Go.WideShapes Go.ChangeAt Go.RowKit Go.Kit
open Go.Extern.Stop Go.Stop Go.Extern

theorem own : ownKnob Ybaf.prog.godebug = none := by kernel_rfl
theorem laidOut : laidOutB Ybaf.pinned.checked.prog = true := by kernel_rfl
theorem stops : Ybaf.pinned.checked.prog.stops = ["fmt.errorf"] := by kernel_rfl
theorem stopKnobs : Ybaf.pinned.checked.prog.stopKnobs = [] := by kernel_rfl
theorem quiet (os : Os) : Stop.quiet Ybaf.pinned.checked.prog os := by
  intro k hk
  rw [stopKnobs] at hk
  cases hk
theorem cells50 : Ybaf.prog.cellsOf 50 = 4 := by kernel_rfl
theorem cells9 : Ybaf.prog.cellsOf 9 = 1 := by kernel_rfl
theorem cells5 : Ybaf.prog.cellsOf 5 = 1 := by kernel_rfl
theorem cells22 : Ybaf.prog.cellsOf 22 = 1 := by kernel_rfl

theorem four {α : Type} (l : List α) (h : l.length = 4) : ∃ a b c d, l = [a, b, c, d] := by
  match l, h with
  | [a, b, c, d], _ => exact ⟨a, b, c, d, rfl⟩

theorem u8_of_wf {x : Int} (h : (Lit.int .u8 x).wf = true) : 0 ≤ x ∧ x ≤ 255 := by
  simp [Lit.wf, IntKind.min, IntKind.max, IntKind.signed, IntKind.bits] at h
  exact ⟨by omega, by omega⟩
theorem u64_of_wf {x : Int} (h : (Lit.int .u64 x).wf = true) : 0 ≤ x ∧ x ≤ 18446744073709551615 := by
  simp [Lit.wf, IntKind.min, IntKind.max, IntKind.signed, IntKind.bits] at h
  exact ⟨by omega, by omega⟩

/-- One row of the argument, opened. -/
theorem row_open {H : Type} {enc : TypeId × Value → H} {W : World} {sp : Nat → Bool} {held : Bool} {n k b off : Nat} {cs : List Value} {x : DataW H × List MemPlace}
    (hc : W.cells? 0 ((⟨b, off, none⟩ : Addr).add (k * 4)) 4 = some cs) (ht : DataW.trod enc Ybaf.prog W 0 sp held n 50 cs = some x) :
    ∃ (holder raw : ByteArray) (kind m : Int), RowAt b off k holder raw kind m W := by
  obtain ⟨_, hlen, hcell⟩ := World.cells?_some hc
  obtain ⟨y0, y1, y2, y3, m, _, _, h0, h1, h2, h3⟩ := Joins.trod_struct4 Ybaf.underlying50 ht
  obtain ⟨v0, v1, v2, v3, rfl⟩ := four cs hlen
  simp [cells9, cells5, cells22] at h0 h1 h2 h3
  obtain ⟨s0, e0, _, _⟩ := DataW.trod_string Ybaf.underlying9 h0
  obtain ⟨x1, e1, _, w1⟩ := DataW.trod_int Ybaf.underlying5 h1
  obtain ⟨x2, e2, _, w2⟩ := DataW.trod_int Ybaf.underlying22 h2
  obtain ⟨s3, e3, _, hs3⟩ := DataW.trod_string Ybaf.underlying9 h3
  simp at e0 e1 e2 e3
  subst e0 e1 e2 e3
  have c0 := hcell 0 (by simp)
  have c1 := hcell 1 (by simp)
  have c2 := hcell 2 (by simp)
  have c3 := hcell 3 (by simp)
  simp only [add_plain] at c0 c1 c2 c3
  exact ⟨s0, s3, x1, x2, c0, c1, c2, c3, (u8_of_wf w1).1, (u8_of_wf w1).2, (u64_of_wf w2).1, (u64_of_wf w2).2, hs3⟩

/-- The law at every input. -/
theorem law_any (F : Interp) (start : Int) (pre : Bool) (ao : Option Addr) (len cap : Nat) (w : World) (hF : F.answers w.tape) (h0 : 0 ≤ start) (h1 : start ≤ 18446744073709551615)
    (hrow : 0 < len → ∃ b off, ao = some ⟨b, off, none⟩ ∧ ∀ k, k < len → ∃ holder raw kind n, RowAt b off k holder raw kind n w) :
    Calls Ybaf.prog 3 #[.int .u64 start, .bool pre, .slice ao len cap] w fun e w' => e = .returned (.bool true) ∧ Below w.heap.size w w' := by
  by_cases hl : 1024 < len
  · exact law_many start pre ao len cap w hl
  by_cases hz : len = 0
  · subst hz
    cases pre
    · exact law_none_plain start ao cap w h0 h1
    · exact law_none_pre start ao cap w h0 h1
  · obtain ⟨b, off, rfl, hr⟩ := hrow (by omega)
    have hb : b < w.heap.size := by
      obtain ⟨holder, raw, kind, n, h⟩ := hr 0 (by omega)
      exact World.block_lt_of_cell? w _ h.c0
    cases pre
    · exact law_plain F start b off len cap w hF h0 h1 (by omega) hb hr
    · exact law_pre start b off len cap w h0 h1 (by omega) hb hr

set_option maxRecDepth 100000 in
theorem lifted (os : Os) (started : os.Started) (H : Type) (enc : TypeId × Value → H) :
    ReturnsInTold none {} Ybaf.checked os 3 .any Input.okWide ((OpenSpec.ofChange Rows.lawS2803AAddRowsSpec).preRow enc Ybaf.prog Ybaf.f3 [] false []) (fun F => ((OpenSpec.ofChange Rows.lawS2803AAddRowsSpec).at F).post enc Ybaf.prog Ybaf.f3 false true false false) (aloneAtReturn Ybaf.prog) nothingAlways := by
  refine returnsInTold_of_row (C := Ybaf.checked) (s := OpenSpec.ofChange Rows.lawS2803AAddRowsSpec) (by kernel_rfl) own started (by kernel_rfl) Ybaf.func3
    (OpenSpec.witness_stopped (enc := enc) (C := Ybaf.checked) false ⟨#[], #[.int .u64 0, .bool false, .slice none 0 0], []⟩ 8 (by kernel_rfl) (by kernel_rfl) (by kernel_rfl) (by kernel_rfl)) ?_
  intro F W base args ds gs before _ hF hval0 hW _ _ _ _ _
  have hval : ∀ (j : Nat) t v, Ybaf.f3.params[j]? = some t → args[j]? = some v → Value.okWide Ybaf.prog W .any base t v := hval0
  have hW' := hW
  obtain ⟨p, q, hA0, hV, rfl, _, _⟩ := hW
  have hA : DataW.TrodAll enc Ybaf.prog W 0 (fun _ => true) true Ybaf.f3.params.toList args.toList ds p := hA0
  rw [Ybaf.params3] at hA hval
  obtain ⟨v0, v1, v2, d0, d1, d2, p0, p1, p2, rfl, rfl, rfl, t0, t1, t2⟩ := trodAll_three hA
  obtain ⟨rfl, rfl⟩ := trodVars_none hV
  obtain ⟨start, rfl, rfl, rfl, ws⟩ := open_int Ybaf.underlying22 (hval 0 22 v0 rfl rfl) t0
  obtain ⟨pre, rfl, rfl, rfl⟩ := open_bool Ybaf.underlying4 (hval 1 4 v1 rfl rfl) t1
  obtain ⟨ao, len, cap, rfl⟩ := okWide_slice Ybaf.underlying23 (hval 2 23 v2 rfl rfl)
  have t2k := t2
  obtain ⟨fuel, hf⟩ := t2
  clear hA0 hval0 hA
  simp only [List.append_nil, List.nil_append] at hW'
  have hlt : ∀ x ∈ p2, x.block < W.heap.size := fun x hx => by simpa using hW'.lt x hx
  have hrow : 0 < len → ∃ b off, ao = some ⟨b, off, none⟩ ∧ ∀ k, k < len → ∃ holder raw kind n, RowAt b off k holder raw kind n W := by
    intro hpos
    rcases Deep.open_slice Ybaf.underlying23 hf with ⟨hcs, _⟩ | ⟨a, len', cap', m, n, D, Pl, hcs, _, hl, _, hm, _, hx⟩
    · simp [Value.cells] at hcs
      omega
    · simp [Value.cells] at hcs
      obtain ⟨rfl, rfl, rfl⟩ := hcs
      simp only [if_true] at hm
      rw [cells50] at hx
      obtain ⟨b, off, spot⟩ := a
      have hspot : spot = none := by
        obtain ⟨cs, hc, ht⟩ := hx 0 (by omega)
        obtain ⟨_, hlen, hcell⟩ := World.cells?_some hc
        have h := hcell 0 (by omega)
        rw [List.getElem?_eq_getElem (by omega)] at h
        simpa [Addr.add] using World.cell?_spot h
      subst hspot
      refine ⟨b, off, rfl, fun k hk => ?_⟩
      obtain ⟨cs, hc, ht⟩ := hx k (by omega)
      exact row_open hc ht
  refine (law_any F.told start pre ao len cap W hF (u64_of_wf ws).1 (u64_of_wf ws).2 hrow).mono fun e W' ⟨he, hg⟩ => ?_
  subst he
  have targ : DataW.Trod enc Ybaf.prog W' 0 (fun b => decide (b < W.heap.size)) true 23 (.slice ao len cap) d2 p2 := Below.trod laidOut (by kernel_rfl) (of_decide_eq_true (by kernel_rfl)) t2k hg hlt
  exact ⟨_, rfl, _, _, _, [], p2, [], hW', trodAll_mk1 (shut_bool Ybaf.underlying4 _), trodAll_mk3 (shut_int Ybaf.underlying22 ws) (shut_bool Ybaf.underlying4 _) targ, rfl, hg.frame _, fun h => by cases h⟩

/-- ████ THE STATEMENT ████ -/
theorem proved : Rows.LawS2803AAddRowsToldSaid :=
  Claim7.holds_of_told_any 3 Ybaf.f3 "fmt.errorf" [] [] _ _ _ (by kernel_rfl) rfl rfl rfl laidOut (by kernel_rfl) rfl ⟨rfl, rfl, rfl, rfl, rfl, rfl, rfl⟩ rfl rfl (by kernel_rfl) (by kernel_rfl) Ybaf.func3 (by kernel_rfl)
    (of_decide_eq_true (by kernel_rfl)) (by unfold Func.isWrapper; rw [if_neg (of_decide_eq_false (by kernel_rfl))]; exact ⟨rfl, rfl⟩) stops.symm rfl stopKnobs.symm (by kernel_rfl)
    (by kernel_rfl) (by kernel_rfl) (by kernel_rfl) (by kernel_rfl) (by kernel_rfl) (by kernel_rfl) (by kernel_rfl) (by kernel_rfl) (by kernel_rfl) rfl (by kernel_rfl) rfl rfl
    rfl rfl
    rfl (by kernel_rfl) (by kernel_rfl) (by kernel_rfl) (by decide) (by kernel_rfl)
    (OpenClaim.moreEntering_of (by kernel_rfl) (by kernel_rfl) (by kernel_rfl) (by kernel_rfl) (by kernel_rfl) (by kernel_rfl) (by kernel_rfl) (by kernel_rfl) (by kernel_rfl) (by kernel_rfl))
    ⟨_, WideRow.started_initial, quiet _⟩
    (fun os started _ H enc _ => lifted os started H enc)
end Go.Proofs.YbulkbfaiFmt
