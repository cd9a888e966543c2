/-
  'Rows.LawS2806AModelSaid' PROVED. By an AI agent; the frame after the guide's TagTold.lean, HashxTold.lean, FilterProofs.lean.
-/
import Derived.Test.YbulkbfbyLaw
import Derived.Test.YbulkbfbyMany
import Derived.ProofKit
import Derived.OpenShut
import Derived.Laws.IdiomArrays
namespace Go.Proofs.Ybulkbfby
open Go.ChangeShapes Go.WideShapes Go.ChangeAt Go.RowKit

theorem own : ownKnob Yba.prog.godebug = none := by kernel_rfl
theorem laidOut : laidOutB Yba.pinned.checked.prog = true := by kernel_rfl
theorem cells23 : Yba.prog.cellsOf 23 = 4 := by kernel_rfl
theorem cells22 : Yba.prog.cellsOf 22 = 1 := by kernel_rfl
theorem cells5 : Yba.prog.cellsOf 5 = 1 := by kernel_rfl
theorem four {α : Type} (l : List α) (h : (⟨l⟩ : Array α).size = 4) : ∃ a b c d, l = [a, b, c, d] := by
  match l, h with
  | [a, b, c, d], _ => exact ⟨a, b, c, d, rfl⟩

theorem u8_of_wf {x : Int} (h : (Lit.int .u8 x).wf = true) : 0 ≤ x ∧ x ≤ 255 := by
  simp [Lit.wf, IntKind.min, IntKind.max, IntKind.signed, IntKind.bits] at h
  exact ⟨by omega, by omega⟩
theorem u16_of_wf {x : Int} (h : (Lit.int .u16 x).wf = true) : 0 ≤ x ∧ x ≤ 65535 := by
  simp [Lit.wf, IntKind.min, IntKind.max, IntKind.signed, IntKind.bits] at h
  exact ⟨by omega, by omega⟩
theorem u32_of_wf {x : Int} (h : (Lit.int .u32 x).wf = true) : 0 ≤ x ∧ x ≤ 4294967295 := by
  simp [Lit.wf, IntKind.min, IntKind.max, IntKind.signed, IntKind.bits] at h
  exact ⟨by omega, by omega⟩
theorem u64_of_wf {x : Int} (h : (Lit.int .u64 x).wf = true) : 0 ≤ x ∧ x ≤ 18446744073709551615 := by
  simp [Lit.wf, IntKind.min, IntKind.max, IntKind.signed, IntKind.bits] at h
  exact ⟨by omega, by omega⟩

theorem split_wf {s0 s1 s2 s3 : Int} (w0 : (Lit.int .u64 s0).wf = true) (w1 : (Lit.int .u64 s1).wf = true) (w2 : (Lit.int .u64 s2).wf = true) (w3 : (Lit.int .u64 s3).wf = true) (i : Int) :
    0 ≤ splitOf s0 s1 s2 s3 i ∧ splitOf s0 s1 s2 s3 i ≤ 18446744073709551615 := by
  unfold splitOf
  split
  · exact u64_of_wf w0
  split
  · exact u64_of_wf w1
  split
  · exact u64_of_wf w2
  · exact u64_of_wf w3

/-- The law at every input. -/
theorem law_any (part pre : Bool) (s0 s1 s2 s3 heal hearer kind hgt rnd from_ to_ now : Int) (ao : Option Addr) (len cap : Nat) (w : World)
    (a : 0 ≤ hearer ∧ hearer ≤ 255) (k : 0 ≤ kind ∧ kind ≤ 255) (r : 0 ≤ rnd ∧ rnd ≤ 4294967295) (f : 0 ≤ from_ ∧ from_ ≤ 65535) (t : 0 ≤ to_ ∧ to_ ≤ 65535)
    (u : ∀ i : Int, 0 ≤ splitOf s0 s1 s2 s3 i ∧ splitOf s0 s1 s2 s3 i ≤ 18446744073709551615)
    (hv : ∀ k, k < len → ∃ b off x, ao = some ⟨b, off, none⟩ ∧ ValAt b off k x w) :
    Calls Yba.prog 3 #[.bool part, .agg #[.int .u64 s0, .int .u64 s1, .int .u64 s2, .int .u64 s3], .int .i64 heal, .int .u8 hearer, .slice ao len cap, .int .u8 kind, .int .u64 hgt, .int .u32 rnd, .bool pre, .int .u16 from_, .int .u16 to_, .int .i64 now] w
      fun e w' => e = .returned (.bool true) ∧ Below w.heap.size w w' := by
  by_cases hl : 1024 < len
  · exact law_many part pre s0 s1 s2 s3 heal hearer kind hgt rnd from_ to_ now ao len cap w hl
  · exact law_walk part pre s0 s1 s2 s3 heal hearer kind hgt rnd from_ to_ now ao len cap w (by omega) a.1 a.2 k.1 k.2 r.1 r.2 f.1 f.2 t.1 t.2 u hv

/-- Twelve arguments, taken apart. -/
theorem trodAll_twelve {H : Type} {enc : TypeId × Value → H} {P : Program} {w : World} {base : Nat} {spare : Nat → Bool} {held : Bool} {t0 t1 t2 t3 t4 t5 t6 t7 t8 t9 t10 t11 : TypeId} {args : Array Value} {ds : List (DataW H)} {ps : List MemPlace}
    (h : DataW.TrodAll enc P w base spare held [t0, t1, t2, t3, t4, t5, t6, t7, t8, t9, t10, t11] args.toList ds ps) :
    ∃ v0 v1 v2 v3 v4 v5 v6 v7 v8 v9 v10 v11 d0 d1 d2 d3 d4 d5 d6 d7 d8 d9 d10 d11 p0 p1 p2 p3 p4 p5 p6 p7 p8 p9 p10 p11,
      args = #[v0, v1, v2, v3, v4, v5, v6, v7, v8, v9, v10, v11] ∧ ds = [d0, d1, d2, d3, d4, d5, d6, d7, d8, d9, d10, d11] ∧
      ps = p0 ++ (p1 ++ (p2 ++ (p3 ++ (p4 ++ (p5 ++ (p6 ++ (p7 ++ (p8 ++ (p9 ++ (p10 ++ p11)))))))))) ∧
      DataW.Trod enc P w base spare held t0 v0 d0 p0 ∧ DataW.Trod enc P w base spare held t1 v1 d1 p1 ∧ DataW.Trod enc P w base spare held t2 v2 d2 p2 ∧ DataW.Trod enc P w base spare held t3 v3 d3 p3 ∧
      DataW.Trod enc P w base spare held t4 v4 d4 p4 ∧ DataW.Trod enc P w base spare held t5 v5 d5 p5 ∧ DataW.Trod enc P w base spare held t6 v6 d6 p6 ∧ DataW.Trod enc P w base spare held t7 v7 d7 p7 ∧
      DataW.Trod enc P w base spare held t8 v8 d8 p8 ∧ DataW.Trod enc P w base spare held t9 v9 d9 p9 ∧ DataW.Trod enc P w base spare held t10 v10 d10 p10 ∧ DataW.Trod enc P w base spare held t11 v11 d11 p11 := by
  obtain ⟨v0, _, d0, _, p0, _, hargs, rfl, rfl, h0, h⟩ := trodAll_cons h
  obtain ⟨v1, _, d1, _, p1, _, rfl, rfl, rfl, h1, h⟩ := trodAll_cons h
  obtain ⟨v2, _, d2, _, p2, _, rfl, rfl, rfl, h2, h⟩ := trodAll_cons h
  obtain ⟨v3, _, d3, _, p3, _, rfl, rfl, rfl, h3, h⟩ := trodAll_cons h
  obtain ⟨v4, _, d4, _, p4, _, rfl, rfl, rfl, h4, h⟩ := trodAll_cons h
  obtain ⟨v5, _, d5, _, p5, _, rfl, rfl, rfl, h5, h⟩ := trodAll_cons h
  obtain ⟨v6, _, d6, _, p6, _, rfl, rfl, rfl, h6, h⟩ := trodAll_cons h
  obtain ⟨v7, _, d7, _, p7, _, rfl, rfl, rfl, h7, h⟩ := trodAll_cons h
  obtain ⟨v8, _, d8, _, p8, _, rfl, rfl, rfl, h8, h⟩ := trodAll_cons h
  obtain ⟨v9, _, d9, _, p9, _, rfl, rfl, rfl, h9, h⟩ := trodAll_cons h
  obtain ⟨v10, _, d10, _, p10, _, rfl, rfl, rfl, h10, h⟩ := trodAll_cons h
  obtain ⟨v11, _, d11, _, p11, _, rfl, rfl, rfl, h11, h⟩ := trodAll_cons h
  obtain ⟨rfl, rfl, rfl⟩ := trodAll_nil h
  exact ⟨v0, v1, v2, v3, v4, v5, v6, v7, v8, v9, v10, v11, d0, d1, d2, d3, d4, d5, d6, d7, d8, d9, d10, d11, p0, p1, p2, p3, p4, p5, p6, p7, p8, p9, p10, p11, by cases args; simp_all, rfl, by simp, h0, h1, h2, h3, h4, h5, h6, h7, h8, h9, h10, h11⟩

/-- The slice of bytes, opened. -/
theorem vals_open {H : Type} {enc : TypeId × Value → H} {W : World} {n : Nat} {ao : Option Addr} {len cap : Nat} {x : DataW H × List MemPlace}
    (hf : DataW.trod enc Yba.prog W 0 (fun _ => true) true n 24 (Value.slice ao len cap).cells.toList = some x) :
    ∀ k, k < len → ∃ b off x, ao = some ⟨b, off, none⟩ ∧ ValAt b off k x W := by
  intro k hk
  rcases open_ints Yba.underlying24 Yba.underlying5 cells5 hf with ⟨hcs, _⟩ | ⟨a, len', cap', zs, hcs, _, hl, _, hz, _, hcell, hwz⟩
  · simp [Value.cells] at hcs
    omega
  · simp [Value.cells] at hcs
    obtain ⟨rfl, rfl, rfl⟩ := hcs
    simp only [if_true] at hz
    obtain ⟨b, off, spot⟩ := a
    have h := hcell k (by omega)
    have hspot : spot = none := by simpa [Addr.add] using World.cell?_spot (hcell 0 (by omega))
    subst hspot
    rw [add_plain] at h
    have hb := u8_of_wf (hwz (zs.getD k 0) (by
      rw [List.getD_eq_getElem?_getD, List.getElem?_eq_getElem (by omega)]
      exact List.getElem_mem _))
    exact ⟨b, off, _, rfl, h, hb.1, hb.2⟩

set_option maxRecDepth 100000 in
theorem lifted (os : Os) (started : os.Started) (H : Type) (enc : TypeId × Value → H) :
    ReturnsInHanded {} Yba.checked os 3 .any (Rows.lawS2806AModelSpec.pre6 enc Yba.prog Yba.f3 Rows.lawS2806AModelRow.domain false) (Rows.lawS2806AModelSpec.post enc Yba.prog Yba.f3 false true false false) := by
  refine returnsInHanded_of_change (C := Yba.checked) own started (by kernel_rfl) Yba.func3
    (ChangeSpec.witness6 (enc := enc) (C := Yba.checked) false ⟨#[], #[.bool false, .agg #[.int .u64 0, .int .u64 0, .int .u64 0, .int .u64 0], .int .i64 0, .int .u8 0, .slice none 0 0, .int .u8 0, .int .u64 0, .int .u32 0, .bool false, .int .u16 0, .int .u16 0, .int .i64 0], []⟩ 8 (by kernel_rfl) (by kernel_rfl) (by kernel_rfl) (by kernel_rfl)) ?_
  intro W base args ds gs before hval0 hW _ _
  have hval : ∀ (j : Nat) t v, Yba.f3.params[j]? = some t → args[j]? = some v → Value.okWide Yba.prog W .any base t v := hval0
  have hW' := hW
  obtain ⟨p, q, hA0, hV, rfl, _, _⟩ := hW
  have hA : DataW.TrodAll enc Yba.prog W 0 (fun _ => true) true Yba.f3.params.toList args.toList ds p := hA0
  rw [Yba.params3] at hA hval
  obtain ⟨v0, v1, v2, v3, v4, v5, v6, v7, v8, v9, v10, v11, d0, d1, d2, d3, d4, d5, d6, d7, d8, d9, d10, d11, p0, p1, p2, p3, p4, p5, p6, p7, p8, p9, p10, p11, rfl, rfl, rfl, h0, h1, h2, h3, h4, h5, h6, h7, h8, h9, h10, h11⟩ := trodAll_twelve hA
  obtain ⟨rfl, rfl⟩ := trodVars_none hV
  obtain ⟨part, rfl, rfl, rfl⟩ := open_bool Yba.underlying4 (hval 0 4 v0 rfl rfl) h0
  obtain ⟨cs, rfl, hsz, _⟩ : ∃ cs, v1 = .agg cs ∧ cs.size = Yba.prog.cellsOf 23 ∧ Row.okWide Yba.prog W .any base 23 cs := by
    have := hval 1 23 v1 rfl rfl
    simpa [Value.okWide, Yba.underlying23] using this
  rw [cells23] at hsz
  obtain ⟨l⟩ := cs
  obtain ⟨c0, c1, c2, c3, rfl⟩ := four l hsz
  obtain ⟨fuel, hf⟩ := h1
  obtain ⟨y0, y1, y2, y3, m, hx, hy0, hy1, hy2, hy3⟩ := trod_array4 Yba.underlying23 cells22 hf
  obtain ⟨s0, e0, rfl, w0⟩ := DataW.trod_int Yba.underlying22 hy0
  obtain ⟨s1, e1, rfl, w1⟩ := DataW.trod_int Yba.underlying22 hy1
  obtain ⟨s2, e2, rfl, w2⟩ := DataW.trod_int Yba.underlying22 hy2
  obtain ⟨s3, e3, rfl, w3⟩ := DataW.trod_int Yba.underlying22 hy3
  simp at e0 e1 e2 e3
  subst e0 e1 e2 e3
  simp only [Prod.mk.injEq] at hx
  obtain ⟨rfl, rfl⟩ := hx
  obtain ⟨heal, rfl, rfl, rfl, wh⟩ := open_int Yba.underlying2 (hval 2 2 v2 rfl rfl) h2
  obtain ⟨hearer, rfl, rfl, rfl, wa⟩ := open_int Yba.underlying5 (hval 3 5 v3 rfl rfl) h3
  obtain ⟨ao, len, cap, rfl⟩ := okWide_slice Yba.underlying24 (hval 4 24 v4 rfl rfl)
  obtain ⟨kind, rfl, rfl, rfl, wk⟩ := open_int Yba.underlying5 (hval 5 5 v5 rfl rfl) h5
  obtain ⟨hgt, rfl, rfl, rfl, wg⟩ := open_int Yba.underlying22 (hval 6 22 v6 rfl rfl) h6
  obtain ⟨rnd, rfl, rfl, rfl, wr⟩ := open_int Yba.underlying25 (hval 7 25 v7 rfl rfl) h7
  obtain ⟨pre, rfl, rfl, rfl⟩ := open_bool Yba.underlying4 (hval 8 4 v8 rfl rfl) h8
  obtain ⟨from_, rfl, rfl, rfl, wf⟩ := open_int Yba.underlying26 (hval 9 26 v9 rfl rfl) h9
  obtain ⟨to_, rfl, rfl, rfl, wt⟩ := open_int Yba.underlying26 (hval 10 26 v10 rfl rfl) h10
  obtain ⟨now, rfl, rfl, rfl, wn⟩ := open_int Yba.underlying2 (hval 11 2 v11 rfl rfl) h11
  have h4k := h4
  obtain ⟨fuel4, hf4⟩ := h4
  have hvals := vals_open hf4
  clear hA0 hval0 hA hval
  simp only [List.append_nil, List.nil_append] at hW'
  have hlt : ∀ x ∈ p4, x.block < W.heap.size := fun x hx => by simpa using hW'.lt x hx
  have arrayReads : ∀ (W' : World) (sp : Nat → Bool), DataW.Trod enc Yba.prog W' 0 sp true 23 (.agg #[.int .u64 s0, .int .u64 s1, .int .u64 s2, .int .u64 s3]) (.agg [.lit (.int .u64 s0), .lit (.int .u64 s1), .lit (.int .u64 s2), .lit (.int .u64 s3)]) [] := fun W' sp =>
    ⟨2, by simp [DataW.trod, Value.cells, Yba.underlying23, Yba.underlying22, cells23, cells22, w0, w1, w2, w3, show List.range 4 = [0, 1, 2, 3] from rfl]⟩
  refine (law_any part pre s0 s1 s2 s3 heal hearer kind hgt rnd from_ to_ now ao len cap W (u8_of_wf wa) (u8_of_wf wk) (u32_of_wf wr) (u16_of_wf wf) (u16_of_wf wt) (split_wf w0 w1 w2 w3) hvals).mono fun e W' ⟨he, hg⟩ => ?_
  subst he
  have targ : DataW.Trod enc Yba.prog W' 0 (fun b => decide (b < W.heap.size)) true 24 (.slice ao len cap) d4 p4 := Below.trod laidOut (by kernel_rfl) (of_decide_eq_true (by kernel_rfl)) h4k hg hlt
  refine ⟨_, rfl, _, _, _, [], p4 ++ [], [], hW', trodAll_mk1 (shut_bool Yba.underlying4 _), ?_, rfl, hg.frame _, fun h => by cases h⟩
  exact trodAll_cons_mk (p := []) (shut_bool Yba.underlying4 _) (trodAll_cons_mk (p := []) (arrayReads _ _) (trodAll_cons_mk (p := []) (shut_int Yba.underlying2 wh) (trodAll_cons_mk (p := []) (shut_int Yba.underlying5 wa) (trodAll_cons_mk targ
    (trodAll_cons_mk (p := []) (shut_int Yba.underlying5 wk) (trodAll_cons_mk (p := []) (shut_int Yba.underlying22 wg) (trodAll_cons_mk (p := []) (shut_int Yba.underlying25 wr) (trodAll_cons_mk (p := []) (shut_bool Yba.underlying4 _)
    (trodAll_cons_mk (p := []) (shut_int Yba.underlying26 wf) (trodAll_cons_mk (p := []) (shut_int Yba.underlying26 wt) (trodAll_cons_mk (p := []) (shut_int Yba.underlying2 wn) trodAll_mk0)))))))))))

/-- ████ THE STATEMENT ████ -/
theorem proved : Rows.LawS2806AModelSaid :=
  OpenClaim.holds_of_wide 3 Yba.f3 rfl rfl rfl rfl rfl rfl rfl ⟨rfl, rfl, rfl, rfl, rfl⟩ rfl rfl rfl rfl rfl (by kernel_rfl) Yba.func3 (by kernel_rfl)
    (of_decide_eq_true (by kernel_rfl)) (by unfold Func.isWrapper; first | (rw [if_pos (by decide +kernel)]; kernel_rfl) | (rw [if_neg (by decide +kernel)]; exact ⟨rfl, rfl⟩))
    (fun os started H enc _ => lifted os started H enc)
end Go.Proofs.Ybulkbfby
