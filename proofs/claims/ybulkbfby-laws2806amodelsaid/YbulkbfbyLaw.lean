/-
  THE WALK OF THE LAW (function 3). By an AI agent.
-/
import Derived.Test.YbulkbfbyAll
import Derived.OwnWalk
import Derived.Laws.OwnMore
import Derived.Laws.StructEq
set_option linter.unusedSimpArgs false
namespace Go.Proofs.Ybulkbfby
open Go.RowKit

abbrev zero44 : Value := .agg #[.int .i64 0, .int .i64 0, .bool false, .int .u8 0, .pointer none, .int .i64 0, .slice none 0 0, .int .i64 0, .int .i64 0, .nilFunc, .nilFunc, .nilFunc, .nilIface, .slice none 0 0, .slice none 0 0, .slice none 0 0, .slice none 0 0, .bool false, .bool false, .int .u64 0, .int .i64 0, .int .i64 0]
theorem info44 : (Yba.prog.info? 44).map (fun i => (i.zero, i.size, i.bytes)) = some (some zero44, 22, 248) := by kernel_rfl

/-- The nodes lie at block Nb: each validator's cell holds a number and may be written. -/
def Nodes (Nb len : Nat) (w : World) : Prop := (∀ j, j ≤ len → ∃ x : Int, w.cell? ⟨Nb, j * 22, none⟩ = some (.int .i64 x)) ∧ (∀ o, w.frozen? ⟨Nb, o, none⟩ = false) ∧ Nb < w.heap.size

theorem nodes_made {w1 : World} {Nb len base : Nat} (h : w1.ownsRow base 44 22 (.slice (some ⟨Nb, 0, none⟩) (len + 1) (len + 1)) (len + 1) (madeCells zero44.cells ((len + 1) * 22)).toList) : Nodes Nb len w1 := by
  refine ⟨fun j hj => ⟨0, ?_⟩, fun o => h.frozenAt o, (h.lt Nb rfl).2⟩
  rw [h.cellAt (j * 22) (by omega)]
  have hz : zero44.cells.size = 22 := rfl
  have hlt : j * 22 < (len + 1) * 22 := by omega
  have e : (madeCells zero44.cells ((len + 1) * 22)).toList[j * 22]? = some (zero44.cells[(j * 22) % zero44.cells.size]!) := by
    simp only [madeCells, Array.getElem?_toList, Array.getElem?_map, Array.getElem?_range, hlt, if_true, Option.map_some]
  rw [e, hz, Nat.mul_mod_left]
  rfl

theorem Nodes.set {Nb len : Nat} {w : World} (h : Nodes Nb len w) (k : Nat) (x : Int) (_ : k ≤ len) : Nodes Nb len (w.setCell ⟨Nb, k * 22, none⟩ (.int .i64 x)) := by
  refine ⟨fun j hj => ?_, fun o => (World.frozen?_setCell _ _ _ _).trans (h.2.1 o), by simpa using h.2.2⟩
  obtain ⟨y, hy⟩ := h.1 j hj
  by_cases hjk : k = j
  · subst hjk
    exact ⟨x, by simp [go_sem, hy]⟩
  · refine ⟨y, ?_⟩
    rw [World.cell?_setCell_other _ _ _ _ (by intro e; simp only [Addr.mk.injEq] at e; omega)]
    exact hy

/-- The argument's bytes. -/
structure ValAt (b off k : Nat) (x : Int) (w : World) : Prop where
  c : w.cell? ⟨b, off + k, none⟩ = some (.int .u8 x)
  x0 : 0 ≤ x
  x1 : x ≤ 255

/-- The splits, boxed. -/
abbrev boxed (s0 s1 s2 s3 : Int) (w : World) : World := w.alloc (.cells #[.int .u64 s0, .int .u64 s1, .int .u64 s2, .int .u64 s3] 23)

/-- The splits are the splits. -/
theorem equal_splits (s0 s1 s2 s3 : Int) (W : World) : (Op.equalIn 10000 23 (.agg #[.int .u64 s0, .int .u64 s1, .int .u64 s2, .int .u64 s3]) (.agg #[.int .u64 s0, .int .u64 s1, .int .u64 s2, .int .u64 s3])).run Yba.prog W = .ok true W := by
  have u3 := Yba.underlying22
  rw [show (10000 : Nat) = 9999 + 1 from rfl, Op.equalIn]
  simp only [Sem.run_bind, run_underlying Yba.underlying23, Result.andThen_ok]
  simp only [Std.Legacy.Range.forIn_eq_forIn_range', Std.Legacy.Range.size, Nat.sub_zero, Nat.add_sub_cancel, Nat.div_one, List.range'_succ, List.range'_zero, List.forIn_cons, List.forIn_nil]
  go_simp
theorem same_splits (s0 s1 s2 s3 : Int) (W : World) : (binOp .neq 23 (.agg #[.int .u64 s0, .int .u64 s1, .int .u64 s2, .int .u64 s3]) (.agg #[.int .u64 s0, .int .u64 s1, .int .u64 s2, .int .u64 s3])).run Yba.prog W = .ok (.bool false) W := by
  rw [run_neq_struct, equal_splits]
  rfl

/-- The Sim's cells. -/
abbrev simCells (p n : Value) : Array Value := #[.int .u64 0, .int .i64 0, .int .i64 0, .pointer none, .int .i64 0, .int .i64 0, p, n, .int .i64 0, .int .i64 0, .slice none 0 0, .int .u64 0, .map none, .int .i64 0, .int .u64 0, .int .u64 0, .int .u64 0, .int .u64 0, .int .u64 0, .nilFunc, .nilFunc]
/-- The world in which reaches is called. -/
abbrev laidNet (wr : World) (Nb len : Nat) (s0 s1 s2 s3 heal hr : Int) : World :=
  (wr.alloc (.cells (simCells (.pointer (some ⟨wr.heap.size + 1, 0, none⟩)) (.slice (some ⟨Nb, 0, none⟩) (len + 1) (len + 1))) 56)).alloc (.cells #[.int .u64 s0, .int .u64 s1, .int .u64 s2, .int .u64 s3, .int .i64 heal, .int .i64 hr] 58)

theorem net_laid (wr : World) (Nb len tn : Nat) (s0 s1 s2 s3 heal hr vt : Int) (hvt : wr.cell? ⟨Nb, tn * 22, none⟩ = some (.int .i64 vt)) (htl : tn ≤ len) (hlen : len ≤ 1024) : Net wr.heap.size (wr.heap.size + 1) Nb (len + 1) s0 s1 s2 s3 heal hr tn vt (laidNet wr Nb len s0 s1 s2 s3 heal hr) := by
  have lN := World.block_lt_of_cell? wr _ hvt
  refine ⟨?_, ?_, ?_, ?_, ?_, ?_, ?_, ?_, ?_, by omega, by omega⟩
  · simp [go_sem]
  · simp [go_sem]
  · simp [go_sem]
  · simp [go_sem]
  · simp [go_sem]
  · simp [go_sem]
  · simp [go_sem]
  · simp [go_sem]
  · have h1 : (wr.alloc (.cells (simCells (.pointer (some ⟨wr.heap.size + 1, 0, none⟩)) (.slice (some ⟨Nb, 0, none⟩) (len + 1) (len + 1))) 56)).cell? ⟨Nb, tn * 22, none⟩ = some (.int .i64 vt) := (World.cell?_alloc_past _ _ _ lN).trans hvt
    exact (World.cell?_alloc_past _ _ _ (World.block_lt_of_cell? _ _ h1)).trans h1

theorem below_laid (wr : World) (Nb len : Nat) (s0 s1 s2 s3 heal hr : Int) : Below wr.heap.size wr (laidNet wr Nb len s0 s1 s2 s3 heal hr) := ((Below.refl _ wr).alloc (Nat.le_refl _) _).alloc (by simp) _

set_option maxHeartbeats 3200000 in
set_option maxRecDepth 100000 in
theorem law_walk (part pre : Bool) (s0 s1 s2 s3 heal hearer kind hgt rnd from_ to_ now : Int) (ao : Option Addr) (len cap : Nat) (w : World) (hlen : len ≤ 1024)
    (a0 : 0 ≤ hearer) (a1 : hearer ≤ 255) (k0 : 0 ≤ kind) (k1 : kind ≤ 255) (r0 : 0 ≤ rnd) (r1 : rnd ≤ 4294967295) (f0 : 0 ≤ from_) (f1 : from_ ≤ 65535) (t0 : 0 ≤ to_) (t1 : to_ ≤ 65535)
    (u : ∀ i : Int, 0 ≤ splitOf s0 s1 s2 s3 i ∧ splitOf s0 s1 s2 s3 i ≤ 18446744073709551615)
    (hv : ∀ k, k < len → ∃ b off x, ao = some ⟨b, off, none⟩ ∧ ValAt b off k x w) :
    Calls Yba.prog 3 #[.bool part, .agg #[.int .u64 s0, .int .u64 s1, .int .u64 s2, .int .u64 s3], .int .i64 heal, .int .u8 hearer, .slice ao len cap, .int .u8 kind, .int .u64 hgt, .int .u32 rnd, .bool pre, .int .u16 from_, .int .u16 to_, .int .i64 now] w
      fun e w' => e = .returned (.bool true) ∧ Below w.heap.size w w' := by
  obtain ⟨i0, hi0, hz0, hz1, hz2⟩ := info_parts info44
  obtain ⟨w1, hmk, hown, hgrow⟩ := run_make_full (P := Yba.prog) (boxed s0 s1 s2 s3 w) (w.heap.size + 1) 27 44 i0 zero44 22 Yba.underlying27 hi0 hz0 hz1 .i64 .i64 (len + 1) (by rw [hz2]; omega) (by unfold maxLen; omega) (by simp)
  have ec : ((len + 1 : Nat) : Int) = (len : Int) + 1 := by omega
  rw [ec] at hmk
  have e1 : (boxed s0 s1 s2 s3 w).heap.size = w.heap.size + 1 := by simp
  rw [e1] at hmk hown
  have NV := nodes_made hown
  obtain ⟨x0, hx0⟩ := NV.1 0 (Nat.zero_le _)
  rw [Nat.zero_mul] at hx0
  have hf0 := NV.2.1 0
  have HN : Hid (Nodes (w.heap.size + 1) len w1) := NV
  have HB : Hid (Below (w.heap.size + 1) (boxed s0 s1 s2 s3 w) w1) := ⟨hgrow.os, hgrow.tape, hgrow.output, hgrow.size, fun k hk => hgrow.block k (by omega) (by simp)⟩
  have HV : Hid (∀ k, k < len → ∃ b off x, ao = some ⟨b, off, none⟩ ∧ ValAt b off k x w) := hv
  clear ec e1 hz0 hz1 hz2 hi0 hown hgrow NV hv
  go_enter Yba.func3, Yba.ntmps3
  go_wp2
  have HU : Hid (∀ i : Int, 0 ≤ splitOf s0 s1 s2 s3 i ∧ splitOf s0 s1 s2 s3 i ≤ 18446744073709551615) := u
  clear u
  go_loopw [51] (fun i wr => ∃ k : Nat, k ≤ len ∧ i = .int .i64 k ∧ Hid (Nodes (w.heap.size + 1) len wr) ∧ Hid (Below (w.heap.size + 1) (boxed s0 s1 s2 s3 w) wr)) (fun i _ => len - (intOf i).toNat)
  case atStart => exact ⟨0, Nat.zero_le _, rfl, (by have h := HN.out.set 0 1 (Nat.zero_le _); rw [Nat.zero_mul] at h; exact h), HB.out.setCell (Nat.le_refl _) _⟩
  case round =>
    obtain ⟨k, hk, rfl, HN', HB'⟩ := hrel
    by_cases hlt : k < len
    · obtain ⟨b, off, x, rfl, hx⟩ := HV.out k hlt
      have hb : b < w.heap.size := World.block_lt_of_cell? w _ hx.c
      have hc : wr.cell? ⟨b, off + k, none⟩ = some (.int .u8 x) := (HB'.out.cell (p := ⟨b, off + k, none⟩) (by simp only; omega)).trans (by simp [go_sem, hb, hx.c])
      have hx0 := hx.x0
      have hx1 := hx.x1
      obtain ⟨y, hy⟩ := HN'.out.1 (k + 1) (by omega)
      have hfy := HN'.out.2.1 ((k + 1) * 22)
      clear hx
      go_wp2
      go_roundw
      case rel =>
        exact ⟨k + 1, by omega, by go_num, HN'.out.set (k + 1) _ (by omega), HB'.out.setCell (Nat.le_refl _) _⟩
      case measure => simp [intOf]; omega
    · obtain ⟨tn, htn⟩ : ∃ tn : Nat, (tn : Int) = to_ % ((len : Int) + 1) := ⟨(to_ % ((len : Int) + 1)).toNat, by have := Int.emod_nonneg to_ (show ((len : Int) + 1) ≠ 0 by omega); omega⟩
      have htl : tn ≤ len := by have := Int.emod_lt_of_pos to_ (show (0 : Int) < (len : Int) + 1 by omega); omega
      have HT : Hid ((tn : Int) = to_ % ((len : Int) + 1)) := htn
      clear htn
      obtain ⟨m, T⟩ := told_any (kind % 4) hgt rnd pre (by omega) (by omega) r0 r1
      have HM : Hid (Told (kind % 4) hgt rnd pre m) := T
      obtain ⟨vt, hvt⟩ := HN'.out.1 tn htl
      have lN : w.heap.size + 1 < wr.heap.size := HN'.out.2.2
      have d0 : wr.cell? ⟨w.heap.size, 0, none⟩ = some (.int .u64 s0) := (HB'.out.cell (p := ⟨w.heap.size, 0, none⟩) (by simp)).trans (by simp [go_sem])
      have d1 : wr.cell? ⟨w.heap.size, 1, none⟩ = some (.int .u64 s1) := (HB'.out.cell (p := ⟨w.heap.size, 1, none⟩) (by simp)).trans (by simp [go_sem])
      have d2 : wr.cell? ⟨w.heap.size, 2, none⟩ = some (.int .u64 s2) := (HB'.out.cell (p := ⟨w.heap.size, 2, none⟩) (by simp)).trans (by simp [go_sem])
      have d3 : wr.cell? ⟨w.heap.size, 3, none⟩ = some (.int .u64 s3) := (HB'.out.cell (p := ⟨w.heap.size, 3, none⟩) (by simp)).trans (by simp [go_sem])
      have lw : w.heap.size < wr.heap.size := by omega
      have BW : Hid (Below w.heap.size w wr) := ((Below.refl _ w).alloc (Nat.le_refl _) _).trans (HB'.out.mono (by omega))
      clear T hmk hx0 hf0 HN HB HV HN' HB'
      cases part with
      | false =>
        go_wp2_with fail
        refine Calls.mono (HM.out.made _) ?_
        rintro e w2 ⟨rfl, rfl⟩
        go_wp2_with fail
        refine (reach_none wr.heap.size _ _ _ _ _ ?_).mono ?_
        · simp [go_sem]
        rintro e w3 ⟨rfl, rfl⟩
        go_wp2
        go_ret
        exact ⟨rfl, BW.out.alloc (by omega) _⟩
      | true =>
        go_wp2_with fail
        refine Calls.mono (HM.out.made _) ?_
        rintro e w2 ⟨rfl, rfl⟩
        go_wp2_with fail
        rw [← HT.out]
        have N4 := net_laid wr (w.heap.size + 1) len tn s0 s1 s2 s3 heal (hearer % 4) vt hvt htl hlen
        have B4 := below_laid wr (w.heap.size + 1) len s0 s1 s2 s3 heal (hearer % 4)
        refine (reach_any HM.out (from_ % 200) now _ N4 r0 HU.out (by omega) (by omega)).mono ?_
        rintro e w5 ⟨rfl, hb5⟩
        have N5 := N4.later hb5
        have B5 : Below wr.heap.size wr w5 := B4.trans (hb5.mono B4.size)
        have e0 := (B5.cell (p := ⟨w.heap.size, 0, none⟩) lw).trans d0
        have e1 := (B5.cell (p := ⟨w.heap.size, 1, none⟩) lw).trans d1
        have e2 := (B5.cell (p := ⟨w.heap.size, 2, none⟩) lw).trans d2
        have e3 := (B5.cell (p := ⟨w.heap.size, 3, none⟩) lw).trans d3
        have HB5 : Hid (Below w.heap.size w w5) := BW.out.trans (B5.mono (by omega))
        obtain ⟨n6, n7, p0, p1, p2, p3, p4, p5, pv, _, _⟩ := N5
        clear d0 d1 d2 d3 N4 B4 hb5 B5 BW hvt
        obtain ⟨G, hG⟩ : ∃ G, G = gets (decide (kind % 4 = 2) || decide (kind % 4 = 3)) hgt rnd (ovh (kind % 4) hgt rnd pre (hearer % 4) vt) s0 s1 s2 s3 heal now (from_ % 200) tn := ⟨_, rfl⟩
        rw [← hG]
        have HG : Hid (G = gets (decide (kind % 4 = 2) || decide (kind % 4 = 3)) hgt rnd (ovh (kind % 4) hgt rnd pre (hearer % 4) vt) s0 s1 s2 s3 heal now (from_ % 200) tn) := hG
        clear hG
        have hq1 := equal_splits s0 s1 s2 s3
        have hq2 := same_splits s0 s1 s2 s3
        go_wp2_with fail
        go_quiet (fail)
        clear hq1 hq2
        have f0' : 0 ≤ from_ % 200 := by omega
        have f1' : from_ % 200 ≤ 70000 := by omega
        have hk : kind % 4 = 0 ∨ kind % 4 = 1 ∨ kind % 4 = 2 ∨ kind % 4 = 3 := by omega
        have hh0 : 0 ≤ hearer % 4 := by omega
        have hh1 : hearer % 4 ≤ 3 := by omega
        generalize from_ % 200 = f at *
        generalize kind % 4 = k at *
        generalize hearer % 4 = hr at *
        clear a0 a1 k0 k1 f0 f1 t0 t1 HT HM
        have HF : Hid ((0 ≤ f ∧ f ≤ 70000) ∧ ((0:Int) ≤ tn ∧ (tn:Int) ≤ 70000)) := ⟨⟨f0', f1'⟩, by omega, by omega⟩
        by_cases hge : heal ≤ now
        · have hgt' : (now ≥ heal) := hge
          obtain rfl : G = true := by rw [HG.out]; simp [gets, hge]
          clear HG
          go_wp2_with fail
          go_ret
          exact ⟨rfl, below_drewN HB5.out _⟩
        · have hng : ¬ (now ≥ heal) := hge
          have U0 : Hid (0 ≤ s0 ∧ s0 ≤ 18446744073709551615) := HU.out 0
          have U1 : Hid (0 ≤ s1 ∧ s1 ≤ 18446744073709551615) := HU.out 1
          have U2 : Hid (0 ≤ s2 ∧ s2 ≤ 18446744073709551615) := HU.out 2
          have U3 : Hid (0 ≤ s3 ∧ s3 ≤ 18446744073709551615) := HU.out 3
          clear HU hh0 hh1
          by_cases h1 : hgt = 1
          · subst h1
            rcases (show rnd = 0 ∨ rnd = 1 ∨ 2 ≤ rnd by omega) with rfl | rfl | h2
            · by_cases hz : hr = 0
              · subst hz
                rcases hk with rfl | rfl | rfl | rfl
                · obtain rfl : G = (bitN s0 f == bitN s0 tn) := by rw [HG.out]; simp [gets, ovh, ph, splitOf, hge]
                  clear HG
                  go_wp2_with fail
                  refine (grp_any _ _ _ U0.out.1 U0.out.2 HF.out.1.1 HF.out.1.2).mono ?_
                  rintro e w6 ⟨rfl, rfl⟩
                  go_wp2_with fail
                  refine (grp_any _ _ _ U0.out.1 U0.out.2 HF.out.2.1 HF.out.2.2).mono ?_
                  rintro e w7 ⟨rfl, rfl⟩
                  go_wp2_with fail
                  go_ret
                  exact ⟨by simp, below_drewN HB5.out _⟩
                · obtain rfl : G = (bitN s0 f == bitN s0 tn) := by rw [HG.out]; simp [gets, ovh, ph, splitOf, hge]
                  clear HG
                  go_wp2_with fail
                  refine (grp_any _ _ _ U0.out.1 U0.out.2 HF.out.1.1 HF.out.1.2).mono ?_
                  rintro e w6 ⟨rfl, rfl⟩
                  go_wp2_with fail
                  refine (grp_any _ _ _ U0.out.1 U0.out.2 HF.out.2.1 HF.out.2.2).mono ?_
                  rintro e w7 ⟨rfl, rfl⟩
                  go_wp2_with fail
                  go_ret
                  exact ⟨by simp, below_drewN HB5.out _⟩
                · obtain rfl : G = (bitN s1 f == bitN s1 tn) := by rw [HG.out]; simp [gets, ovh, ph, splitOf, hge]
                  clear HG
                  go_wp2_with fail
                  refine (grp_any _ _ _ U1.out.1 U1.out.2 HF.out.1.1 HF.out.1.2).mono ?_
                  rintro e w6 ⟨rfl, rfl⟩
                  go_wp2_with fail
                  refine (grp_any _ _ _ U1.out.1 U1.out.2 HF.out.2.1 HF.out.2.2).mono ?_
                  rintro e w7 ⟨rfl, rfl⟩
                  go_wp2_with fail
                  go_ret
                  exact ⟨by simp, below_drewN HB5.out _⟩
                · obtain rfl : G = (bitN s1 f == bitN s1 tn) := by rw [HG.out]; simp [gets, ovh, ph, splitOf, hge]
                  clear HG
                  go_wp2_with fail
                  refine (grp_any _ _ _ U1.out.1 U1.out.2 HF.out.1.1 HF.out.1.2).mono ?_
                  rintro e w6 ⟨rfl, rfl⟩
                  go_wp2_with fail
                  refine (grp_any _ _ _ U1.out.1 U1.out.2 HF.out.2.1 HF.out.2.2).mono ?_
                  rintro e w7 ⟨rfl, rfl⟩
                  go_wp2_with fail
                  go_ret
                  exact ⟨by simp, below_drewN HB5.out _⟩
              · rcases hk with rfl | rfl | rfl | rfl
                · obtain rfl : G = true := by rw [HG.out]; simp [gets, ovh, ph, splitOf, hge, hz]
                  clear HG
                  go_wp2_with fail
                  go_ret
                  exact ⟨by simp, below_drewN HB5.out _⟩
                · cases pre with
                  | false =>
                    obtain rfl : G = (bitN s0 f == bitN s0 tn) := by rw [HG.out]; simp [gets, ovh, ph, splitOf, hge, hz]
                    clear HG
                    go_wp2_with fail
                    refine (grp_any _ _ _ U0.out.1 U0.out.2 HF.out.1.1 HF.out.1.2).mono ?_
                    rintro e w6 ⟨rfl, rfl⟩
                    go_wp2_with fail
                    refine (grp_any _ _ _ U0.out.1 U0.out.2 HF.out.2.1 HF.out.2.2).mono ?_
                    rintro e w7 ⟨rfl, rfl⟩
                    go_wp2_with fail
                    go_ret
                    exact ⟨by simp, below_drewN HB5.out _⟩
                  | true =>
                    by_cases hvh : vt = hr
                    · subst hvh
                      obtain rfl : G = true := by rw [HG.out]; simp [gets, ovh, ph, splitOf, hge, hz]
                      clear HG
                      go_wp2_with fail
                      go_ret
                      exact ⟨by simp, below_drewN HB5.out _⟩
                    · obtain rfl : G = (bitN s0 f == bitN s0 tn) := by rw [HG.out]; simp [gets, ovh, ph, splitOf, hge, hz, hvh]
                      clear HG
                      have hvb : (vt == hr) = false := by simpa using hvh
                      go_wp2_with fail
                      refine (grp_any _ _ _ U0.out.1 U0.out.2 HF.out.1.1 HF.out.1.2).mono ?_
                      rintro e w6 ⟨rfl, rfl⟩
                      go_wp2_with fail
                      refine (grp_any _ _ _ U0.out.1 U0.out.2 HF.out.2.1 HF.out.2.2).mono ?_
                      rintro e w7 ⟨rfl, rfl⟩
                      go_wp2_with fail
                      go_ret
                      exact ⟨by simp, below_drewN HB5.out _⟩
                · obtain rfl : G = (bitN s1 f == bitN s1 tn) := by rw [HG.out]; simp [gets, ovh, ph, splitOf, hge, hz]
                  clear HG
                  go_wp2_with fail
                  refine (grp_any _ _ _ U1.out.1 U1.out.2 HF.out.1.1 HF.out.1.2).mono ?_
                  rintro e w6 ⟨rfl, rfl⟩
                  go_wp2_with fail
                  refine (grp_any _ _ _ U1.out.1 U1.out.2 HF.out.2.1 HF.out.2.2).mono ?_
                  rintro e w7 ⟨rfl, rfl⟩
                  go_wp2_with fail
                  go_ret
                  exact ⟨by simp, below_drewN HB5.out _⟩
                · obtain rfl : G = (bitN s1 f == bitN s1 tn) := by rw [HG.out]; simp [gets, ovh, ph, splitOf, hge, hz]
                  clear HG
                  go_wp2_with fail
                  refine (grp_any _ _ _ U1.out.1 U1.out.2 HF.out.1.1 HF.out.1.2).mono ?_
                  rintro e w6 ⟨rfl, rfl⟩
                  go_wp2_with fail
                  refine (grp_any _ _ _ U1.out.1 U1.out.2 HF.out.2.1 HF.out.2.2).mono ?_
                  rintro e w7 ⟨rfl, rfl⟩
                  go_wp2_with fail
                  go_ret
                  exact ⟨by simp, below_drewN HB5.out _⟩
            · rcases hk with rfl | rfl | rfl | rfl
              · obtain rfl : G = (bitN s2 f == bitN s2 tn) := by rw [HG.out]; simp [gets, ovh, ph, splitOf, hge]
                clear HG
                by_cases hz : hr = 0
                · subst hz
                  go_wp2_with fail
                  refine (grp_any _ _ _ U2.out.1 U2.out.2 HF.out.1.1 HF.out.1.2).mono ?_
                  rintro e w6 ⟨rfl, rfl⟩
                  go_wp2_with fail
                  refine (grp_any _ _ _ U2.out.1 U2.out.2 HF.out.2.1 HF.out.2.2).mono ?_
                  rintro e w7 ⟨rfl, rfl⟩
                  go_wp2_with fail
                  go_ret
                  exact ⟨by simp, below_drewN HB5.out _⟩
                · go_wp2_with fail
                  refine (grp_any _ _ _ U2.out.1 U2.out.2 HF.out.1.1 HF.out.1.2).mono ?_
                  rintro e w6 ⟨rfl, rfl⟩
                  go_wp2_with fail
                  refine (grp_any _ _ _ U2.out.1 U2.out.2 HF.out.2.1 HF.out.2.2).mono ?_
                  rintro e w7 ⟨rfl, rfl⟩
                  go_wp2_with fail
                  go_ret
                  exact ⟨by simp, below_drewN HB5.out _⟩
              · obtain rfl : G = (bitN s2 f == bitN s2 tn) := by rw [HG.out]; simp [gets, ovh, ph, splitOf, hge]
                clear HG
                by_cases hz : hr = 0
                · subst hz
                  go_wp2_with fail
                  refine (grp_any _ _ _ U2.out.1 U2.out.2 HF.out.1.1 HF.out.1.2).mono ?_
                  rintro e w6 ⟨rfl, rfl⟩
                  go_wp2_with fail
                  refine (grp_any _ _ _ U2.out.1 U2.out.2 HF.out.2.1 HF.out.2.2).mono ?_
                  rintro e w7 ⟨rfl, rfl⟩
                  go_wp2_with fail
                  go_ret
                  exact ⟨by simp, below_drewN HB5.out _⟩
                · go_wp2_with fail
                  refine (grp_any _ _ _ U2.out.1 U2.out.2 HF.out.1.1 HF.out.1.2).mono ?_
                  rintro e w6 ⟨rfl, rfl⟩
                  go_wp2_with fail
                  refine (grp_any _ _ _ U2.out.1 U2.out.2 HF.out.2.1 HF.out.2.2).mono ?_
                  rintro e w7 ⟨rfl, rfl⟩
                  go_wp2_with fail
                  go_ret
                  exact ⟨by simp, below_drewN HB5.out _⟩
              · obtain rfl : G = (bitN s3 f == bitN s3 tn) := by rw [HG.out]; simp [gets, ovh, ph, splitOf, hge]
                clear HG
                by_cases hz : hr = 0
                · subst hz
                  go_wp2_with fail
                  refine (grp_any _ _ _ U3.out.1 U3.out.2 HF.out.1.1 HF.out.1.2).mono ?_
                  rintro e w6 ⟨rfl, rfl⟩
                  go_wp2_with fail
                  refine (grp_any _ _ _ U3.out.1 U3.out.2 HF.out.2.1 HF.out.2.2).mono ?_
                  rintro e w7 ⟨rfl, rfl⟩
                  go_wp2_with fail
                  go_ret
                  exact ⟨by simp, below_drewN HB5.out _⟩
                · go_wp2_with fail
                  refine (grp_any _ _ _ U3.out.1 U3.out.2 HF.out.1.1 HF.out.1.2).mono ?_
                  rintro e w6 ⟨rfl, rfl⟩
                  go_wp2_with fail
                  refine (grp_any _ _ _ U3.out.1 U3.out.2 HF.out.2.1 HF.out.2.2).mono ?_
                  rintro e w7 ⟨rfl, rfl⟩
                  go_wp2_with fail
                  go_ret
                  exact ⟨by simp, below_drewN HB5.out _⟩
              · obtain rfl : G = (bitN s3 f == bitN s3 tn) := by rw [HG.out]; simp [gets, ovh, ph, splitOf, hge]
                clear HG
                by_cases hz : hr = 0
                · subst hz
                  go_wp2_with fail
                  refine (grp_any _ _ _ U3.out.1 U3.out.2 HF.out.1.1 HF.out.1.2).mono ?_
                  rintro e w6 ⟨rfl, rfl⟩
                  go_wp2_with fail
                  refine (grp_any _ _ _ U3.out.1 U3.out.2 HF.out.2.1 HF.out.2.2).mono ?_
                  rintro e w7 ⟨rfl, rfl⟩
                  go_wp2_with fail
                  go_ret
                  exact ⟨by simp, below_drewN HB5.out _⟩
                · go_wp2_with fail
                  refine (grp_any _ _ _ U3.out.1 U3.out.2 HF.out.1.1 HF.out.1.2).mono ?_
                  rintro e w6 ⟨rfl, rfl⟩
                  go_wp2_with fail
                  refine (grp_any _ _ _ U3.out.1 U3.out.2 HF.out.2.1 HF.out.2.2).mono ?_
                  rintro e w7 ⟨rfl, rfl⟩
                  go_wp2_with fail
                  go_ret
                  exact ⟨by simp, below_drewN HB5.out _⟩
            · have h2a : ¬ rnd < 2 := by omega
              have h2b : ¬ rnd = 0 := by omega
              obtain rfl : G = (bitN s3 f == bitN s3 tn) := by rw [HG.out]; simp [gets, ovh, ph, splitOf, hge, h2a, h2b]
              clear HG
              by_cases hz : hr = 0
              · subst hz
                go_wp2_with fail
                refine (grp_any _ _ _ U3.out.1 U3.out.2 HF.out.1.1 HF.out.1.2).mono ?_
                rintro e w6 ⟨rfl, rfl⟩
                go_wp2_with fail
                refine (grp_any _ _ _ U3.out.1 U3.out.2 HF.out.2.1 HF.out.2.2).mono ?_
                rintro e w7 ⟨rfl, rfl⟩
                go_wp2_with fail
                go_ret
                exact ⟨by simp, below_drewN HB5.out _⟩
              · go_wp2_with fail
                refine (grp_any _ _ _ U3.out.1 U3.out.2 HF.out.1.1 HF.out.1.2).mono ?_
                rintro e w6 ⟨rfl, rfl⟩
                go_wp2_with fail
                refine (grp_any _ _ _ U3.out.1 U3.out.2 HF.out.2.1 HF.out.2.2).mono ?_
                rintro e w7 ⟨rfl, rfl⟩
                go_wp2_with fail
                go_ret
                exact ⟨by simp, below_drewN HB5.out _⟩
          · obtain rfl : G = (bitN s3 f == bitN s3 tn) := by rw [HG.out]; simp [gets, ovh, ph, splitOf, hge, h1]
            clear HG
            by_cases hz : hr = 0
            · subst hz
              go_wp2_with fail
              refine (grp_any _ _ _ U3.out.1 U3.out.2 HF.out.1.1 HF.out.1.2).mono ?_
              rintro e w6 ⟨rfl, rfl⟩
              go_wp2_with fail
              refine (grp_any _ _ _ U3.out.1 U3.out.2 HF.out.2.1 HF.out.2.2).mono ?_
              rintro e w7 ⟨rfl, rfl⟩
              go_wp2_with fail
              go_ret
              exact ⟨by simp, below_drewN HB5.out _⟩
            · go_wp2_with fail
              refine (grp_any _ _ _ U3.out.1 U3.out.2 HF.out.1.1 HF.out.1.2).mono ?_
              rintro e w6 ⟨rfl, rfl⟩
              go_wp2_with fail
              refine (grp_any _ _ _ U3.out.1 U3.out.2 HF.out.2.1 HF.out.2.2).mono ?_
              rintro e w7 ⟨rfl, rfl⟩
              go_wp2_with fail
              go_ret
              exact ⟨by simp, below_drewN HB5.out _⟩
end Go.Proofs.Ybulkbfby
