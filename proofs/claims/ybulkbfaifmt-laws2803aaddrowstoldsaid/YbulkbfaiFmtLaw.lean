/-
  THE WALK OF THE LAW (function 3). By an AI agent.
-/
import Derived.Test.YbulkbfaiFmtState
import Derived.Deep.QuietTactic
import Derived.BigQuiet
import Derived.WalkSmall
set_option linter.unusedSimpArgs false
namespace Go.Proofs.YbulkbfaiFmt
open Go.RowKit Go.Extern.Stop Go.Stop Go.Extern

/-- '[]byte(s)': the new world as a letter. -/
theorem conv (w : World) (s : ByteArray) : ∃ c w', (convert 9 40 (.string s)).run Ybaf.prog w = .ok (.slice (some ⟨w.heap.size, 0, none⟩) s.size c) w' ∧ w'.heap.size = w.heap.size + 1 ∧ Below w.heap.size w w' ∧ Lib.Bytes w' w.heap.size 0 s := by
  refine ⟨_, _, run_bytes_of_string w 9 40 5 s Ybaf.underlying9 Ybaf.underlying40 Ybaf.underlying5, by simp, ((Below.refl _ w).drew).alloc (Nat.le_refl _) _, ?_⟩
  intro i hi
  have h : (w.drew.alloc (.cells (bytesRow s (grownCap w s.size 0 5)) 5 ((bytesRow s (grownCap w s.size 0 5)).size, (bytesRow s (grownCap w s.size 0 5)).size + 1))).heap[w.heap.size]? = some (.cells (bytesRow s (grownCap w s.size 0 5)) 5 ((bytesRow s (grownCap w s.size 0 5)).size, (bytesRow s (grownCap w s.size 0 5)).size + 1)) := heap_alloc_new w.drew _
  rw [cell_of_row _ w.heap.size (0 + i) _ _ _ h]
  have hx : s.data[i]? = some s[i] := by rw [Array.getElem?_eq_getElem hi]; rfl
  simp [bytesRow, Array.getElem?_append, hi, hx]
  try rfl

/-- The rows, as they lie in memory. -/
structure RowAt (b off k : Nat) (holder raw : ByteArray) (kind n : Int) (w : World) : Prop where
  c0 : w.cell? ⟨b, off + k * 4, none⟩ = some (.string holder)
  c1 : w.cell? ⟨b, off + k * 4 + 1, none⟩ = some (.int .u8 kind)
  c2 : w.cell? ⟨b, off + k * 4 + 1 + 1, none⟩ = some (.int .u64 n)
  c3 : w.cell? ⟨b, off + k * 4 + 1 + 1 + 1, none⟩ = some (.string raw)
  k0 : 0 ≤ kind
  k1 : kind ≤ 255
  n0 : 0 ≤ n
  n1 : n ≤ 18446744073709551615
  rs : raw.size ≤ maxLen

theorem RowAt.later {b off k B : Nat} {holder raw : ByteArray} {kind n : Int} {w wr : World} (h : RowAt b off k holder raw kind n w) (hb : Below B w wr) (hlt : b < B) : RowAt b off k holder raw kind n wr :=
  ⟨(hb.cell (p := ⟨b, _, none⟩) hlt).trans h.c0, (hb.cell (p := ⟨b, _, none⟩) hlt).trans h.c1, (hb.cell (p := ⟨b, _, none⟩) hlt).trans h.c2, (hb.cell (p := ⟨b, _, none⟩) hlt).trans h.c3, h.k0, h.k1, h.n0, h.n1, h.rs⟩

theorem lies_mk {B Q h1 c1 h2 c2 : Nat} {s1 s2 : ByteArray} {p : Int} {vw va : Value} {L : List (ByteArray × Nat)} {w w4 : World} (st : St B false p vw va L w w4)
    (q0 : w4.cell? ⟨Q, 0, none⟩ = some (.slice (some ⟨h1, 0, none⟩) s1.size c1)) (q1 : w4.cell? ⟨Q, 1, none⟩ = some (.slice (some ⟨h2, 0, none⟩) s2.size c2)) (b1 : Lib.Bytes w4 h1 0 s1) (b2 : Lib.Bytes w4 h2 0 s2) : Lies (B + 1) B Q h1 c1 h2 c2 s1 s2 p va w4 :=
  ⟨st.r0, st.r4 rfl, st.r6, st.f4, st.f6, st.m5, st.g5, q0, q1, b1, b2⟩
theorem bytes_below {B : Nat} {w w' : World} {b : Nat} {s : ByteArray} (h : Lib.Bytes w b 0 s) (hb : Below B w w') (hlt : b < B) : Lib.Bytes w' b 0 s := fun i hi => (hb.cell (p := ⟨b, 0 + i, none⟩) hlt).trans (h i hi)

theorem wv_le (l : List UInt8) : wv l ≤ 9007199254740991 := by
  unfold wv
  split
  · rename_i h
    simp only [Bool.and_eq_true, decide_eq_true_eq] at h
    exact h.2
  · exact Nat.zero_le _

theorem parse_yes (s : ByteArray) (v : Nat) (w : World) (hs : s.size ≤ maxLen) (hok : okB s.data.toList = true) (hv : wv s.data.toList = v) :
    Calls Ybaf.prog 7 #[.string s] w fun e w' => e = .returned (.tuple #[.int .u64 v, .bool true]) ∧ w' = w :=
  (parse_any s w hs).mono fun e w' ⟨⟨x, he, hx⟩, hw⟩ => ⟨by rw [he, hx hok, hok, hv], hw⟩
theorem parse_no (s : ByteArray) (w : World) (hs : s.size ≤ maxLen) (hok : okB s.data.toList = false) :
    Calls Ybaf.prog 7 #[.string s] w fun e w' => (∃ x : Int, e = .returned (.tuple #[.int .u64 x, .bool false])) ∧ w' = w :=
  (parse_any s w hs).mono fun e w' ⟨⟨x, he, _⟩, hw⟩ => ⟨⟨x, by rw [he, hok]⟩, hw⟩

theorem form0 {base : Nat} {v : Value} {n : Nat} {xs : List Value} {wr : World} (h : wr.ownsRow base 59 2 v n xs) (h0 : n = 0) : ∃ a c, v = .slice a 0 c := by
  subst h0
  rcases h.2 with ⟨hv, _⟩ | ⟨g, cap, cur, hv, _⟩
  · exact ⟨_, _, hv⟩
  · exact ⟨_, _, hv⟩

theorem form1 {base : Nat} {v : Value} {n : Nat} {xs : List Value} {wr : World} (h : wr.ownsRow base 59 2 v n xs) (h0 : n ≠ 0) :
    ∃ g cap cur, v = .slice (some ⟨g, 0, none⟩) n cap ∧ base ≤ g ∧ wr.heap[g]? = some (.cells cur 59 (0, 0)) ∧ n ≤ cap ∧ cap ≤ maxLen ∧ cur.size = cap * 2 ∧ cur.toList.take (n * 2) = xs := by
  rcases h.2 with ⟨_, hn⟩ | h
  · exact absurd hn h0
  · exact h

theorem recs_get (L : List (ByteArray × Nat)) (j : Nat) (hj : j < L.length) : (recs L)[j * 2]? = some (.string L[j].1) ∧ (recs L)[j * 2 + 1]? = some (.int .u64 L[j].2) := by
  induction L generalizing j with
  | nil => simp at hj
  | cons x L ih =>
    cases j with
    | zero => simp [recs]
    | succ j =>
      have h := ih j (by simpa using hj)
      have e1 : (j + 1) * 2 = j * 2 + 1 + 1 := by omega
      simp only [recs, List.flatMap_cons, List.cons_append, List.nil_append, e1, List.getElem?_cons_succ, List.getElem_cons_succ]
      exact h

theorem rec_cells {L : List (ByteArray × Nat)} {g : Nat} {cur : Array Value} {wr : World} (hg : wr.heap[g]? = some (.cells cur 59 (0, 0))) (ht : cur.toList.take (L.length * 2) = recs L) (j : Nat) (hj : j < L.length) :
    wr.cell? ⟨g, j * 2, none⟩ = some (.string L[j].1) ∧ wr.cell? ⟨g, j * 2 + 1, none⟩ = some (.int .u64 L[j].2) := by
  obtain ⟨h1, h2⟩ := recs_get L j hj
  rw [← ht, List.getElem?_take_of_lt (by omega)] at h1 h2
  exact ⟨by rw [cell_of_row wr g (j * 2) cur 59 (0, 0) hg]; simpa using h1, by rw [cell_of_row wr g (j * 2 + 1) cur 59 (0, 0) hg]; simpa using h2⟩

theorem st_start (w : World) (p : Int) (h : 0 ≤ p ∧ p ≤ 9007199254740991) : St w.heap.size false p (.slice none 0 0) (.slice none 0 0) [] w
    ((w.alloc (.cells #[.string ⟨#[]⟩, .int .i64 0, .bool false, .int .i64 0, .slice none 0 0, .slice none 0 0, .slice none 0 0, .slice none 0 0, .pointer none] 35)).alloc
      (.cells #[.pointer (some ⟨w.heap.size, 0, none⟩), .bool false, .bool false, .nilIface, .nilIface, .nilIface, .int .u64 p, .map none, .slice none 0 0, .slice none 0 0, .slice none 0 0, .bool false, .slice none 0 0, .slice none 0 0, .slice none 0 0] 47)) := by
  refine ⟨?_, by simp, ?_, ?_, ?_, ?_, ?_, ?_, fun _ => ?_, fun e => (by cases e), ?_, ?_, ?_, ?_, ?_, fun _ => h, World.ownsRow_nil _ _ _ _, World.ownsRow_nil _ _ _ _, fun g hg => (by cases hg)⟩
  · exact ((Below.refl _ w).alloc (Nat.le_refl _) _).alloc (by simp) _
  all_goals simp [go_sem]

set_option maxHeartbeats 3200000 in
set_option maxRecDepth 100000 in
theorem law_plain (F : Interp) (start : Int) (b off len cap : Nat) (w : World) (hF : F.answers w.tape) (h0 : 0 ≤ start) (h1 : start ≤ 18446744073709551615) (hlen : len ≤ 1024) (hb : b < w.heap.size)
    (hrow : ∀ k, k < len → ∃ holder raw kind n, RowAt b off k holder raw kind n w) :
    Calls Ybaf.prog 3 #[.int .u64 start, .bool false, .slice (some ⟨b, off, none⟩) len cap] w fun e w' => e = .returned (.bool true) ∧ Below w.heap.size w w' := by
  have HR : Hid (∀ k, k < len → ∃ holder raw kind n, RowAt b off k holder raw kind n w) := hrow
  clear hrow
  have hs31 : ∀ (w : World) (a : Option Addr) (n c n' c' : Nat), (binOp .neq 31 (.slice a n c) (.slice none n' c')).run Ybaf.prog w = .ok (.bool (!a.isNone)) w := fun w a n c n' c' => run_neq_slice_nil_any w 31 _ a n c n' c' Ybaf.underlying31
  have hs29 : ∀ (w : World) (a : Option Addr) (n c n' c' : Nat), (binOp .neq 29 (.slice a n c) (.slice none n' c')).run Ybaf.prog w = .ok (.bool (!a.isNone)) w := fun w a n c n' c' => run_neq_slice_nil_any w 29 _ a n c n' c' Ybaf.underlying29
  have hm39 : ∀ (w : World) (r : Option Nat), (binOp .neq 39 (.map r) (.map none)).run Ybaf.prog w = .ok (.bool (!r.isNone)) w := fun w r => run_neq_map_nil w 39 _ _ r Ybaf.underlying39
  go_enter Ybaf.func3, Ybaf.ntmps3
  go_wp2
  go_loopw [10, 11, 12, 43] (fun e q vw i wr => ∃ (k : Nat) (er : Bool) (p : Int) (va : Value) (L : List (ByteArray × Nat)), k ≤ len ∧ i = .int .i64 k ∧ e = .bool er ∧ q = .int .u64 p ∧ L.length ≤ k ∧ St w.heap.size er p vw va L w wr)
    (fun _ _ _ i _ => len - (intOf i).toNat)
  case atStart => exact ⟨0, false, _, _, [], Nat.zero_le _, rfl, rfl, rfl, Nat.le_refl _, st_start w _ ⟨by omega, by omega⟩⟩
  case round =>
    obtain ⟨k, er, p, va, L, hk, rfl, rfl, rfl, hL, hst⟩ := hrel
    have HS : Hid (St w.heap.size er p u12 va L w wr) := hst
    clear hst
    by_cases hlt : k < len
    · obtain ⟨holder, raw, kind, n, hR⟩ := HR.out k hlt
      obtain ⟨c0, c1, c2, c3, k0, k1, n0, n1, rs⟩ := hR.later HS.out.below hb
      clear hR
      go_wp2_with fail
      refine (text_any holder raw kind n _ k0 k1 n0 n1).mono ?_
      rintro e w1 ⟨⟨s, rfl, hs⟩, hb1⟩
      clear c0 c1 c2 c3 k0 k1 n0 n1
      obtain ⟨ca, w2, hcv1, sz2, bl2, by2⟩ := conv w1 holder
      obtain ⟨cb, w3, hcv2, sz3, bl3, by3⟩ := conv w2 s
      have hq1 : w1.cell? ⟨wr.heap.size, 0, none⟩ = some (.string holder) := (hb1.cell (p := ⟨wr.heap.size, 0, none⟩) (by simp)).trans (by simp [go_sem])
      have sz1 : wr.heap.size < w1.heap.size := by have := hb1.size; simp at this; omega
      have B1 : Hid (Below wr.heap.size wr w1) := ((Below.refl _ wr).alloc (Nat.le_refl _) _).trans (hb1.mono (by simp))
      have B3 : Hid (Below w1.heap.size w1 w3) := bl2.trans (bl3.mono (by omega))
      have Y2 : Hid (Lib.Bytes w2 w1.heap.size 0 holder) := by2
      have Y3 : Hid (Lib.Bytes w3 w2.heap.size 0 s) := by3
      have Z2 : Hid (w2.heap.size = w1.heap.size + 1) := sz2
      have Z3 : Hid (w3.heap.size = w2.heap.size + 1) := sz3
      have BL3 : Hid (Below w2.heap.size w2 w3) := bl3
      clear by2 by3 sz2 sz3 bl2 bl3 hb1
      go_wp2_with fail
      obtain ⟨w4, hw4⟩ : ∃ w4, w4 = w3.alloc (.cells #[.slice (some ⟨w1.heap.size, 0, none⟩) holder.size ca, .slice (some ⟨w2.heap.size, 0, none⟩) s.size cb, .slice none 0 0] 54) := ⟨_, rfl⟩
      rw [← hw4]
      have B4 : Below wr.heap.size wr w4 := by rw [hw4]; exact (B1.out.trans (B3.out.mono (by omega))).alloc (by have := Z2.out; have := Z3.out; omega) _
      have q0 : w4.cell? ⟨w3.heap.size, 0, none⟩ = some (.slice (some ⟨w1.heap.size, 0, none⟩) holder.size ca) := by rw [hw4]; simp [go_sem]
      have q1 : w4.cell? ⟨w3.heap.size, 1, none⟩ = some (.slice (some ⟨w2.heap.size, 0, none⟩) s.size cb) := by rw [hw4]; simp [go_sem]
      have y2 : Lib.Bytes w4 w1.heap.size 0 holder := by rw [hw4]; exact bytes_alloc (bytes_below Y2.out BL3.out (by have := Z2.out; omega)) _
      have y3 : Lib.Bytes w4 w2.heap.size 0 s := by rw [hw4]; exact bytes_alloc Y3.out _
      have hq4 : w4.cell? ⟨wr.heap.size, 0, none⟩ = some (.string holder) := by
        rw [hw4, World.cell?_alloc_some _ _ _ (by rw [B3.out.cell (p := ⟨wr.heap.size, 0, none⟩) sz1, hq1]; rfl), B3.out.cell (p := ⟨wr.heap.size, 0, none⟩) sz1, hq1]
      have sz4 : w4.heap.size = w3.heap.size + 1 := by rw [hw4]; simp
      have st4 := HS.out.later B4
      have ltA := fun j h => (HS.out.ownA.lt j h).2
      have ltA : Hid (∀ j, va.ownBlock = some j → j < wr.heap.size) := ltA
      have hwr : w.heap.size + 2 ≤ wr.heap.size := HS.out.size
      have hF4 : F.answers w4.tape := by rw [st4.below.tape]; exact hF
      clear hw4 hcv1 hcv2 Y2 Y3 BL3 B3 B1 hq1 HS
      have hss : s.size ≤ maxLen := by unfold maxLen at rs ⊢; omega
      have hq4lt : wr.heap.size < w4.heap.size := World.block_lt_of_cell? w4 _ hq4
      have hwB := st4.size
      cases er with
      | true =>
        obtain ⟨a, r4⟩ := st4.r4' rfl
        refine (add_stop (w.heap.size + 1) k _ 61 _ w4 r4).mono ?_
        rintro e w5 ⟨rfl, rfl⟩
        have ST : Hid (St w.heap.size true p u12 va L w w5) := st4
        clear st4 q0 q1 y2 y3 r4 hF4
        go_wp2
        go_roundw
        case rel => exact ⟨k + 1, true, p, va, L, by omega, by go_num, rfl, rfl, by omega, ST.out⟩
        case measure => simp [intOf]; omega
      | false =>
        have lies := lies_mk st4 q0 q1 y2 y3
        have Z := Z2.out
        have Z' := Z3.out
        by_cases hz : holder.size = 0
        · have hz' : ((holder.size : Int) == 0) = true := by simp [hz]
          refine (add_empty F (w.heap.size + 1) w.heap.size w3.heap.size _ _ _ _ _ _ p va none k w4 hF4 lies (by omega) hz).mono ?_
          rintro e w5 hf
          obtain rfl : e = .returned (.tuple #[]) := hf.1
          have hq5 : w5.cell? ⟨wr.heap.size, 0, none⟩ = some (.string holder) := (hf.2.1.cellOf wr.heap.size 0 hq4lt (by omega) (by omega) (by simp)).trans hq4
          have ST : Hid (St w.heap.size true p u12 va L w w5) := st4.fault hf
          clear hf hF4 hq4 B4
          clear lies st4 q0 q1 y2 y3 Z Z' hz
          go_wp2
          go_roundw
          case rel => exact ⟨k + 1, true, p, va, L, by omega, by go_num, rfl, rfl, by omega, ST.out⟩
          case measure => simp [intOf]; omega
        · have hz' : ((holder.size : Int) == 0) = false := by rw [beq_eq_false_iff_ne]; omega
          by_cases hok : okB s.data.toList = true
          · obtain ⟨hp0, hp1⟩ := st4.pOk rfl
            have hv1 : wv s.data.toList ≤ 9007199254740991 := wv_le s.data.toList
            obtain ⟨v, hv⟩ : ∃ v, wv s.data.toList = v := ⟨_, rfl⟩
            rw [hv] at hv1
            by_cases hov : 9007199254740991 < p + v
            · refine (add_over F (w.heap.size + 1) w.heap.size w3.heap.size _ _ _ _ _ _ p va none k w4 hF4 lies (by omega) hz hss v hok hv hv1 hp0 hp1 hov (by omega)).mono ?_
              rintro e w5 hf
              obtain rfl : e = .returned (.tuple #[]) := hf.1
              have hq5 : w5.cell? ⟨wr.heap.size, 0, none⟩ = some (.string holder) := (hf.2.1.cellOf wr.heap.size 0 hq4lt (by omega) (by omega) (by simp)).trans hq4
              have ST : Hid (St w.heap.size true (p + v) u12 va L w w5) := st4.fault hf
              clear hf hF4 hq4 B4
              have PA := fun W => parse_yes s v W hss hok hv
              replace PA : Hid _ := PA
              clear lies st4 q0 q1 y2 y3 Z Z' hz hok hv
              go_wp2_with fail
              refine Calls.mono (PA.out _) ?_
              rintro e w6 ⟨rfl, rfl⟩
              clear PA
              go_wp2
              go_roundw
              case rel => exact ⟨k + 1, true, p + v, va, L, by omega, by go_num, rfl, rfl, by omega, ST.out⟩
              case measure => simp [intOf]; omega
            · have nQ : some w3.heap.size ≠ va.ownBlock := fun h => by have := ltA.out _ h.symm; omega
              have nh : some w1.heap.size ≠ va.ownBlock := fun h => by have := ltA.out _ h.symm; omega
              have nq : some wr.heap.size ≠ va.ownBlock := fun h => by have := ltA.out _ h.symm; omega
              refine (add_good (w.heap.size + 1) w.heap.size w3.heap.size w1.heap.size ca w2.heap.size cb holder s p va (w.heap.size + 2) L.length (recs L) k w4 lies hz hss v hok hv hv1 hp0 hp1 hov (by omega) (by omega) st4.ownA (by omega) (by omega) st4.size (by omega) nQ nh).mono ?_
              rintro e w5 ha
              obtain rfl : e = .returned (.tuple #[]) := ha.1
              obtain ⟨va', hh⟩ := st4.half ha
              have hq5 : w5.cell? ⟨wr.heap.size, 0, none⟩ = some (.string holder) := (ha.2.1.cellOf wr.heap.size 0 hq4lt (by omega) (by omega) nq).trans hq4
              have PA := fun W => parse_yes s v W hss hok hv
              replace PA : Hid _ := PA
              have HH : Hid (Half w.heap.size (p + v) u12 va' L holder v w w4 w5) := hh
              have hq5lt : wr.heap.size < w5.heap.size := World.block_lt_of_cell? w5 _ hq5
              clear lies st4 q0 q1 y2 y3 Z Z' hz hok hv hh ha hF4 hq4 B4 nQ nh nq ltA
              obtain ⟨i0, hi0, hz0, hz1, hz2⟩ := info_parts info59
              go_wp2_with fail
              refine Calls.mono (PA.out _) ?_
              rintro e w6 ⟨rfl, rfl⟩
              clear PA
              go_wp2_with (at_builtin; refine wpList_append_lies _ rfl _ _ _ rfl (w.heap.size + 2) 59 i0 _ 2 24 Ybaf.underlying30 hi0 hz0 hz1 hz2 rfl (by omega) u12 L.length (recs L) rfl (HH.out.ownW.alloc _) ⟨w6.heap.size, 0, none⟩ 1 1 [.string holder, .int .u64 v] rfl rfl (World.news_of_block (cs := #[.string holder, .int .u64 v]) (t := 59) (fr := (0, 0)) (heap_alloc_new w6 _)) (by simp [Value.oneCell']) (by omega) (by unfold maxLen; omega) (by omega) (by have := HH.out.size; simp; omega) (w6.heap.size + 1) (by simp) ?_; intro g cap' w7 hown7 hgrow7 hat7 hlt7)
              go_roundw
              case rel => exact ⟨k + 1, false, p + v, va', L ++ [(holder, v)], by omega, by go_num, rfl, rfl, by simp; omega, HH.out.full hown7 hgrow7 hat7 ⟨by omega, by omega⟩⟩
              case measure => simp [intOf]; omega
          · have hok' : okB s.data.toList = false := by cases h : okB s.data.toList <;> simp_all
            clear hok
            refine (add_bad F (w.heap.size + 1) w.heap.size w3.heap.size _ _ _ _ _ _ p va none k w4 hF4 lies (by omega) hz hss hok' (by omega)).mono ?_
            rintro e w5 hf
            obtain rfl : e = .returned (.tuple #[]) := hf.1
            have hq5 : w5.cell? ⟨wr.heap.size, 0, none⟩ = some (.string holder) := (hf.2.1.cellOf wr.heap.size 0 hq4lt (by omega) (by omega) (by simp)).trans hq4
            have ST : Hid (St w.heap.size true p u12 va L w w5) := st4.fault hf
            clear hf hF4 hq4 B4
            have PA := fun W => parse_no s W hss hok'
            replace PA : Hid _ := PA
            clear lies st4 q0 q1 y2 y3 Z Z' hz hok'
            go_wp2_with fail
            refine Calls.mono (PA.out _) ?_
            rintro e w6 ⟨⟨x, rfl⟩, rfl⟩
            clear PA
            go_wp2
            go_roundw
            case rel => exact ⟨k + 1, true, p, va, L, by omega, by go_num, rfl, rfl, by omega, ST.out⟩
            case measure => simp [intOf]; omega
    · have m4 := HS.out.m4
      have m5 := HS.out.m5
      have m6 := HS.out.m6
      have r3 := HS.out.r3
      have r5 := HS.out.r5
      have r6 := HS.out.r6
      have r7 := HS.out.r7
      by_cases hL0 : L.length = 0
      · obtain ⟨aw, cw, hvw⟩ := form0 HS.out.ownW hL0
        obtain ⟨aa, ca, hva⟩ := form0 HS.out.ownA hL0
        have HB : Hid (Below w.heap.size w wr) := HS.out.below
        rw [hva] at m5
        rw [hvw]
        cases er with
        | false =>
          have r4 := HS.out.r4 rfl
          clear HS
          go_wp2
          refine wp_loop_rounds 1 ?_
          rw [rounds_succ]
          go_wp2
          go_ret
          exact ⟨rfl, HB.out⟩
        | true =>
          obtain ⟨a, r4⟩ := HS.out.r4' rfl
          clear HS
          go_wp2
          refine wp_loop_rounds 1 ?_
          rw [rounds_succ]
          go_wp2
          go_ret
          exact ⟨rfl, HB.out⟩
      · obtain ⟨gw, cw, curw, hvw, gw2, hw, hcw, _, hsw, htw⟩ := form1 HS.out.ownW hL0
        obtain ⟨ga, ca, cura, hva, ga2, ha, hca, _, hsa, hta⟩ := form1 HS.out.ownA hL0
        have HB : Hid (Below w.heap.size w wr) := HS.out.below
        have cells := fun j (hj : j < L.length) => rec_cells hw htw j hj
        have cells' := fun j (hj : j < L.length) => rec_cells ha hta j hj
        have hn : L.length ≤ 1024 := by omega
        obtain ⟨n, hnl⟩ : ∃ n, n = L.length := ⟨_, rfl⟩
        rw [← hnl] at hva hvw hn
        rw [hva] at m5
        rw [hvw]
        have HC : Hid (∀ j, j < n → ∃ (s : ByteArray) (v : Nat), wr.cell? ⟨gw, j * 2, none⟩ = some (.string s) ∧ wr.cell? ⟨gw, j * 2 + 1, none⟩ = some (.int .u64 v) ∧ wr.cell? ⟨ga, j * 2, none⟩ = some (.string s) ∧ wr.cell? ⟨ga, j * 2 + 1, none⟩ = some (.int .u64 v)) := fun j hj =>
          ⟨_, _, (cells j (by omega)).1, (cells j (by omega)).2, (cells' j (by omega)).1, (cells' j (by omega)).2⟩
        clear cells cells' hw ha htw hta hsw hsa hL0 hL hnl
        cases er with
        | false =>
          have r4 := HS.out.r4 rfl
          clear HS
          go_wp2
          obtain ⟨wo, hwo⟩ : ∃ wo : World, wo = wr := ⟨_, rfl⟩
          subst hwo
          go_loopw [120] (fun i wq => ∃ j m : Nat, j ≤ n ∧ i = .int .i64 j ∧ wq = wo.drewN m) (fun i _ => n - (intOf i).toNat)
          case atStart => exact ⟨0, 0, Nat.zero_le _, rfl, rfl⟩
          case round =>
            obtain ⟨j, m, hj, rfl, rfl⟩ := hrel
            by_cases hjn : j < n
            · obtain ⟨s, v, k0, k1, k2, k3⟩ := HC.out j hjn
              have hj0 : (0 : Int) ≤ (j : Int) := by omega
              have hj1 : (j : Int) < (n : Int) := by omega
              go_wp2
              go_quiet (fail)
              go_wp2
              go_roundw
              case rel => exact ⟨j + 1, _, by omega, by go_num, rfl⟩
              case measure => simp [intOf]; omega
            · go_wp2
              go_ret
              exact ⟨rfl, below_drewN HB.out _⟩
        | true =>
          obtain ⟨a, r4⟩ := HS.out.r4' rfl
          clear HS
          go_wp2
          obtain ⟨wo, hwo⟩ : ∃ wo : World, wo = wr := ⟨_, rfl⟩
          subst hwo
          go_loopw [120] (fun i wq => ∃ j m : Nat, j ≤ n ∧ i = .int .i64 j ∧ wq = wo.drewN m) (fun i _ => n - (intOf i).toNat)
          case atStart => exact ⟨0, 0, Nat.zero_le _, rfl, rfl⟩
          case round =>
            obtain ⟨j, m, hj, rfl, rfl⟩ := hrel
            by_cases hjn : j < n
            · obtain ⟨s, v, k0, k1, k2, k3⟩ := HC.out j hjn
              have hj0 : (0 : Int) ≤ (j : Int) := by omega
              have hj1 : (j : Int) < (n : Int) := by omega
              go_wp2
              go_quiet (fail)
              go_wp2
              go_roundw
              case rel => exact ⟨j + 1, _, by omega, by go_num, rfl⟩
              case measure => simp [intOf]; omega
            · go_wp2
              go_ret
              exact ⟨rfl, below_drewN HB.out _⟩
end Go.Proofs.YbulkbfaiFmt
