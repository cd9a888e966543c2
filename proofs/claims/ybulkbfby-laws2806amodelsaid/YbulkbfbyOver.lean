/-
  THE WALKS OF '(*Sim).overheard' (function 7). By an AI agent.
-/
import Derived.Test.YbulkbfbyPhase
import Derived.Deep.MidRow
namespace Go.Proofs.Ybulkbfby
open Go.RowKit

/-- What lies in memory: the Sim at block S, its partition at block Pb, its nodes at block Nb. -/
structure Net (S Pb Nb n : Nat) (s0 s1 s2 s3 heal hr : Int) (t : Nat) (vt : Int) (w : World) : Prop where
  sp : w.cell? ⟨S, 6, none⟩ = some (.pointer (some ⟨Pb, 0, none⟩))
  sn : w.cell? ⟨S, 7, none⟩ = some (.slice (some ⟨Nb, 0, none⟩) n n)
  c0 : w.cell? ⟨Pb, 0, none⟩ = some (.int .u64 s0)
  c1 : w.cell? ⟨Pb, 1, none⟩ = some (.int .u64 s1)
  c2 : w.cell? ⟨Pb, 2, none⟩ = some (.int .u64 s2)
  c3 : w.cell? ⟨Pb, 3, none⟩ = some (.int .u64 s3)
  c4 : w.cell? ⟨Pb, 4, none⟩ = some (.int .i64 heal)
  c5 : w.cell? ⟨Pb, 5, none⟩ = some (.int .i64 hr)
  vt : w.cell? ⟨Nb, t * 22, none⟩ = some (.int .i64 vt)
  tn : t < n
  nn : n ≤ 1025

theorem Net.later {S Pb Nb n : Nat} {s0 s1 s2 s3 heal hr : Int} {t : Nat} {vt : Int} {w w' : World} (h : Net S Pb Nb n s0 s1 s2 s3 heal hr t vt w) (hb : Below w.heap.size w w') : Net S Pb Nb n s0 s1 s2 s3 heal hr t vt w' := by
  have lS := World.block_lt_of_cell? w _ h.sp
  have lP := World.block_lt_of_cell? w _ h.c5
  have lN := World.block_lt_of_cell? w _ h.vt
  have c := fun o => hb.cell (p := ⟨Pb, o, none⟩) lP
  exact ⟨(hb.cell (p := ⟨S, 6, none⟩) lS).trans h.sp, (hb.cell (p := ⟨S, 7, none⟩) lS).trans h.sn, (c 0).trans h.c0, (c 1).trans h.c1, (c 2).trans h.c2, (c 3).trans h.c3, (c 4).trans h.c4, (c 5).trans h.c5, (hb.cell (p := ⟨Nb, t * 22, none⟩) lN).trans h.vt, h.tn, h.nn⟩

/-- Cells written into a block from B on. -/
theorem below_cells {B b : Nat} {a : World} (hb : B ≤ b) : ∀ (vs : List Value) (o : Nat) (w : World), Below B a w → Below B a (w.setCells b o vs)
  | [], _, _, h => h
  | v :: r, o, _, h => below_cells hb r (o + 1) _ (h.setCell hb v)
theorem size_cells (b : Nat) : ∀ (vs : List Value) (o : Nat) (w : World), (w.setCells b o vs).heap.size = w.heap.size
  | [], _, _ => rfl
  | _ :: r, o, _ => (size_cells b r (o + 1) _).trans (by simp)

/-- A great struct stored into a variable of the call's own: the world behind it as a letter. -/
theorem store_fresh {P : Program} {ops : Array Oper} {rest : List Oper} {op : Oper} {a : Act} {w : World} {Q : Exit → Act → World → Prop} (hgd : op.guard = none) (ty : TypeId) (x y : Operand) (ho : op.op = .store ty x y)
    (b : Nat) (cells : Array Value) (hx : a.eval x = .pointer (some ⟨b, 0, none⟩)) (hy : a.eval y = .agg cells)
    (ht : w.there b 0 cells.size) (hi : (P.info? ty).map (·.size) = some cells.size) (h1 : cells.all (·.oneCell') = true)
    (h : ∀ w', Below b w w' → w'.rangeAt b 0 cells.toList → w.heap.size ≤ w'.heap.size → wpList P ops Q rest (a.put op.dst undef) w') : wpList P ops Q (op :: rest) a w :=
  wpList_store_mid hgd ty x y ho b 0 cells hx hy ht hi h1 (h _ (below_cells (Nat.le_refl _) _ _ _ (Below.refl _ _)) (World.rangeAt_setCells_same w b 0 cells.toList (by simpa using ht)) (Nat.le_of_eq (size_cells b _ _ _).symm))

theorem there_new (w : World) (Z : Array Value) (t : TypeId) (n : Nat) (hn : Z.size = n) : (w.alloc (.cells Z t)).there w.heap.size 0 n := by
  intro j hj
  refine ⟨?_, World.frozen?_alloc_at _ _ _ _ rfl⟩
  rw [World.cell?_alloc_at _ _ _ _ rfl]
  simp
  omega

/-- No hearer. -/
theorem ovh_none {S Pb Nb n : Nat} {s0 s1 s2 s3 heal : Int} {t : Nat} {vt : Int} (i m : Value) (w : World) (N : Net S Pb Nb n s0 s1 s2 s3 heal 0 t vt w) :
    Calls Yba.prog 7 #[.pointer (some ⟨S, 0, none⟩), i, m] w fun e w' => e = .returned (.bool false) ∧ w' = w := by
  obtain ⟨sp, _, _, _, _, _, _, c5, _, _, _⟩ := N
  go_enter Yba.func7, Yba.ntmps7
  go_wp2
  go_ret
  exact ⟨rfl, rfl⟩

set_option maxHeartbeats 1600000 in
set_option maxRecDepth 100000 in
/-- Another height or round. -/
theorem ovh_far70 {S Pb Nb n : Nat} {s0 s1 s2 s3 heal hr : Int} {t : Nat} {vt : Int} (h r : Int) (w : World) (N : Net S Pb Nb n s0 s1 s2 s3 heal hr t vt w) (hz : hr ≠ 0) (hh : ¬ (h = 1 ∧ r = 0)) :
    Calls Yba.prog 7 #[.pointer (some ⟨S, 0, none⟩), .int .i64 t, .iface 70 (prop h r)] w fun e w' => e = .returned (.bool false) ∧ Below w.heap.size w w' := by
  obtain ⟨sp, _, _, _, _, _, _, c5, _, _, _⟩ := N
  have hz' : (hr == 0) = false := by rw [beq_eq_false_iff_ne]; exact hz
  clear hz
  by_cases h1 : h = 1
  · have hb : (h != 1) = false := by simp [h1]
    have hc : (r != 0) = true := by rw [bne_iff_ne]; exact fun e => hh ⟨h1, e⟩
    clear hh h1
    go_enter Yba.func7, Yba.ntmps7
    go_wp2_with (go_at_call 32; refine (pos70 h r _).mono ?_; rintro e w1 ⟨rfl, hb1⟩)
    go_ret
    exact ⟨rfl, hb1⟩
  · have hb : (h != 1) = true := by simp [h1]
    clear hh h1
    go_enter Yba.func7, Yba.ntmps7
    go_wp2_with (go_at_call 32; refine (pos70 h r _).mono ?_; rintro e w1 ⟨rfl, hb1⟩)
    go_ret
    exact ⟨rfl, hb1⟩

set_option maxHeartbeats 1600000 in
set_option maxRecDepth 100000 in
/-- Another height or round. -/
theorem ovh_far73 {S Pb Nb n : Nat} {s0 s1 s2 s3 heal hr : Int} {t : Nat} {vt : Int} (st h r : Int) (w : World) (N : Net S Pb Nb n s0 s1 s2 s3 heal hr t vt w) (hz : hr ≠ 0) (hh : ¬ (h = 1 ∧ r = 0)) :
    Calls Yba.prog 7 #[.pointer (some ⟨S, 0, none⟩), .int .i64 t, .iface 73 (vote st h r)] w fun e w' => e = .returned (.bool false) ∧ Below w.heap.size w w' := by
  obtain ⟨sp, _, _, _, _, _, _, c5, _, _, _⟩ := N
  have hz' : (hr == 0) = false := by rw [beq_eq_false_iff_ne]; exact hz
  clear hz
  by_cases h1 : h = 1
  · have hb : (h != 1) = false := by simp [h1]
    have hc : (r != 0) = true := by rw [bne_iff_ne]; exact fun e => hh ⟨h1, e⟩
    clear hh h1
    go_enter Yba.func7, Yba.ntmps7
    go_wp2_with (go_at_call 35; refine (pos73 st h r _).mono ?_; rintro e w1 ⟨rfl, hb1⟩)
    go_ret
    exact ⟨rfl, hb1⟩
  · have hb : (h != 1) = true := by simp [h1]
    clear hh h1
    go_enter Yba.func7, Yba.ntmps7
    go_wp2_with (go_at_call 35; refine (pos73 st h r _).mono ?_; rintro e w1 ⟨rfl, hb1⟩)
    go_ret
    exact ⟨rfl, hb1⟩

set_option maxHeartbeats 1600000 in
set_option maxRecDepth 100000 in
/-- Another height or round. -/
theorem ovh_far79 {S Pb Nb n : Nat} {s0 s1 s2 s3 heal hr : Int} {t : Nat} {vt : Int} (h r : Int) (w : World) (N : Net S Pb Nb n s0 s1 s2 s3 heal hr t vt w) (hz : hr ≠ 0) (hh : ¬ (h = 1 ∧ r = 0)) :
    Calls Yba.prog 7 #[.pointer (some ⟨S, 0, none⟩), .int .i64 t, .iface 79 (chv h r)] w fun e w' => e = .returned (.bool false) ∧ Below w.heap.size w w' := by
  obtain ⟨sp, _, _, _, _, _, _, c5, _, _, _⟩ := N
  have hz' : (hr == 0) = false := by rw [beq_eq_false_iff_ne]; exact hz
  clear hz
  by_cases h1 : h = 1
  · have hb : (h != 1) = false := by simp [h1]
    have hc : (r != 0) = true := by rw [bne_iff_ne]; exact fun e => hh ⟨h1, e⟩
    clear hh h1
    go_enter Yba.func7, Yba.ntmps7
    go_wp2_with (go_at_call 39; refine (pos79 h r _).mono ?_; rintro e w1 ⟨rfl, hb1⟩)
    go_ret
    exact ⟨rfl, hb1⟩
  · have hb : (h != 1) = true := by simp [h1]
    clear hh h1
    go_enter Yba.func7, Yba.ntmps7
    go_wp2_with (go_at_call 39; refine (pos79 h r _).mono ?_; rintro e w1 ⟨rfl, hb1⟩)
    go_ret
    exact ⟨rfl, hb1⟩

set_option maxHeartbeats 1600000 in
set_option maxRecDepth 100000 in
/-- Another height or round. -/
theorem ovh_far81 {S Pb Nb n : Nat} {s0 s1 s2 s3 heal hr : Int} {t : Nat} {vt : Int} (h r : Int) (w : World) (N : Net S Pb Nb n s0 s1 s2 s3 heal hr t vt w) (hz : hr ≠ 0) (hh : ¬ (h = 1 ∧ r = 0)) :
    Calls Yba.prog 7 #[.pointer (some ⟨S, 0, none⟩), .int .i64 t, .iface 81 (prop h r)] w fun e w' => e = .returned (.bool false) ∧ Below w.heap.size w w' := by
  obtain ⟨sp, _, _, _, _, _, _, c5, _, _, _⟩ := N
  have hz' : (hr == 0) = false := by rw [beq_eq_false_iff_ne]; exact hz
  clear hz
  by_cases h1 : h = 1
  · have hb : (h != 1) = false := by simp [h1]
    have hc : (r != 0) = true := by rw [bne_iff_ne]; exact fun e => hh ⟨h1, e⟩
    clear hh h1
    go_enter Yba.func7, Yba.ntmps7
    go_wp2_with (go_at_call 41; refine (pos81 h r _).mono ?_; rintro e w1 ⟨rfl, hb1⟩)
    go_ret
    exact ⟨rfl, hb1⟩
  · have hb : (h != 1) = true := by simp [h1]
    clear hh h1
    go_enter Yba.func7, Yba.ntmps7
    go_wp2_with (go_at_call 41; refine (pos81 h r _).mono ?_; rintro e w1 ⟨rfl, hb1⟩)
    go_ret
    exact ⟨rfl, hb1⟩

set_option maxHeartbeats 1600000 in
set_option maxRecDepth 100000 in
theorem ovh_70 {S Pb Nb n : Nat} {s0 s1 s2 s3 heal hr : Int} {t : Nat} {vt : Int} (w : World) (N : Net S Pb Nb n s0 s1 s2 s3 heal hr t vt w) (hz : hr ≠ 0) :
    Calls Yba.prog 7 #[.pointer (some ⟨S, 0, none⟩), .int .i64 t, .iface 70 (prop 1 0)] w fun e w' => e = .returned (.bool true) ∧ Below w.heap.size w w' := by
  obtain ⟨sp, _, _, _, _, _, _, c5, _, _, _⟩ := N
  have hz' : (hr == 0) = false := by rw [beq_eq_false_iff_ne]; exact hz
  clear hz
  have t70 := ta70_70
  go_enter Yba.func7, Yba.ntmps7
  go_wp2_with fail
  refine (pos70 1 0 _).mono ?_
  rintro e w1 ⟨rfl, hb1⟩
  go_wp2_with (refine store_fresh rfl 70 _ _ rfl w1.heap.size _ rfl rfl (there_new w1 _ 70 38 rfl) (by kernel_rfl) (by simp [Value.oneCell']) ?_; intro w2 hb2 hr2 hs2)
  go_ret
  exact ⟨rfl, ((hb1.alloc hb1.size _).trans (hb2.mono hb1.size))⟩

set_option maxHeartbeats 1600000 in
set_option maxRecDepth 100000 in
theorem ovh_79 {S Pb Nb n : Nat} {s0 s1 s2 s3 heal hr : Int} {t : Nat} {vt : Int} (w : World) (N : Net S Pb Nb n s0 s1 s2 s3 heal hr t vt w) (hz : hr ≠ 0) :
    Calls Yba.prog 7 #[.pointer (some ⟨S, 0, none⟩), .int .i64 t, .iface 79 (chv 1 0)] w fun e w' => e = .returned (.bool false) ∧ Below w.heap.size w w' := by
  obtain ⟨sp, _, _, _, _, _, _, c5, _, _, _⟩ := N
  have hz' : (hr == 0) = false := by rw [beq_eq_false_iff_ne]; exact hz
  clear hz
  have t70 := ta79_70
  have t73 := ta79_73
  go_enter Yba.func7, Yba.ntmps7
  go_wp2_with (go_at_call 39; refine (pos79 1 0 _).mono ?_; rintro e w1 ⟨rfl, hb1⟩)
  go_ret
  exact ⟨rfl, hb1⟩

set_option maxHeartbeats 1600000 in
set_option maxRecDepth 100000 in
theorem ovh_81 {S Pb Nb n : Nat} {s0 s1 s2 s3 heal hr : Int} {t : Nat} {vt : Int} (w : World) (N : Net S Pb Nb n s0 s1 s2 s3 heal hr t vt w) (hz : hr ≠ 0) :
    Calls Yba.prog 7 #[.pointer (some ⟨S, 0, none⟩), .int .i64 t, .iface 81 (prop 1 0)] w fun e w' => e = .returned (.bool false) ∧ Below w.heap.size w w' := by
  obtain ⟨sp, _, _, _, _, _, _, c5, _, _, _⟩ := N
  have hz' : (hr == 0) = false := by rw [beq_eq_false_iff_ne]; exact hz
  clear hz
  have t70 := ta81_70
  have t73 := ta81_73
  go_enter Yba.func7, Yba.ntmps7
  go_wp2_with (go_at_call 41; refine (pos81 1 0 _).mono ?_; rintro e w1 ⟨rfl, hb1⟩)
  go_ret
  exact ⟨rfl, hb1⟩

set_option maxHeartbeats 1600000 in
set_option maxRecDepth 100000 in
/-- A prepare: the hearer hears it. -/
theorem ovh_prep {S Pb Nb n : Nat} {s0 s1 s2 s3 heal hr : Int} {t : Nat} {vt : Int} (w : World) (N : Net S Pb Nb n s0 s1 s2 s3 heal hr t vt w) (hz : hr ≠ 0) :
    Calls Yba.prog 7 #[.pointer (some ⟨S, 0, none⟩), .int .i64 t, .iface 73 (vote 1 1 0)] w fun e w' => e = .returned (.bool (vt == hr)) ∧ Below w.heap.size w w' := by
  have HN : Hid (Net S Pb Nb n s0 s1 s2 s3 heal hr t vt w) := N
  obtain ⟨sp, _, _, _, _, _, _, c5, _, tn, nn⟩ := N
  have hz' : (hr == 0) = false := by rw [beq_eq_false_iff_ne]; exact hz
  clear hz
  have t70 := ta73_70
  have t73 := ta73_73
  go_enter Yba.func7, Yba.ntmps7
  go_wp2_with fail
  refine (pos73 1 1 0 _).mono ?_
  rintro e w1 ⟨rfl, hb1⟩
  obtain ⟨sp', sn', _, _, _, _, _, _, v', _, _⟩ := HN.out.later hb1
  have lS := World.block_lt_of_cell? w1 _ sp'
  have lN := World.block_lt_of_cell? w1 _ v'
  clear sp c5
  have HL : Hid (Net S Pb Nb n s0 s1 s2 s3 heal hr t vt w1) := HN.out.later hb1
  clear sp' sn' v'
  go_wp2_with (refine store_fresh rfl 73 _ _ rfl w1.heap.size _ rfl rfl (there_new w1 _ 73 37 rfl) (by kernel_rfl) (by simp [Value.oneCell']) ?_; intro w2 hb2 hr2 hs2; have k0 := hr2 0 _ rfl; have B2 : Hid (Below w1.heap.size w1 w2) := ((Below.refl _ w1).alloc (Nat.le_refl _) _).trans hb2; have sp2 := (HL.out.later B2.out).sp; have sn2 := (HL.out.later B2.out).sn; have v2 := (HL.out.later B2.out).vt; clear hb2 hr2)
  go_ret
  exact ⟨rfl, hb1.trans (B2.out.mono hb1.size)⟩

set_option maxHeartbeats 1600000 in
set_option maxRecDepth 100000 in
/-- A precommit. -/
theorem ovh_prec {S Pb Nb n : Nat} {s0 s1 s2 s3 heal hr : Int} {t : Nat} {vt : Int} (w : World) (N : Net S Pb Nb n s0 s1 s2 s3 heal hr t vt w) (hz : hr ≠ 0) :
    Calls Yba.prog 7 #[.pointer (some ⟨S, 0, none⟩), .int .i64 t, .iface 73 (vote 2 1 0)] w fun e w' => e = .returned (.bool false) ∧ Below w.heap.size w w' := by
  obtain ⟨sp, _, _, _, _, _, _, c5, _, _, _⟩ := N
  have hz' : (hr == 0) = false := by rw [beq_eq_false_iff_ne]; exact hz
  clear hz
  have t70 := ta73_70
  have t73 := ta73_73
  go_enter Yba.func7, Yba.ntmps7
  go_wp2_with fail
  refine (pos73 2 1 0 _).mono ?_
  rintro e w1 ⟨rfl, hb1⟩
  go_wp2_with (refine store_fresh rfl 73 _ _ rfl w1.heap.size _ rfl rfl (there_new w1 _ 73 37 rfl) (by kernel_rfl) (by simp [Value.oneCell']) ?_; intro w2 hb2 hr2 hs2; have k0 := hr2 0 _ rfl; clear hr2)
  go_ret
  exact ⟨rfl, ((hb1.alloc hb1.size _).trans (hb2.mono hb1.size))⟩
end Go.Proofs.Ybulkbfby
