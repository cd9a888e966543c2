/-
  THE WALK OF '(*reading).addRow' (function 6) ON ITS GOOD WAY: the row is taken in. By an AI agent.
-/
import Derived.Test.YbulkbfaiFmtAdd
import Derived.Test.YbulkbfaiFmtTail
import Derived.OwnWalk
set_option linter.unusedSimpArgs false
namespace Go.Proofs.YbulkbfaiFmt
open Go.RowKit Go.Extern.Stop Go.Stop Go.Extern

theorem info59 : (Ybaf.prog.info? 59).map (fun i => (i.zero, i.size, i.bytes)) = some (some (.agg #[.string ⟨#[]⟩, .int .u64 0]), 2, 24) := by kernel_rfl

/-- The row is taken in. -/
def Added (R M base : Nat) (va : Value) (n : Nat) (xs : List Value) (p : Int) (s1 : ByteArray) (v : Nat) (w : World) (e : Ending) (w' : World) : Prop :=
  e = .returned (.tuple #[]) ∧ Kept R M va.ownBlock w w' ∧ w'.cell? ⟨R, 4, none⟩ = some .nilIface ∧ w'.cell? ⟨R, 6, none⟩ = some (.int .u64 p) ∧
  ∃ g cap, w'.cell? ⟨M, 5, none⟩ = some (.slice (some ⟨g, 0, none⟩) (n + 1) cap) ∧ w'.ownsRow base 59 2 (.slice (some ⟨g, 0, none⟩) (n + 1) cap) (n + 1) (xs ++ [.string s1, .int .u64 v]) ∧ (va.ownBlock = some g ∨ w.heap.size ≤ g)

/-- What the region's loads read. -/
def InReg (R M Q h1 c1 : Nat) (s1 : ByteArray) (va : Value) (w' : World) : Prop :=
  w'.cell? ⟨R, 0, none⟩ = some (.pointer (some ⟨M, 0, none⟩)) ∧ w'.cell? ⟨M, 5, none⟩ = some va ∧ w'.cell? ⟨Q, 0, none⟩ = some (.slice (some ⟨h1, 0, none⟩) s1.size c1) ∧ Lib.Bytes w' h1 0 s1

set_option maxRecDepth 100000 in
set_option maxHeartbeats 6400000 in
/-- (E) -/
theorem add_good (R M Q h1 c1 h2 c2 : Nat) (s1 s2 : ByteArray) (p : Int) (va : Value) (base n : Nat) (xs : List Value) (i : Nat) (w : World) (L : Lies R M Q h1 c1 h2 c2 s1 s2 p va w)
    (hz : s1.size ≠ 0) (hs2 : s2.size ≤ maxLen) (v : Nat) (hok : okB s2.data.toList = true) (hv : wv s2.data.toList = v) (hv1 : v ≤ 9007199254740991) (hp0 : 0 ≤ p) (hp1 : p ≤ 9007199254740991) (hov : ¬ 9007199254740991 < p + v)
    (hRQ : R ≠ Q) (hRh : R ≠ h1) (hown : w.ownsRow base 59 2 va n xs) (hRb : R < base) (hMb : M < base) (hbase : base ≤ w.heap.size) (hn : n < 1024) (nQ : some Q ≠ va.ownBlock) (nh : some h1 ≠ va.ownBlock) :
    Calls Ybaf.prog 6 #[.pointer (some ⟨R, 0, none⟩), .int .i64 i, .pointer (some ⟨Q, 0, none⟩)] w (Added R M base va n xs (p + v) s1 v w) := by
  obtain ⟨r0, r4, r6, f4, f6, m5, g5, q0, q1, b1, b2⟩ := L
  have B1 : Hid (Lib.Bytes w h1 0 s1) := b1
  have lR := World.block_lt_of_cell? w _ r4
  have lM := World.block_lt_of_cell? w _ m5
  have lQ : Q < w.heap.size := World.block_lt_of_cell? w _ q0
  have hz' : ((s1.size : Int) == 0) = false := by rw [beq_eq_false_iff_ne]; omega
  have HZ : Hid (s1.size ≠ 0) := hz
  clear hz
  have W := whole_any h2 c2 s2 w hs2 b2
  rw [hok, hv] at W
  clear hok hv b1 b2
  have HW := W
  clear W
  replace HW : Hid _ := HW
  have HO : Hid (w.ownsRow base 59 2 va n xs) := hown
  clear hown
  go_enter Ybaf.func6, Ybaf.ntmps6
  go_wp2_with fail
  refine Calls.mono HW.out ?_
  rintro e w1 ⟨rfl, rfl⟩
  clear HW
  go_wp2_with fail
  obtain ⟨W, hW⟩ : ∃ W, W = w1.setCell ⟨R, 6, none⟩ (.int .u64 (p + v)) := ⟨_, rfl⟩
  rw [← hW]
  have R0 : W.cell? ⟨R, 0, none⟩ = some (.pointer (some ⟨M, 0, none⟩)) := by rw [hW]; simp [go_sem, r0]
  have R4 : W.cell? ⟨R, 4, none⟩ = some .nilIface := by rw [hW]; simp [go_sem, r4]
  have R6 : W.cell? ⟨R, 6, none⟩ = some (.int .u64 (p + v)) := by rw [hW]; simp [go_sem, r6]
  have M5 : W.cell? ⟨M, 5, none⟩ = some va := by rw [hW]; simp [go_sem, m5]
  have G5 : W.frozen? ⟨M, 5, none⟩ = false := by rw [hW]; simp [go_sem, g5]
  have Q0 : W.cell? ⟨Q, 0, none⟩ = some (.slice (some ⟨h1, 0, none⟩) s1.size c1) := by rw [hW]; simp [go_sem, q0, hRQ]
  have BW : Lib.Bytes W h1 0 s1 := by rw [hW]; exact bytes_setCell B1.out hRh _
  have KW : Kept R M va.ownBlock w1 W := by rw [hW]; exact (Kept.refl lR lM).setCell R 6 (.inr (.inl ⟨rfl, rfl⟩)) _
  have OW : W.ownsRow base 59 2 va n xs := by rw [hW]; exact ownsRow_setCell_below HO.out hRb _
  have sW : W.heap.size = w1.heap.size := by rw [hW]; simp
  have nR : some R ≠ va.ownBlock := fun e => by have := (OW.lt R e.symm).1; omega
  have nM : some M ≠ va.ownBlock := fun e => by have := (OW.lt M e.symm).1; omega
  have hbW : base ≤ W.heap.size := by omega
  have lH : h1 < W.heap.size := World.block_lt_of_cell? W _ (BW 0 (Nat.pos_of_ne_zero HZ.out))
  clear hW
  clear r0 r4 r6 f4 f6 m5 g5 q0 q1 B1 HO hRQ hRh
  have HKW : Hid (Kept R M va.ownBlock w1 W) := KW
  have HOW : Hid (W.ownsRow base 59 2 va n xs) := OW
  have lR' : R < W.heap.size := by omega
  have lM' : M < W.heap.size := by omega
  have lQ' : Q < W.heap.size := by omega
  have sW' : w1.heap.size ≤ W.heap.size := by omega
  clear KW OW sW
  obtain ⟨i0, hi0, hz0, hz1, hz2⟩ := info_parts info59
  have hS : InReg R M Q h1 c1 s1 va W.drew := ⟨R0, M5, Q0, bytes_drew BW⟩
  refine wp_region_tailed (S := InReg R M Q h1 c1 s1 va) (E := fun j => decide (20 ≤ j)) (by kernel_rfl) ?_
  refine Tailed.take (i := 0) (v := ?_) rfl (by kernel_rfl) (by kernel_rfl) (by kernel_rfl) (by kernel_rfl) (fun _ _ _ h => h) (Or.inl ⟨by rfl, ?_⟩) hS ?_
  rotate_left
  · intro w' hSw
    obtain ⟨k0, k5, kq, kb⟩ := hSw
    clear kb
    go_simp
    try with_reducible rfl
  try simp only [Act.put, List.setIfInBounds_toArray, List.set_cons_zero, List.set_cons_succ]
  refine Tailed.take (i := 1) (v := ?_) rfl (by kernel_rfl) (by kernel_rfl) (by kernel_rfl) (by kernel_rfl) (fun _ _ _ h => h) (Or.inl ⟨by rfl, ?_⟩) hS ?_
  rotate_left
  · intro w' hSw
    obtain ⟨k0, k5, kq, kb⟩ := hSw
    clear kb
    go_simp
    try with_reducible rfl
  try simp only [Act.put, List.setIfInBounds_toArray, List.set_cons_zero, List.set_cons_succ]
  refine Tailed.take (i := 2) (v := ?_) rfl (by kernel_rfl) (by kernel_rfl) (by kernel_rfl) (by kernel_rfl) (fun _ _ _ h => h) (Or.inl ⟨by rfl, ?_⟩) hS ?_
  rotate_left
  · intro w' hSw
    obtain ⟨k0, k5, kq, kb⟩ := hSw
    clear kb
    go_simp
    try with_reducible rfl
  try simp only [Act.put, List.setIfInBounds_toArray, List.set_cons_zero, List.set_cons_succ]
  refine Tailed.take (i := 3) (v := ?_) rfl (by kernel_rfl) (by kernel_rfl) (by kernel_rfl) (by kernel_rfl) (fun _ _ _ h => h) (Or.inl ⟨by rfl, ?_⟩) hS ?_
  rotate_left
  · intro w' hSw
    obtain ⟨k0, k5, kq, kb⟩ := hSw
    clear kb
    go_simp
    try with_reducible rfl
  try simp only [Act.put, List.setIfInBounds_toArray, List.set_cons_zero, List.set_cons_succ]
  refine Tailed.take (i := 4) (v := ?_) rfl (by kernel_rfl) (by kernel_rfl) (by kernel_rfl) (by kernel_rfl) (fun _ _ _ h => h) (Or.inl ⟨by rfl, ?_⟩) hS ?_
  rotate_left
  · intro w' hSw
    obtain ⟨k0, k5, kq, kb⟩ := hSw
    clear kb
    go_simp
    try with_reducible rfl
  try simp only [Act.put, List.setIfInBounds_toArray, List.set_cons_zero, List.set_cons_succ]
  refine Tailed.take (i := 5) (v := ?_) rfl (by kernel_rfl) (by kernel_rfl) (by kernel_rfl) (by kernel_rfl) (fun _ _ _ h => h) (Or.inl ⟨by rfl, ?_⟩) hS ?_
  rotate_left
  · intro w' hSw
    obtain ⟨k0, k5, kq, kb⟩ := hSw
    clear kb
    go_simp
    try with_reducible rfl
  try simp only [Act.put, List.setIfInBounds_toArray, List.set_cons_zero, List.set_cons_succ]
  refine Tailed.take (i := 6) (v := ?_) rfl (by kernel_rfl) (by kernel_rfl) (by kernel_rfl) (by kernel_rfl) (fun _ _ _ h => h) (Or.inl ⟨by rfl, ?_⟩) hS ?_
  rotate_left
  · intro w' hSw
    obtain ⟨k0, k5, kq, kb⟩ := hSw
    clear kb
    go_simp
    try with_reducible rfl
  try simp only [Act.put, List.setIfInBounds_toArray, List.set_cons_zero, List.set_cons_succ]
  refine Tailed.take (i := 7) (v := ?_) rfl (by kernel_rfl) (by kernel_rfl) (by kernel_rfl) (by kernel_rfl) (fun _ _ _ h => h) (Or.inl ⟨by rfl, ?_⟩) hS ?_
  rotate_left
  · intro w' hSw
    obtain ⟨k0, k5, kq, kb⟩ := hSw
    clear kb
    go_simp
    try with_reducible rfl
  try simp only [Act.put, List.setIfInBounds_toArray, List.set_cons_zero, List.set_cons_succ]
  refine Tailed.take (i := 8) (v := ?_) rfl (by kernel_rfl) (by kernel_rfl) (by kernel_rfl) (by kernel_rfl) (fun _ _ _ h => h) (Or.inl ⟨by rfl, ?_⟩) hS ?_
  rotate_left
  · intro w' hSw
    obtain ⟨k0, k5, kq, kb⟩ := hSw
    clear kb
    go_simp
    try with_reducible rfl
  try simp only [Act.put, List.setIfInBounds_toArray, List.set_cons_zero, List.set_cons_succ]
  refine Tailed.take (i := 9) (v := ?_) rfl (by kernel_rfl) (by kernel_rfl) (by kernel_rfl) (by kernel_rfl) (fun _ _ _ h => h) (Or.inl ⟨by rfl, ?_⟩) hS ?_
  rotate_left
  · intro w' hSw
    obtain ⟨k0, k5, kq, kb⟩ := hSw
    clear kb
    go_simp
    try with_reducible rfl
  try simp only [Act.put, List.setIfInBounds_toArray, List.set_cons_zero, List.set_cons_succ]
  refine Tailed.take (i := 10) (v := ?_) rfl (by kernel_rfl) (by kernel_rfl) (by kernel_rfl) (by kernel_rfl) (fun _ _ _ h => h) (Or.inl ⟨by rfl, ?_⟩) hS ?_
  rotate_left
  · intro w' hSw
    obtain ⟨k0, k5, kq, kb⟩ := hSw
    clear kb
    go_simp
    try with_reducible rfl
  try simp only [Act.put, List.setIfInBounds_toArray, List.set_cons_zero, List.set_cons_succ]
  refine Tailed.take (i := 11) (v := ?_) rfl (by kernel_rfl) (by kernel_rfl) (by kernel_rfl) (by kernel_rfl) (fun _ _ _ h => h) (Or.inl ⟨by rfl, ?_⟩) hS ?_
  rotate_left
  · intro w' hSw
    obtain ⟨k0, k5, kq, kb⟩ := hSw
    clear kb
    go_simp
    try with_reducible rfl
  try simp only [Act.put, List.setIfInBounds_toArray, List.set_cons_zero, List.set_cons_succ]
  refine Tailed.take (i := 12) (v := ?_) rfl (by kernel_rfl) (by kernel_rfl) (by kernel_rfl) (by kernel_rfl) (fun _ _ _ h => h) (Or.inl ⟨by rfl, ?_⟩) hS ?_
  rotate_left
  · intro w' hSw
    obtain ⟨k0, k5, kq, kb⟩ := hSw
    clear kb
    go_simp
    try with_reducible rfl
  try simp only [Act.put, List.setIfInBounds_toArray, List.set_cons_zero, List.set_cons_succ]
  refine Tailed.take (i := 13) (v := ?_) rfl (by kernel_rfl) (by kernel_rfl) (by kernel_rfl) (by kernel_rfl) (fun _ _ _ h => h) (Or.inl ⟨by rfl, ?_⟩) hS ?_
  rotate_left
  · intro w' hSw
    obtain ⟨k0, k5, kq, kb⟩ := hSw
    clear kb
    go_simp
    try with_reducible rfl
  try simp only [Act.put, List.setIfInBounds_toArray, List.set_cons_zero, List.set_cons_succ]
  refine Tailed.take (i := 14) (v := ?_) rfl (by kernel_rfl) (by kernel_rfl) (by kernel_rfl) (by kernel_rfl) (fun _ _ _ h => h) (Or.inl ⟨by rfl, ?_⟩) hS ?_
  rotate_left
  · intro w' hSw
    obtain ⟨k0, k5, kq, kb⟩ := hSw
    clear kb
    go_simp
    try with_reducible rfl
  try simp only [Act.put, List.setIfInBounds_toArray, List.set_cons_zero, List.set_cons_succ]
  refine Tailed.take (i := 15) (v := ?_) rfl (by kernel_rfl) (by kernel_rfl) (by kernel_rfl) (by kernel_rfl) (fun _ _ _ h => h) (Or.inl ⟨by rfl, ?_⟩) hS ?_
  rotate_left
  · intro w' hSw
    obtain ⟨k0, k5, kq, kb⟩ := hSw
    have kc := Lib.run_convert_whole (P := Ybaf.prog) w' 40 5 9 Ybaf.underlying40 Ybaf.underlying5 Ybaf.underlying9 h1 0 s1 kb c1
    clear kb
    go_simp
    try with_reducible rfl
  try simp only [Act.put, List.setIfInBounds_toArray, List.set_cons_zero, List.set_cons_succ]
  refine Tailed.take (i := 16) (v := ?_) rfl (by kernel_rfl) (by kernel_rfl) (by kernel_rfl) (by kernel_rfl) (fun _ _ _ h => h) (Or.inl ⟨by rfl, ?_⟩) hS ?_
  rotate_left
  · intro w' hSw
    obtain ⟨k0, k5, kq, kb⟩ := hSw
    clear kb
    go_simp
    try with_reducible rfl
  try simp only [Act.put, List.setIfInBounds_toArray, List.set_cons_zero, List.set_cons_succ]
  refine Tailed.take (i := 17) (v := ?_) rfl (by kernel_rfl) (by kernel_rfl) (by kernel_rfl) (by kernel_rfl) (fun _ _ _ h => h) (Or.inl ⟨by rfl, ?_⟩) hS ?_
  rotate_left
  · intro w' hSw
    obtain ⟨k0, k5, kq, kb⟩ := hSw
    clear kb
    go_simp
    try with_reducible rfl
  try simp only [Act.put, List.setIfInBounds_toArray, List.set_cons_zero, List.set_cons_succ]
  refine Tailed.step (i := 18) rfl (by kernel_rfl) ?_
  intro K hK
  go_simp
  refine hK.out _ _ (fun _ => ⟨by simp [go_sem, R0, lR'], by simp [go_sem, M5, lM'], by simp [go_sem, Q0, lQ'], bytes_drew (bytes_alloc BW _)⟩) ?_
  clear hK K hS
  try simp only [Act.put, List.setIfInBounds_toArray, List.set_cons_zero, List.set_cons_succ]
  refine Tailed.step (i := 19) rfl (by kernel_rfl) ?_
  intro K hK
  refine step_append_lies _ (by rfl) _ _ _ (by rfl) base 59 i0 _ 2 24 Ybaf.underlying30 hi0 hz0 hz1 hz2 rfl (by omega) va n xs (by rfl) ((HOW.out.alloc _).drew) ⟨W.heap.size, 0, none⟩ 1 1 [.string s1, .int .u64 v] (by rfl) (by rfl) (World.news_of_block (cs := #[.string s1, .int .u64 v]) (t := 59) (fr := (0, 0)) (heap_alloc_new W _)) (by simp [Value.oneCell']) (by omega) (by unfold maxLen; omega) (by omega) (by simp; omega) (W.heap.size + 1) (by simp) ?_
  intro g cap w2 hown2 hgrow hat hlt
  have sz2 : (W.alloc (.cells #[.string s1, .int .u64 v] 59)).drew.heap.size = W.heap.size + 1 := by simp
  have far : ∀ b o u, b < W.heap.size → some b ≠ va.ownBlock → W.cell? ⟨b, o, none⟩ = some u → w2.cell? ⟨b, o, none⟩ = some u := fun b o u hb hne hc =>
    (hgrow.cell_far ⟨b, o, none⟩ (by rw [sz2]; exact Nat.lt_succ_of_lt hb) hne).trans (by simp [go_sem, hb, hc])
  have c0 := far R 0 _ lR' nR R0
  have c4 := far R 4 _ lR' nR R4
  have c6 := far R 6 _ lR' nR R6
  have c5 := far M 5 _ lM' nM M5
  have cq := far Q 0 _ lQ' nQ Q0
  have e5 : w2.frozen? ⟨M, 5, none⟩ = false := (hgrow.frozen_far ⟨M, 5, none⟩ (by rw [sz2]; exact Nat.lt_succ_of_lt lM') nM).trans (by simp [go_sem, G5, lM'])
  have cb : Lib.Bytes w2 h1 0 s1 := fun i hi => far h1 (0 + i) _ lH nh (BW i hi)
  have KW2 : Hid (Kept R M va.ownBlock w1 w2) := ((HKW.out.alloc _).drew).grown hgrow nR nM
  refine hK.out _ _ (fun _ => ⟨c0, c5, cq, cb⟩) ?_
  clear hK K far hgrow BW cb HOW HKW R0 R4 R6 M5 G5 Q0
  try simp only [Act.put, List.setIfInBounds_toArray, List.set_cons_zero, List.set_cons_succ]
  refine Tailed.step (i := 20) rfl (by kernel_rfl) ?_
  intro K hK
  go_simp
  refine hK.out _ _ (fun h => by cases h) ?_
  clear hK K
  try simp only [Act.put, List.setIfInBounds_toArray, List.set_cons_zero, List.set_cons_succ]
  refine Tailed.step (i := 21) rfl (by kernel_rfl) ?_
  intro K hK
  go_simp
  refine hK.out _ _ (fun h => by cases h) ?_
  clear hK K
  try simp only [Act.put, List.setIfInBounds_toArray, List.set_cons_zero, List.set_cons_succ]
  refine Tailed.step (i := 22) rfl (by kernel_rfl) ?_
  intro K hK
  go_simp
  refine hK.out _ _ (fun h => by cases h) ?_
  clear hK K
  refine Tailed.done (by kernel_rfl) ?_
  go_wp2
  go_returns
  refine ⟨rfl, KW2.out.setCell M 5 (.inr (.inr ⟨rfl, rfl⟩)) _, by simp [go_sem, c4], by simp [go_sem, c6], g, cap, by simp [go_sem, c5], ownsRow_setCell_below hown2 hMb _, ?_⟩
  rcases hat with h | h
  · exact .inl h
  · exact .inr (by omega)
end Go.Proofs.YbulkbfaiFmt
