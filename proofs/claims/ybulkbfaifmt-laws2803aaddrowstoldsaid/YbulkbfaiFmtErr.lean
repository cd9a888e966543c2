/-
  fmt.Errorf (function 9) AT THE THREE FORMATS OF addRow: whatever text fmt gives, the result is a new *errors.errorString; nothing old turns. By an AI agent. (The closed facts are of the kit's own make: after CheckFmt.lean, TagSlice.lean.)
-/
import Derived.Test.YbulkbfaiFmtDec
import Derived.Stop.CallBack
import Derived.Stop.IfaceNil
import Derived.Stop.Texts
import Derived.Stop.FmtTextSlices
import Derived.Laws.Cells
import GoSem.ClaimData
namespace Go.Proofs.YbulkbfaiFmt
open Go.RowKit Go.Extern.Stop Go.Stop Go.Extern

theorem call11 (args : Array Value) (w : World) : (callFunc 11 args).run Ybaf.prog w = ((FmtStop.errorf #[9, 68] #[38] args).run Ybaf.prog w).andThen fun v w' => .ok (.value v) w' :=
  run_callFunc_extern Ybaf.func11 (by kernel_rfl) (by kernel_rfl) (by kernel_rfl) (by kernel_rfl) args w
theorem guard_ok (name : String) (w : World) : (FmtStop.guard name).run Ybaf.prog w = .ok () w := by kernel_rfl
theorem ptr61 (w : World) : (FmtStop.ptrTo "errors.errorString").run Ybaf.prog w = .ok 61 w := by kernel_rfl
theorem elem61 (w : World) : (elemOf 61).run Ybaf.prog w = .ok 63 w := by kernel_rfl

/-- 'attendance row %d: the holder is empty' -/
theorem fmt1 (w : World) : (FmtDoors.printed ⟨#[97, 116, 116, 101, 110, 100, 97, 110, 99, 101, 32, 114, 111, 119, 32, 37, 100, 58, 32, 116, 104, 101, 32, 104, 111, 108, 100, 101, 114, 32, 105, 115, 32, 101, 109, 112, 116, 121]⟩ 1).run Ybaf.prog w = .ok [(0, 100, false)] w := by kernel_rfl

def shape3 : List UInt8 := [5, 3, 0, 0, 0, 0, 0, 0, 0, 105, 110, 116]
theorem op3_100w (name : String) (x : Int) (w : World) : (FmtStop.operand name true 100 false (.iface 3 (.int .i64 x))).run Ybaf.prog w = .ok (shape3, Go.Extern.Stop.digits 8 (x % 2 ^ 64).toNat) w := by kernel_rfl
theorem op22_100w : ∃ sh : List UInt8, ∀ (name : String) (x : Int) (w : World), (FmtStop.operand name true 100 false (.iface 22 (.int .u64 x))).run Ybaf.prog w = .ok (sh, Go.Extern.Stop.digits 8 (x % 2 ^ 64).toNat) w := ⟨9 :: FmtStop.pack "uint64".toUTF8.data.toList, fun _ _ _ => by kernel_rfl⟩

theorem errorf1 (F : Interp) (n : Int) (b : Nat) (w : World) (hF : F.answers w.tape) (hc : w.cell? ⟨b, 0, none⟩ = some (.iface 3 (.int .i64 n))) :
    Calls Ybaf.prog 9 #[.string ⟨#[97, 116, 116, 101, 110, 100, 97, 110, 99, 101, 32, 114, 111, 119, 32, 37, 100, 58, 32, 116, 104, 101, 32, 104, 111, 108, 100, 101, 114, 32, 105, 115, 32, 101, 109, 112, 116, 121]⟩, .slice (some ⟨b, 0, none⟩) 1 1] w fun e w' =>
      e = .returned (.iface 61 (.pointer (some ⟨w.heap.size, 0, none⟩))) ∧ ∃ t, w' = (w.alloc (.cells #[.string t] 63)).drew := by
  have hF' := answers_open hF
  have f1 := @call11
  have f2 := @guard_ok
  have f3 := @ptr61
  have f4 := @elem61
  have f5 := @fmt1
  have f6 := @op3_100w
  go_enter Ybaf.func9, Ybaf.ntmps9
  go_wp2
  go_ret
  exact ⟨rfl, _, rfl⟩

theorem add0 (b j : Nat) : (⟨b, 0, none⟩ : Addr).add j = ⟨b, 0 + j, none⟩ := by unfold Addr.add; split <;> simp_all
/-- The bytes as numbers. -/
def nums (s : ByteArray) : List Int := s.data.toList.map fun c => (c.toNat : Int)
theorem nums_length (s : ByteArray) : (nums s).length = s.size := by simp [nums]
/-- What fmt is asked of a slice of bytes: its value. -/
def value40 (s : ByteArray) : List UInt8 := 1 :: (digits 8 s.size ++ FmtText.intValues (nums s))
theorem bytes_list {w : World} {b : Nat} {s : ByteArray} (hc : Lib.Bytes w b 0 s) (j : Nat) (v : Value) (hj : ((nums s).map (Value.int .u8))[j]? = some v) : w.cell? ((⟨b, 0, none⟩ : Addr).add j) = some v := by
  have hlt : j < s.size := by
    have := (List.getElem?_eq_some_iff.1 hj).1
    simpa [nums] using this
  have h := hc j hlt
  rw [add0 b j, h]
  rw [List.getElem?_map, nums, List.getElem?_map, get_list s j hlt] at hj
  simpa using hj

/-! ### A slice of bytes in memory, as fmt reads it -/
theorem value5 (name : String) (x : Int) (w : World) : (FmtStop.value name FmtStop.depth 5 [.int .u8 x]).run Ybaf.prog w = .ok (digits 8 (x % 2 ^ 64).toNat) w := by kernel_rfl

theorem values5 (name : String) (w : World) : ∀ xs : List Int, (List.mapM ((fun c => FmtStop.value name FmtStop.depth 5 [c]) ∘ Value.int IntKind.u8) xs).run Ybaf.prog w = .ok (xs.map fun x => digits 8 (x % 18446744073709551616).toNat) w
  | [] => by simp [List.mapM_nil]
  | x :: xs => by
    have ih := values5 name w xs
    have h := value5 name x w
    simp [List.mapM_cons, h, ih, Result.andThen]

theorem opBytes_113 : ∃ sh : List UInt8, ∀ (name : String) (b cap : Nat) (s : ByteArray) (w : World), Lib.Bytes w b 0 s →
    (FmtStop.operand name true 113 false (.iface 40 (.slice (some ⟨b, 0, none⟩) s.size cap))).run Ybaf.prog w = .ok (sh, value40 s) w := by
  refine ⟨13 :: (FmtStop.pack Ybaf.t40.str.toUTF8.data.toList ++ 6 :: FmtStop.pack "uint8".toUTF8.data.toList), ?_⟩
  intro name b cap s w hc
  have h1 : (typeStr 40).run Ybaf.prog w = .ok Ybaf.t40.str w := by kernel_rfl
  have d2 : Ybaf.t40.desc = .slice 5 := rfl
  have hb : (FmtStop.bare (FmtStop.asked true 113 false) 40).run Ybaf.prog w = .ok true w := by kernel_rfl
  have hs : (FmtStop.scalar 5).run Ybaf.prog w = .ok true w := by kernel_rfl
  have hy : (Extern.Stop.isByte 5).run Ybaf.prog w = .ok true w := by kernel_rfl
  have hw : Ybaf.prog.funcs.any (·.name == FmtStop.writeWord) = true := by kernel_rfl
  have hsh : (FmtStop.shape name (FmtStop.asked true 113 false) FmtStop.depth 5).run Ybaf.prog w = .ok (6 :: FmtStop.pack "uint8".toUTF8.data.toList) w := by kernel_rfl
  have hl := run_loadCells_list (P := Ybaf.prog) w ⟨b, 0, none⟩ ((nums s).map (Value.int .u8)) (bytes_list hc)
  rw [List.length_map, nums_length] at hl
  generalize hg : nums s = xs at hl
  simp [FmtStop.operand, h1, hb, hs, hy, hsh, hl, values5, value40, FmtText.intValues, hg]
  intro hno
  obtain ⟨i, hi, _, _, he⟩ := Array.any_iff_exists.1 hw
  exact absurd (by simpa using he) (hno i hi)

theorem opBytes_115 : ∃ sh : List UInt8, ∀ (name : String) (b cap : Nat) (s : ByteArray) (w : World), Lib.Bytes w b 0 s →
    (FmtStop.operand name true 115 false (.iface 40 (.slice (some ⟨b, 0, none⟩) s.size cap))).run Ybaf.prog w = .ok (sh, value40 s) w := by
  refine ⟨13 :: (FmtStop.pack Ybaf.t40.str.toUTF8.data.toList ++ 6 :: FmtStop.pack "uint8".toUTF8.data.toList), ?_⟩
  intro name b cap s w hc
  have h1 : (typeStr 40).run Ybaf.prog w = .ok Ybaf.t40.str w := by kernel_rfl
  have d2 : Ybaf.t40.desc = .slice 5 := rfl
  have hb : (FmtStop.bare (FmtStop.asked true 115 false) 40).run Ybaf.prog w = .ok true w := by kernel_rfl
  have hs : (FmtStop.scalar 5).run Ybaf.prog w = .ok true w := by kernel_rfl
  have hy : (Extern.Stop.isByte 5).run Ybaf.prog w = .ok true w := by kernel_rfl
  have hw : Ybaf.prog.funcs.any (·.name == FmtStop.writeWord) = true := by kernel_rfl
  have hsh : (FmtStop.shape name (FmtStop.asked true 115 false) FmtStop.depth 5).run Ybaf.prog w = .ok (6 :: FmtStop.pack "uint8".toUTF8.data.toList) w := by kernel_rfl
  have hl := run_loadCells_list (P := Ybaf.prog) w ⟨b, 0, none⟩ ((nums s).map (Value.int .u8)) (bytes_list hc)
  rw [List.length_map, nums_length] at hl
  generalize hg : nums s = xs at hl
  simp [FmtStop.operand, h1, hb, hs, hy, hsh, hl, values5, value40, FmtText.intValues, hg]
  intro hno
  obtain ⟨i, hi, _, _, he⟩ := Array.any_iff_exists.1 hw
  exact absurd (by simpa using he) (hno i hi)

/-- 'attendance row %d (holder %q): shares %s is not a whole number from 0 to %d' -/
theorem fmt2 (w : World) : (FmtDoors.printed ⟨#[97, 116, 116, 101, 110, 100, 97, 110, 99, 101, 32, 114, 111, 119, 32, 37, 100, 32, 40, 104, 111, 108, 100, 101, 114, 32, 37, 113, 41, 58, 32, 115, 104, 97, 114, 101, 115, 32, 37, 115, 32, 105, 115, 32, 110, 111, 116, 32, 97, 32, 119, 104, 111, 108, 101, 32, 110, 117, 109, 98, 101, 114, 32, 102, 114, 111, 109, 32, 48, 32, 116, 111, 32, 37, 100]⟩ 4).run Ybaf.prog w = .ok [(0, 100, false), (1, 113, false), (2, 115, false), (3, 100, false)] w := by kernel_rfl
/-- 'attendance row %d (holder %q): the attendance holds more than %d shares in all' -/
theorem fmt3 (w : World) : (FmtDoors.printed ⟨#[97, 116, 116, 101, 110, 100, 97, 110, 99, 101, 32, 114, 111, 119, 32, 37, 100, 32, 40, 104, 111, 108, 100, 101, 114, 32, 37, 113, 41, 58, 32, 116, 104, 101, 32, 97, 116, 116, 101, 110, 100, 97, 110, 99, 101, 32, 104, 111, 108, 100, 115, 32, 109, 111, 114, 101, 32, 116, 104, 97, 110, 32, 37, 100, 32, 115, 104, 97, 114, 101, 115, 32, 105, 110, 32, 97, 108, 108]⟩ 3).run Ybaf.prog w = .ok [(0, 100, false), (1, 113, false), (2, 100, false)] w := by kernel_rfl

set_option maxHeartbeats 800000 in
theorem errorf2 (F : Interp) (n m : Int) (b h1 c1 h2 c2 : Nat) (s1 s2 : ByteArray) (w : World) (hF : F.answers w.tape)
    (k0 : w.cell? ⟨b, 0, none⟩ = some (.iface 3 (.int .i64 n))) (k1 : w.cell? ⟨b, 1, none⟩ = some (.iface 40 (.slice (some ⟨h1, 0, none⟩) s1.size c1)))
    (k2 : w.cell? ⟨b, 2, none⟩ = some (.iface 40 (.slice (some ⟨h2, 0, none⟩) s2.size c2))) (k3 : w.cell? ⟨b, 3, none⟩ = some (.iface 22 (.int .u64 m))) (hb1 : Lib.Bytes w h1 0 s1) (hb2 : Lib.Bytes w h2 0 s2) :
    Calls Ybaf.prog 9 #[.string ⟨#[97, 116, 116, 101, 110, 100, 97, 110, 99, 101, 32, 114, 111, 119, 32, 37, 100, 32, 40, 104, 111, 108, 100, 101, 114, 32, 37, 113, 41, 58, 32, 115, 104, 97, 114, 101, 115, 32, 37, 115, 32, 105, 115, 32, 110, 111, 116, 32, 97, 32, 119, 104, 111, 108, 101, 32, 110, 117, 109, 98, 101, 114, 32, 102, 114, 111, 109, 32, 48, 32, 116, 111, 32, 37, 100]⟩, .slice (some ⟨b, 0, none⟩) 4 4] w fun e w' =>
      e = .returned (.iface 61 (.pointer (some ⟨w.heap.size, 0, none⟩))) ∧ ∃ t, w' = (w.alloc (.cells #[.string t] 63)).drew := by
  have hF' := answers_open hF
  have f1 := @call11
  have f2 := @guard_ok
  have f3 := @ptr61
  have f4 := @elem61
  have f5 := @fmt2
  have f6 := @op3_100w
  obtain ⟨sh, f7⟩ := op22_100w
  obtain ⟨sh8, f8'⟩ := opBytes_113
  obtain ⟨sh9, f9'⟩ := opBytes_115
  have f8 := fun name => f8' name h1 c1 s1 w hb1
  have f9 := fun name => f9' name h2 c2 s2 w hb2
  clear f8' f9'
  clear hb1 hb2
  go_enter Ybaf.func9, Ybaf.ntmps9
  go_wp2
  go_ret
  exact ⟨rfl, _, rfl⟩

set_option maxHeartbeats 800000 in
theorem errorf3 (F : Interp) (n m : Int) (b h1 c1 : Nat) (s1 : ByteArray) (w : World) (hF : F.answers w.tape)
    (k0 : w.cell? ⟨b, 0, none⟩ = some (.iface 3 (.int .i64 n))) (k1 : w.cell? ⟨b, 1, none⟩ = some (.iface 40 (.slice (some ⟨h1, 0, none⟩) s1.size c1)))
    (k2 : w.cell? ⟨b, 2, none⟩ = some (.iface 22 (.int .u64 m))) (hb1 : Lib.Bytes w h1 0 s1) :
    Calls Ybaf.prog 9 #[.string ⟨#[97, 116, 116, 101, 110, 100, 97, 110, 99, 101, 32, 114, 111, 119, 32, 37, 100, 32, 40, 104, 111, 108, 100, 101, 114, 32, 37, 113, 41, 58, 32, 116, 104, 101, 32, 97, 116, 116, 101, 110, 100, 97, 110, 99, 101, 32, 104, 111, 108, 100, 115, 32, 109, 111, 114, 101, 32, 116, 104, 97, 110, 32, 37, 100, 32, 115, 104, 97, 114, 101, 115, 32, 105, 110, 32, 97, 108, 108]⟩, .slice (some ⟨b, 0, none⟩) 3 3] w fun e w' =>
      e = .returned (.iface 61 (.pointer (some ⟨w.heap.size, 0, none⟩))) ∧ ∃ t, w' = (w.alloc (.cells #[.string t] 63)).drew := by
  have hF' := answers_open hF
  have f1 := @call11
  have f2 := @guard_ok
  have f3 := @ptr61
  have f4 := @elem61
  have f5 := @fmt3
  have f6 := @op3_100w
  obtain ⟨sh, f7⟩ := op22_100w
  obtain ⟨sh8, f8'⟩ := opBytes_113
  have f8 := fun name => f8' name h1 c1 s1 w hb1
  clear f8'
  clear hb1
  go_enter Ybaf.func9, Ybaf.ntmps9
  go_wp2
  go_ret
  exact ⟨rfl, _, rfl⟩
end Go.Proofs.YbulkbfaiFmt
