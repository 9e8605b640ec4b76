import Derived.Test.YtnlmgpnhebohfaaRows
import Derived.Test.YtnlmgpnhebohfaaShelf
import Derived.WalkKit
import Derived.ProofKit
import Derived.OpenShut
import Derived.BigQuiet
import Derived.Deep.QuietTactic
import Derived.WalkSpells
import Derived.LoopN
import Derived.Lib.ItoaNum
namespace Go.Proofs.Ytnlmgpnhebohfaa
open Go.ChangeShapes Go.WideShapes Go.ChangeAt Go.RowKit


theorem mk9 (w : World) : (Instr.makeSlice 23 (.int .i64 9) (.int .i64 9)).run Try.prog w = .ok (.slice (some ⟨w.heap.size, 0, none⟩) 9 9) (w.alloc (.cells #[.int .u8 0, .int .u8 0, .int .u8 0, .int .u8 0, .int .u8 0, .int .u8 0, .int .u8 0, .int .u8 0, .int .u8 0] 5)) := by kernel_rfl

set_option maxRecDepth 100000 in
set_option maxHeartbeats 1000000 in
/-- bePutUint64 into the last eight of nine bytes. -/
theorem bePut_any (x : Int) (g : Nat) (w : World) (h0 : 0 ≤ x) (h1 : x ≤ 18446744073709551615) (c1 : w.cell? ⟨g, 1, none⟩ = some (.int .u8 0)) (c2 : w.cell? ⟨g, 2, none⟩ = some (.int .u8 0)) (c3 : w.cell? ⟨g, 3, none⟩ = some (.int .u8 0)) (c4 : w.cell? ⟨g, 4, none⟩ = some (.int .u8 0)) (c5 : w.cell? ⟨g, 5, none⟩ = some (.int .u8 0)) (c6 : w.cell? ⟨g, 6, none⟩ = some (.int .u8 0)) (c7 : w.cell? ⟨g, 7, none⟩ = some (.int .u8 0)) (c8 : w.cell? ⟨g, 8, none⟩ = some (.int .u8 0)) (f1 : w.frozen? ⟨g, 1, none⟩ = false) (f2 : w.frozen? ⟨g, 2, none⟩ = false) (f3 : w.frozen? ⟨g, 3, none⟩ = false) (f4 : w.frozen? ⟨g, 4, none⟩ = false) (f5 : w.frozen? ⟨g, 5, none⟩ = false) (f6 : w.frozen? ⟨g, 6, none⟩ = false) (f7 : w.frozen? ⟨g, 7, none⟩ = false) (f8 : w.frozen? ⟨g, 8, none⟩ = false) :
    Calls Try.prog 22 #[.slice (some ⟨g, 1, none⟩) 8 8, .int .u64 x] w fun e w' => e = .returned (.tuple #[]) ∧
      w' = ((((((((w.setCell ⟨g, 1, none⟩ (.int .u8 (x / 72057594037927936))).setCell ⟨g, 2, none⟩ (.int .u8 (x / 281474976710656 % 256))).setCell ⟨g, 3, none⟩ (.int .u8 (x / 1099511627776 % 256))).setCell ⟨g, 4, none⟩ (.int .u8 (x / 4294967296 % 256))).setCell ⟨g, 5, none⟩ (.int .u8 (x / 16777216 % 256))).setCell ⟨g, 6, none⟩ (.int .u8 (x / 65536 % 256))).setCell ⟨g, 7, none⟩ (.int .u8 (x / 256 % 256))).setCell ⟨g, 8, none⟩ (.int .u8 (x % 256))) := by
  go_enter Try.func22, Try.ntmps22
  go_wp2
  refine wp_loop_rounds 9 ?_
  iterate 9 (rw [rounds_succ]; go_wp2)
  go_end0
  exact ⟨rfl, rfl⟩

/-- The nine bytes behind bePutUint64, the first one c. -/
def nine (c x : Int) : Array Value := #[.int .u8 c, .int .u8 (x / 72057594037927936), .int .u8 (x / 281474976710656 % 256), .int .u8 (x / 1099511627776 % 256), .int .u8 (x / 4294967296 % 256), .int .u8 (x / 16777216 % 256), .int .u8 (x / 65536 % 256), .int .u8 (x / 256 % 256), .int .u8 (x % 256)]
theorem bePut_new (x : Int) (w : World) (h0 : 0 ≤ x) (h1 : x ≤ 18446744073709551615) :
    Calls Try.prog 22 #[.slice (some ⟨w.heap.size, 1, none⟩) 8 8, .int .u64 x] (w.alloc (.cells #[.int .u8 0, .int .u8 0, .int .u8 0, .int .u8 0, .int .u8 0, .int .u8 0, .int .u8 0, .int .u8 0, .int .u8 0] 5)) fun e w' => e = .returned (.tuple #[]) ∧ w' = w.alloc (.cells (nine 0 x) 5) := by
  refine (bePut_any x w.heap.size _ h0 h1 ?_ ?_ ?_ ?_ ?_ ?_ ?_ ?_ ?_ ?_ ?_ ?_ ?_ ?_ ?_ ?_).mono ?_
  iterate 16 (· simp)
  rintro e w' ⟨rfl, rfl⟩
  exact ⟨rfl, by simp [nine, go_sem]⟩

/-- The nine bytes behind leftEncode, where n of them tell the number. -/
def lcells (n : Nat) (x : Int) : Array Value := (nine 0 x).setIfInBounds (8 - n) (.int .u8 n)

set_option maxRecDepth 100000 in
set_option maxHeartbeats 400000 in
theorem leftEncode_1 (x : Int) (w : World) (h0 : 0 ≤ x) (h1 : x ≤ 18446744073709551615) (b : Int) (hb : b = (Lib.bitLen x.toNat : Int)) (hl : 1 ≤ b) (hu : b ≤ 8) :
    Calls Try.prog 14 #[.int .u64 x] w fun e w' => e = .returned (.slice (some ⟨w.heap.size, 7, none⟩) 2 2) ∧ w' = w.alloc (.cells (lcells 1 x) 5) := by
  have HL : Hid (∀ w, Calls Try.prog 21 #[.int .u64 x] w fun e w' => e = .returned (.int .i64 b) ∧ w = w') := fun w => by
    rw [hb]; exact (Try.bits_Len64 x w h0 h1).mono fun _ _ h => ⟨h.1, h.2.symm⟩
  clear hb
  have hq : (b + 7) / 8 = 1 := by omega
  have hmk := mk9
  go_enter Try.func14, Try.ntmps14
  go_wp2_with (go_at_call 21; refine (HL.out _).mono ?_; rintro e w' ⟨rfl, rfl⟩)
  simp only [hq]
  refine (bePut_new x w h0 h1).mono ?_
  rintro e w' ⟨rfl, rfl⟩
  clear hq hmk
  unfold nine
  go_wp2
  go_ret
  exact ⟨rfl, by simp [lcells, nine]⟩

set_option maxRecDepth 100000 in
set_option maxHeartbeats 400000 in
theorem leftEncode_2 (x : Int) (w : World) (h0 : 0 ≤ x) (h1 : x ≤ 18446744073709551615) (b : Int) (hb : b = (Lib.bitLen x.toNat : Int)) (hl : 9 ≤ b) (hu : b ≤ 16) :
    Calls Try.prog 14 #[.int .u64 x] w fun e w' => e = .returned (.slice (some ⟨w.heap.size, 6, none⟩) 3 3) ∧ w' = w.alloc (.cells (lcells 2 x) 5) := by
  have HL : Hid (∀ w, Calls Try.prog 21 #[.int .u64 x] w fun e w' => e = .returned (.int .i64 b) ∧ w = w') := fun w => by
    rw [hb]; exact (Try.bits_Len64 x w h0 h1).mono fun _ _ h => ⟨h.1, h.2.symm⟩
  clear hb
  have hq : (b + 7) / 8 = 2 := by omega
  have hmk := mk9
  go_enter Try.func14, Try.ntmps14
  go_wp2_with (go_at_call 21; refine (HL.out _).mono ?_; rintro e w' ⟨rfl, rfl⟩)
  simp only [hq]
  refine (bePut_new x w h0 h1).mono ?_
  rintro e w' ⟨rfl, rfl⟩
  clear hq hmk
  unfold nine
  go_wp2
  go_ret
  exact ⟨rfl, by simp [lcells, nine]⟩

set_option maxRecDepth 100000 in
set_option maxHeartbeats 400000 in
theorem leftEncode_3 (x : Int) (w : World) (h0 : 0 ≤ x) (h1 : x ≤ 18446744073709551615) (b : Int) (hb : b = (Lib.bitLen x.toNat : Int)) (hl : 17 ≤ b) (hu : b ≤ 24) :
    Calls Try.prog 14 #[.int .u64 x] w fun e w' => e = .returned (.slice (some ⟨w.heap.size, 5, none⟩) 4 4) ∧ w' = w.alloc (.cells (lcells 3 x) 5) := by
  have HL : Hid (∀ w, Calls Try.prog 21 #[.int .u64 x] w fun e w' => e = .returned (.int .i64 b) ∧ w = w') := fun w => by
    rw [hb]; exact (Try.bits_Len64 x w h0 h1).mono fun _ _ h => ⟨h.1, h.2.symm⟩
  clear hb
  have hq : (b + 7) / 8 = 3 := by omega
  have hmk := mk9
  go_enter Try.func14, Try.ntmps14
  go_wp2_with (go_at_call 21; refine (HL.out _).mono ?_; rintro e w' ⟨rfl, rfl⟩)
  simp only [hq]
  refine (bePut_new x w h0 h1).mono ?_
  rintro e w' ⟨rfl, rfl⟩
  clear hq hmk
  unfold nine
  go_wp2
  go_ret
  exact ⟨rfl, by simp [lcells, nine]⟩

set_option maxRecDepth 100000 in
set_option maxHeartbeats 400000 in
theorem leftEncode_4 (x : Int) (w : World) (h0 : 0 ≤ x) (h1 : x ≤ 18446744073709551615) (b : Int) (hb : b = (Lib.bitLen x.toNat : Int)) (hl : 25 ≤ b) (hu : b ≤ 32) :
    Calls Try.prog 14 #[.int .u64 x] w fun e w' => e = .returned (.slice (some ⟨w.heap.size, 4, none⟩) 5 5) ∧ w' = w.alloc (.cells (lcells 4 x) 5) := by
  have HL : Hid (∀ w, Calls Try.prog 21 #[.int .u64 x] w fun e w' => e = .returned (.int .i64 b) ∧ w = w') := fun w => by
    rw [hb]; exact (Try.bits_Len64 x w h0 h1).mono fun _ _ h => ⟨h.1, h.2.symm⟩
  clear hb
  have hq : (b + 7) / 8 = 4 := by omega
  have hmk := mk9
  go_enter Try.func14, Try.ntmps14
  go_wp2_with (go_at_call 21; refine (HL.out _).mono ?_; rintro e w' ⟨rfl, rfl⟩)
  simp only [hq]
  refine (bePut_new x w h0 h1).mono ?_
  rintro e w' ⟨rfl, rfl⟩
  clear hq hmk
  unfold nine
  go_wp2
  go_ret
  exact ⟨rfl, by simp [lcells, nine]⟩

set_option maxRecDepth 100000 in
set_option maxHeartbeats 400000 in
theorem leftEncode_5 (x : Int) (w : World) (h0 : 0 ≤ x) (h1 : x ≤ 18446744073709551615) (b : Int) (hb : b = (Lib.bitLen x.toNat : Int)) (hl : 33 ≤ b) (hu : b ≤ 40) :
    Calls Try.prog 14 #[.int .u64 x] w fun e w' => e = .returned (.slice (some ⟨w.heap.size, 3, none⟩) 6 6) ∧ w' = w.alloc (.cells (lcells 5 x) 5) := by
  have HL : Hid (∀ w, Calls Try.prog 21 #[.int .u64 x] w fun e w' => e = .returned (.int .i64 b) ∧ w = w') := fun w => by
    rw [hb]; exact (Try.bits_Len64 x w h0 h1).mono fun _ _ h => ⟨h.1, h.2.symm⟩
  clear hb
  have hq : (b + 7) / 8 = 5 := by omega
  have hmk := mk9
  go_enter Try.func14, Try.ntmps14
  go_wp2_with (go_at_call 21; refine (HL.out _).mono ?_; rintro e w' ⟨rfl, rfl⟩)
  simp only [hq]
  refine (bePut_new x w h0 h1).mono ?_
  rintro e w' ⟨rfl, rfl⟩
  clear hq hmk
  unfold nine
  go_wp2
  go_ret
  exact ⟨rfl, by simp [lcells, nine]⟩

set_option maxRecDepth 100000 in
set_option maxHeartbeats 400000 in
theorem leftEncode_6 (x : Int) (w : World) (h0 : 0 ≤ x) (h1 : x ≤ 18446744073709551615) (b : Int) (hb : b = (Lib.bitLen x.toNat : Int)) (hl : 41 ≤ b) (hu : b ≤ 48) :
    Calls Try.prog 14 #[.int .u64 x] w fun e w' => e = .returned (.slice (some ⟨w.heap.size, 2, none⟩) 7 7) ∧ w' = w.alloc (.cells (lcells 6 x) 5) := by
  have HL : Hid (∀ w, Calls Try.prog 21 #[.int .u64 x] w fun e w' => e = .returned (.int .i64 b) ∧ w = w') := fun w => by
    rw [hb]; exact (Try.bits_Len64 x w h0 h1).mono fun _ _ h => ⟨h.1, h.2.symm⟩
  clear hb
  have hq : (b + 7) / 8 = 6 := by omega
  have hmk := mk9
  go_enter Try.func14, Try.ntmps14
  go_wp2_with (go_at_call 21; refine (HL.out _).mono ?_; rintro e w' ⟨rfl, rfl⟩)
  simp only [hq]
  refine (bePut_new x w h0 h1).mono ?_
  rintro e w' ⟨rfl, rfl⟩
  clear hq hmk
  unfold nine
  go_wp2
  go_ret
  exact ⟨rfl, by simp [lcells, nine]⟩

set_option maxRecDepth 100000 in
set_option maxHeartbeats 400000 in
theorem leftEncode_7 (x : Int) (w : World) (h0 : 0 ≤ x) (h1 : x ≤ 18446744073709551615) (b : Int) (hb : b = (Lib.bitLen x.toNat : Int)) (hl : 49 ≤ b) (hu : b ≤ 56) :
    Calls Try.prog 14 #[.int .u64 x] w fun e w' => e = .returned (.slice (some ⟨w.heap.size, 1, none⟩) 8 8) ∧ w' = w.alloc (.cells (lcells 7 x) 5) := by
  have HL : Hid (∀ w, Calls Try.prog 21 #[.int .u64 x] w fun e w' => e = .returned (.int .i64 b) ∧ w = w') := fun w => by
    rw [hb]; exact (Try.bits_Len64 x w h0 h1).mono fun _ _ h => ⟨h.1, h.2.symm⟩
  clear hb
  have hq : (b + 7) / 8 = 7 := by omega
  have hmk := mk9
  go_enter Try.func14, Try.ntmps14
  go_wp2_with (go_at_call 21; refine (HL.out _).mono ?_; rintro e w' ⟨rfl, rfl⟩)
  simp only [hq]
  refine (bePut_new x w h0 h1).mono ?_
  rintro e w' ⟨rfl, rfl⟩
  clear hq hmk
  unfold nine
  go_wp2
  go_ret
  exact ⟨rfl, by simp [lcells, nine]⟩

set_option maxRecDepth 100000 in
set_option maxHeartbeats 400000 in
theorem leftEncode_8 (x : Int) (w : World) (h0 : 0 ≤ x) (h1 : x ≤ 18446744073709551615) (b : Int) (hb : b = (Lib.bitLen x.toNat : Int)) (hl : 57 ≤ b) (hu : b ≤ 64) :
    Calls Try.prog 14 #[.int .u64 x] w fun e w' => e = .returned (.slice (some ⟨w.heap.size, 0, none⟩) 9 9) ∧ w' = w.alloc (.cells (lcells 8 x) 5) := by
  have HL : Hid (∀ w, Calls Try.prog 21 #[.int .u64 x] w fun e w' => e = .returned (.int .i64 b) ∧ w = w') := fun w => by
    rw [hb]; exact (Try.bits_Len64 x w h0 h1).mono fun _ _ h => ⟨h.1, h.2.symm⟩
  clear hb
  have hq : (b + 7) / 8 = 8 := by omega
  have hmk := mk9
  go_enter Try.func14, Try.ntmps14
  go_wp2_with (go_at_call 21; refine (HL.out _).mono ?_; rintro e w' ⟨rfl, rfl⟩)
  simp only [hq]
  refine (bePut_new x w h0 h1).mono ?_
  rintro e w' ⟨rfl, rfl⟩
  clear hq hmk
  unfold nine
  go_wp2
  go_ret
  exact ⟨rfl, by simp [lcells, nine]⟩

set_option maxRecDepth 100000 in
set_option maxHeartbeats 400000 in
theorem leftEncode_0 (w : World) :
    Calls Try.prog 14 #[.int .u64 0] w fun e w' => e = .returned (.slice (some ⟨w.heap.size, 7, none⟩) 2 2) ∧ w' = w.alloc (.cells (lcells 1 0) 5) := by
  have HL : Hid (∀ w, Calls Try.prog 21 #[.int .u64 0] w fun e w' => e = .returned (.int .i64 0) ∧ w = w') := fun w => by
    exact (Try.bits_Len64 0 w (by decide) (by decide)).mono fun _ _ h => ⟨h.1, h.2.symm⟩
  have hmk := mk9
  go_enter Try.func14, Try.ntmps14
  go_wp2_with (go_at_call 21; refine (HL.out _).mono ?_; rintro e w' ⟨rfl, rfl⟩)
  refine (bePut_new 0 w (by decide) (by decide)).mono ?_
  rintro e w' ⟨rfl, rfl⟩
  clear hmk
  unfold nine
  go_wp2
  go_ret
  exact ⟨rfl, by simp [lcells, nine]⟩

/-- How many bytes tell a number. -/
def nb (x : Nat) : Nat := if x = 0 then 1 else (Lib.bitLen x + 7) / 8
theorem nb_bd (x : Nat) (h : x < 18446744073709551616) : 1 ≤ nb x ∧ nb x ≤ 8 := by
  unfold nb
  split
  · omega
  · have h1 := Lib.bitLen_le x 64 (by omega) (by simpa using h)
    have h2 := Lib.bitLenAux_bounds 64 x (by simpa using h) (by assumption)
    unfold Lib.bitLen at *
    omega

/-- leftEncode of any number. -/
theorem leftEncode_any (x : Nat) (w : World) (h : x < 18446744073709551616) :
    Calls Try.prog 14 #[.int .u64 x] w fun e w' => e = .returned (.slice (some ⟨w.heap.size, 8 - nb x, none⟩) (nb x + 1) (nb x + 1)) ∧ w' = w.alloc (.cells (lcells (nb x) x) 5) := by
  by_cases h0 : x = 0
  · subst h0
    exact leftEncode_0 w
  · have hbd := nb_bd x h
    have he : nb x = (Lib.bitLen x + 7) / 8 := by unfold nb; rw [if_neg h0]
    have hn : ((Lib.bitLen x : Nat) : Int) = (Lib.bitLen ((x : Int)).toNat : Int) := by simp
    generalize nb x = n at *
    rcases (by omega : n = 1 ∨ n = 2 ∨ n = 3 ∨ n = 4 ∨ n = 5 ∨ n = 6 ∨ n = 7 ∨ n = 8) with rfl | rfl | rfl | rfl | rfl | rfl | rfl | rfl
    · exact leftEncode_1 x w (by omega) (by omega) _ hn (by omega) (by omega)
    · exact leftEncode_2 x w (by omega) (by omega) _ hn (by omega) (by omega)
    · exact leftEncode_3 x w (by omega) (by omega) _ hn (by omega) (by omega)
    · exact leftEncode_4 x w (by omega) (by omega) _ hn (by omega) (by omega)
    · exact leftEncode_5 x w (by omega) (by omega) _ hn (by omega) (by omega)
    · exact leftEncode_6 x w (by omega) (by omega) _ hn (by omega) (by omega)
    · exact leftEncode_7 x w (by omega) (by omega) _ hn (by omega) (by omega)
    · exact leftEncode_8 x w (by omega) (by omega) _ hn (by omega) (by omega)

end Go.Proofs.Ytnlmgpnhebohfaa
