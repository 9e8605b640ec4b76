/-
  The makers of hashes (impl.digest and the New functions), their two methods on sizes, impl.Sizes: what each call hands back, and what it leaves in memory. No condition but the kind's range.
-/
import Derived.Test.YtnlmgpnhebohfaaRows
import Derived.WalkKit
import Derived.ProofKit
import Derived.OpenShut
import Derived.BigQuiet
import Derived.Deep.QuietTactic
import Derived.WalkSpells
namespace Go.Proofs.Ytnlmgpnhebohfaa
open Go.ChangeShapes Go.WideShapes Go.ChangeAt Go.RowKit

/-- The cells of a hash at its start. -/
def zc : Array Value := (List.replicate 200 (Value.int .u8 0) ++ [Value.int .i64 0, Value.int .i64 0, Value.int .u8 0, Value.int .i64 0, Value.int .i64 0]).toArray
theorem zc_size : zc.size = 205 := by kernel_rfl
theorem zc_run (w : World) : (zeroValue 40).run Try.prog w = .ok (.agg zc) w := by kernel_rfl
/-- .. of a rate, a size, bits. -/
def dc (rate size : Int) (ds : Int) : Array Value := ((zc.setIfInBounds 201 (.int .i64 rate)).setIfInBounds 203 (.int .i64 size)).setIfInBounds 202 (.int .u8 ds)
theorem dc_size (r s d : Int) : (dc r s d).size = 205 := by simp [dc, zc_size]
theorem dc_rate (r s d : Int) : (dc r s d)[201]? = some (.int .i64 r) := by
  simp [dc, zc_size]
theorem dc_out (r s d : Int) : (dc r s d)[203]? = some (.int .i64 s) := by
  simp [dc, zc_size]

set_option maxRecDepth 100000 in
set_option maxHeartbeats 400000 in
theorem new15 (w : World) : Calls Try.prog 15 #[] w fun e w' => e = .returned (.pointer (some ⟨w.heap.size, 0, none⟩)) ∧ w' = w.alloc (.cells (dc 144 28 6) 40) := by
  have hz := zc_run
  have hs := zc_size
  go_enter Try.func15, Try.ntmps15
  go_wp2
  go_ret
  exact ⟨rfl, rfl⟩

set_option maxRecDepth 100000 in
set_option maxHeartbeats 400000 in
theorem new16 (w : World) : Calls Try.prog 16 #[] w fun e w' => e = .returned (.pointer (some ⟨w.heap.size, 0, none⟩)) ∧ w' = w.alloc (.cells (dc 136 32 6) 40) := by
  have hz := zc_run
  have hs := zc_size
  go_enter Try.func16, Try.ntmps16
  go_wp2
  go_ret
  exact ⟨rfl, rfl⟩

set_option maxRecDepth 100000 in
set_option maxHeartbeats 400000 in
theorem new17 (w : World) : Calls Try.prog 17 #[] w fun e w' => e = .returned (.pointer (some ⟨w.heap.size, 0, none⟩)) ∧ w' = w.alloc (.cells (dc 104 48 6) 40) := by
  have hz := zc_run
  have hs := zc_size
  go_enter Try.func17, Try.ntmps17
  go_wp2
  go_ret
  exact ⟨rfl, rfl⟩

set_option maxRecDepth 100000 in
set_option maxHeartbeats 400000 in
theorem new18 (w : World) : Calls Try.prog 18 #[] w fun e w' => e = .returned (.pointer (some ⟨w.heap.size, 0, none⟩)) ∧ w' = w.alloc (.cells (dc 72 64 6) 40) := by
  have hz := zc_run
  have hs := zc_size
  go_enter Try.func18, Try.ntmps18
  go_wp2
  go_ret
  exact ⟨rfl, rfl⟩

set_option maxRecDepth 100000 in
set_option maxHeartbeats 400000 in
theorem new19 (w : World) : Calls Try.prog 19 #[] w fun e w' => e = .returned (.pointer (some ⟨w.heap.size, 0, none⟩)) ∧ w' = w.alloc (.cells (dc 136 32 1) 40) := by
  have hz := zc_run
  have hs := zc_size
  go_enter Try.func19, Try.ntmps19
  go_wp2
  go_ret
  exact ⟨rfl, rfl⟩

set_option maxRecDepth 100000 in
set_option maxHeartbeats 400000 in
theorem new20 (w : World) : Calls Try.prog 20 #[] w fun e w' => e = .returned (.pointer (some ⟨w.heap.size, 0, none⟩)) ∧ w' = w.alloc (.cells (dc 72 64 1) 40) := by
  have hz := zc_run
  have hs := zc_size
  go_enter Try.func20, Try.ntmps20
  go_wp2
  go_ret
  exact ⟨rfl, rfl⟩

/-- impl.digest at a kind. -/
def rateK : Int → Int | 0 => 144 | 1 => 136 | 2 => 104 | 3 => 72 | 4 => 136 | _ => 72
def outK : Int → Int | 0 => 28 | 1 => 32 | 2 => 48 | 3 => 64 | 4 => 32 | _ => 64
def dsK : Int → Int | 4 => 1 | 5 => 1 | _ => 6

set_option maxRecDepth 100000 in
set_option maxHeartbeats 400000 in
theorem digest_any (k : Int) (h0 : 0 ≤ k) (h5 : k < 6) (w : World) : Calls Try.prog 11 #[.int .i64 k] w fun e w' => e = .returned (.pointer (some ⟨w.heap.size, 0, none⟩)) ∧ w' = w.alloc (.cells (dc (rateK k) (outK k) (dsK k)) 40) := by
  have hk : k = 0 ∨ k = 1 ∨ k = 2 ∨ k = 3 ∨ k = 4 ∨ k = 5 := by omega
  clear h0 h5
  rcases hk with rfl | rfl | rfl | rfl | rfl | rfl
  all_goals
    go_enter Try.func11, Try.ntmps11
    go_wp2_with (first
      | (go_at_call 15; refine (new15 _).mono ?_; rintro e w' ⟨rfl, rfl⟩)
      | (go_at_call 16; refine (new16 _).mono ?_; rintro e w' ⟨rfl, rfl⟩)
      | (go_at_call 17; refine (new17 _).mono ?_; rintro e w' ⟨rfl, rfl⟩)
      | (go_at_call 18; refine (new18 _).mono ?_; rintro e w' ⟨rfl, rfl⟩)
      | (go_at_call 19; refine (new19 _).mono ?_; rintro e w' ⟨rfl, rfl⟩)
      | (go_at_call 20; refine (new20 _).mono ?_; rintro e w' ⟨rfl, rfl⟩))
    go_ret
    exact ⟨rfl, rfl⟩

set_option maxRecDepth 100000 in
set_option maxHeartbeats 400000 in
theorem size_any (b : Nat) (n : Int) (w : World) (hc : w.cell? ⟨b, 203, none⟩ = some (.int .i64 n)) : Calls Try.prog 12 #[.pointer (some ⟨b, 0, none⟩)] w fun e w' => e = .returned (.int .i64 n) ∧ w' = w := by
  go_enter Try.func12, Try.ntmps12
  go_wp2
  go_ret
  exact ⟨rfl, rfl⟩

set_option maxRecDepth 100000 in
set_option maxHeartbeats 400000 in
theorem block_any (b : Nat) (n : Int) (w : World) (hc : w.cell? ⟨b, 201, none⟩ = some (.int .i64 n)) : Calls Try.prog 13 #[.pointer (some ⟨b, 0, none⟩)] w fun e w' => e = .returned (.int .i64 n) ∧ w' = w := by
  go_enter Try.func13, Try.ntmps13
  go_wp2
  go_ret
  exact ⟨rfl, rfl⟩

set_option maxRecDepth 100000 in
set_option maxHeartbeats 400000 in
theorem implSizes_any (k : Int) (h0 : 0 ≤ k) (h5 : k < 6) (w : World) : Calls Try.prog 8 #[.int .i64 k] w fun e w' => e = .returned (.tuple #[.int .i64 (outK k), .int .i64 (rateK k)]) ∧ Grown w w' := by
  have c1 : (w.alloc (.cells (dc (rateK k) (outK k) (dsK k)) 40)).cell? ⟨w.heap.size, 203, none⟩ = some (.int .i64 (outK k)) := by
    rw [World.cell?_alloc_new]; exact dc_out _ _ _
  have c2 : (w.alloc (.cells (dc (rateK k) (outK k) (dsK k)) 40)).cell? ⟨w.heap.size, 201, none⟩ = some (.int .i64 (rateK k)) := by
    rw [World.cell?_alloc_new]; exact dc_rate _ _ _
  go_enter Try.func8, Try.ntmps8
  go_wp2_with (first
    | (go_at_call 11; refine (digest_any k h0 h5 _).mono ?_; rintro e w' ⟨rfl, rfl⟩)
    | (go_at_call 12; refine (size_any _ _ _ c1).mono ?_; rintro e w' ⟨rfl, rfl⟩)
    | (go_at_call 13; refine (block_any _ _ _ c2).mono ?_; rintro e w' ⟨rfl, rfl⟩))
  go_ret2
  exact ⟨rfl, (Grown.refl _).alloc _ _⟩


end Go.Proofs.Ytnlmgpnhebohfaa
