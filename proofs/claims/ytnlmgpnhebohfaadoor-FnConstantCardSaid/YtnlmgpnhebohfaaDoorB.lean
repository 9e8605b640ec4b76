/-
  spec.Constant and impl.Constant at a round from 0 to 23.
-/
import Derived.Test.YtnlmgpnhebohfaaDoorA
import Derived.Deep.RegionWith
import Derived.Deep.DrawnRows
namespace Go.Proofs.YtnlmgpnhebohfaaDoor
open Go.ChangeShapes Go.WideShapes Go.ChangeAt Go.RowKit

theorem below_of_drew {B : Nat} {w w1 : World} (h : Below B w.drew w1) : Below B w w1 := ⟨h.os, h.tape, h.output, h.size, h.block⟩
/-- The bit at a turn. -/
def bt (t : Nat) : Int := vb ((R t).getD 0 false)

/-- The constant of a round: at 2 to the j, less 1, the bit j + 7 times the round. -/
def cv (r : Nat) : Int := (bits .or .u64 (bits .or .u64 (bits .or .u64 (bits .or .u64 (bits .or .u64 (bits .or .u64 (bits .or .u64 0 (bt (7 * (r : Int)).toNat)) (bt (1 + 7 * (r : Int)).toNat * 2)) (bt (2 + 7 * (r : Int)).toNat * 8)) (bt (3 + 7 * (r : Int)).toNat * 128)) (bt (4 + 7 * (r : Int)).toNat * 32768)) (bt (5 + 7 * (r : Int)).toNat * 2147483648)) (bt (6 + 7 * (r : Int)).toNat * 9223372036854775808))

theorem drewLast {w w1 w2 w3 w4 w5 w6 w7 : World} (h0 : Below w.drew.heap.size w.drew w1) (h1 : Below w1.drew.heap.size w1.drew w2) (h2 : Below w2.drew.heap.size w2.drew w3) (h3 : Below w3.drew.heap.size w3.drew w4)
    (h4 : Below w4.drew.heap.size w4.drew w5) (h5 : Below w5.drew.heap.size w5.drew w6) (h6 : Below w6.drew.heap.size w6.drew w7) : Below w.heap.size w w7 := by
  have k0 := below_of_drew h0
  have k1 := k0.trans ((below_of_drew h1).mono k0.size)
  have k2 := k1.trans ((below_of_drew h2).mono k1.size)
  have k3 := k2.trans ((below_of_drew h3).mono k2.size)
  have k4 := k3.trans ((below_of_drew h4).mono k3.size)
  have k5 := k4.trans ((below_of_drew h5).mono k4.size)
  exact k5.trans ((below_of_drew h6).mono k5.size)

set_option maxRecDepth 100000 in
set_option maxHeartbeats 4000000 in
theorem specConstant_any (r : Nat) (w : World) (h : r < 24) :
    Calls Tryd.prog 5 #[.int .i64 r] w fun e w' => e = .returned (.int .u64 (cv r)) ∧ Below w.heap.size w w' := by
  have HB : Hid (∀ (t : Int) (w : World), 0 ≤ t → t < 255 → Calls Tryd.prog 7 #[.int .i64 t] w fun e w' => ∃ b : Int, e = .returned (.int .u64 b) ∧ Hid (b = bt t.toNat) ∧ 0 ≤ b ∧ b ≤ 1 ∧ Below w.heap.size w w') := by
    intro t w h0 h1
    obtain ⟨T, rfl⟩ := Int.eq_ofNat_of_zero_le h0
    refine (bit_any T w (by omega)).mono ?_
    rintro e w' ⟨rfl, hb⟩
    exact ⟨_, rfl, rfl, vb_nn _, vb_le _, hb⟩
  have q : IntKind.i64.wrap (7 * (r : Int)) = 7 * (r : Int) := by rw [IntKind.wrap_i64]; omega
  have q1 : IntKind.i64.wrap (1 + 7 * (r : Int)) = 1 + 7 * (r : Int) := by rw [IntKind.wrap_i64]; omega
  have q2 : IntKind.i64.wrap (2 + 7 * (r : Int)) = 2 + 7 * (r : Int) := by rw [IntKind.wrap_i64]; omega
  have q3 : IntKind.i64.wrap (3 + 7 * (r : Int)) = 3 + 7 * (r : Int) := by rw [IntKind.wrap_i64]; omega
  have q4 : IntKind.i64.wrap (4 + 7 * (r : Int)) = 4 + 7 * (r : Int) := by rw [IntKind.wrap_i64]; omega
  have q5 : IntKind.i64.wrap (5 + 7 * (r : Int)) = 5 + 7 * (r : Int) := by rw [IntKind.wrap_i64]; omega
  have q6 : IntKind.i64.wrap (6 + 7 * (r : Int)) = 6 + 7 * (r : Int) := by rw [IntKind.wrap_i64]; omega
  have u1 : IntKind.u64.wrap 1 = 1 := by decide
  have u0 : IntKind.u64.wrap 0 = 0 := by decide
  have u2 : IntKind.u64.wrap 2 = 2 := by decide
  have u3 : IntKind.u64.wrap 3 = 3 := by decide
  have u4 : IntKind.u64.wrap 4 = 4 := by decide
  have u7 : IntKind.u64.wrap 7 = 7 := by decide
  have u8 : IntKind.u64.wrap 8 = 8 := by decide
  have u15 : IntKind.u64.wrap 15 = 15 := by decide
  have u16 : IntKind.u64.wrap 16 = 16 := by decide
  have u31 : IntKind.u64.wrap 31 = 31 := by decide
  have u32 : IntKind.u64.wrap 32 = 32 := by decide
  have u63 : IntKind.u64.wrap 63 = 63 := by decide
  have u64 : IntKind.u64.wrap 64 = 64 := by decide
  go_enter Tryd.func5, Tryd.ntmps5
  go_wp2
  refine wp_loop_rounds 8 ?_
  rw [rounds_succ]
  go_wp2
  go_region_with (go_at_call 7; refine (HB.out _ _ (by omega) (by omega)).mono ?_; rintro e w1 ⟨b0, rfl, hb0, n0, l0, hw0⟩)
  go_wp2
  rw [rounds_succ]
  go_wp2
  go_region_with (go_at_call 7; refine (HB.out _ _ (by omega) (by omega)).mono ?_; rintro e w2 ⟨b1, rfl, hb1, n1, l1, hw1⟩)
  go_wp2
  rw [rounds_succ]
  go_wp2
  go_region_with (go_at_call 7; refine (HB.out _ _ (by omega) (by omega)).mono ?_; rintro e w3 ⟨b2, rfl, hb2, n2, l2, hw2⟩)
  go_wp2
  rw [rounds_succ]
  go_wp2
  go_region_with (go_at_call 7; refine (HB.out _ _ (by omega) (by omega)).mono ?_; rintro e w4 ⟨b3, rfl, hb3, n3, l3, hw3⟩)
  go_wp2
  rw [rounds_succ]
  go_wp2
  go_region_with (go_at_call 7; refine (HB.out _ _ (by omega) (by omega)).mono ?_; rintro e w5 ⟨b4, rfl, hb4, n4, l4, hw4⟩)
  go_wp2
  rw [rounds_succ]
  go_wp2
  go_region_with (go_at_call 7; refine (HB.out _ _ (by omega) (by omega)).mono ?_; rintro e w6 ⟨b5, rfl, hb5, n5, l5, hw5⟩)
  go_wp2
  rw [rounds_succ]
  go_wp2
  go_region_with (go_at_call 7; refine (HB.out _ _ (by omega) (by omega)).mono ?_; rintro e w7 ⟨b6, rfl, hb6, n6, l6, hw6⟩)
  go_wp2
  rw [rounds_succ]
  go_wp2
  go_ret
  refine ⟨?_, ?_⟩
  · unfold cv
    rw [← hb0.out, ← hb1.out, ← hb2.out, ← hb3.out, ← hb4.out, ← hb5.out, ← hb6.out]
    rfl
  · exact drewLast hw0 hw1 hw2 hw3 hw4 hw5 hw6

end Go.Proofs.YtnlmgpnhebohfaaDoor
