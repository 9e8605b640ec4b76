/-
  laws.FnConstant answers true at every number, where the table of the constants reads as its text lays it.
-/
import Derived.Test.YtnlmgpnhebohfaaDoorB
namespace Go.Proofs.YtnlmgpnhebohfaaDoor
open Go.ChangeShapes Go.WideShapes Go.ChangeAt Go.RowKit

/-- The table's numbers. -/
def rcs : List Int := [1, 32898, 9223372036854808714, 9223372039002292224, 32907, 2147483649, 9223372039002292353, 9223372036854808585, 138, 136, 2147516425, 2147483658, 2147516555, 9223372036854775947, 9223372036854808713, 9223372036854808579, 9223372036854808578, 9223372036854775936, 32778, 9223372039002259466, 9223372039002292353, 9223372036854808704, 2147483649, 9223372039002292232]
theorem cv_all : ∀ r, r < 24 → cv r = rcs.getD r 0 := by decide +kernel

set_option maxRecDepth 100000 in
set_option maxHeartbeats 400000 in
theorem zz_any (r : Nat) (w : World) (h : r < 24) (c : Int) (hc : w.cell? ⟨0, r, none⟩ = some (.int .u64 c)) :
    Calls Tryd.prog 6 #[.int .i64 r] w fun e w' => e = .returned (.int .u64 c) ∧ w' = w := by
  have h0 : (0 : Int) ≤ (r : Int) := by omega
  have h1 : (r : Int) < 24 := by omega
  go_enter Tryd.func6, Tryd.ntmps6
  go_wp2
  go_ret
  exact ⟨rfl, rfl⟩

set_option maxRecDepth 100000 in
set_option maxHeartbeats 400000 in
theorem implConstant_any (r : Nat) (w : World) (h : r < 24) (c : Int) (hc : w.cell? ⟨0, r, none⟩ = some (.int .u64 c)) :
    Calls Tryd.prog 4 #[.int .i64 r] w fun e w' => e = .returned (.int .u64 c) ∧ w' = w := by
  have h0 : (0 : Int) ≤ (r : Int) := by omega
  have h1 : (r : Int) < 24 := by omega
  go_enter Tryd.func4, Tryd.ntmps4
  go_wp2_with (go_at_call 6; refine (zz_any r _ h c hc).mono ?_; rintro e w' ⟨rfl, rfl⟩)
  go_ret
  exact ⟨rfl, rfl⟩

set_option maxRecDepth 100000 in
set_option maxHeartbeats 400000 in
theorem fnConstant_out (a : Int) (w : World) (h : 23 < a) :
    Calls Tryd.prog 3 #[.int .u8 a] w fun e w' => e = .returned (.bool true) ∧ Below w.heap.size w w' := by
  go_enter Tryd.func3, Tryd.ntmps3
  go_wp2
  go_ret
  exact ⟨rfl, Below.refl _ _⟩

set_option maxRecDepth 100000 in
set_option maxHeartbeats 400000 in
theorem fnConstant_in (r : Nat) (w : World) (h : r < 24) (hc : w.cell? ⟨0, r, none⟩ = some (.int .u64 (cv r))) :
    Calls Tryd.prog 3 #[.int .u8 r] w fun e w' => e = .returned (.bool true) ∧ Below w.heap.size w w' := by
  have h0 : (0 : Int) ≤ (r : Int) := by omega
  have h1 : (r : Int) < 24 := by omega
  go_enter Tryd.func3, Tryd.ntmps3
  go_wp2_with (first
    | (go_at_call 4; refine (implConstant_any r _ h _ hc).mono ?_; rintro e w' ⟨rfl, rfl⟩)
    | (go_at_call 5; refine (specConstant_any r _ h).mono ?_; rintro e w2 ⟨rfl, hb⟩))
  go_ret
  exact ⟨rfl, hb⟩
end Go.Proofs.YtnlmgpnhebohfaaDoor
