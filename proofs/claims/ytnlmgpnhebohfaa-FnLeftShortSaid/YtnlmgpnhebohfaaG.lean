/-
  laws.FnLeftShort answers true at every uint64. No condition.
-/
import Derived.Test.YtnlmgpnhebohfaaE
namespace Go.Proofs.Ytnlmgpnhebohfaa
open Go.ChangeShapes Go.WideShapes Go.ChangeAt Go.RowKit

theorem implLeft_cells (x : Nat) (w : World) (h : x < 18446744073709551616) :
    Calls Try.prog 6 #[.int .u64 x] w fun e w' => ∃ g o, e = .returned (.slice (some ⟨g, o, none⟩) (nb x + 1) (nb x + 1)) ∧
      (∀ i, i < nb x + 1 → w'.cell? ⟨g, o + i, none⟩ = some (.int .u8 (((LX x).getD i 0 : Nat) : Int))) ∧ Below w.heap.size w w' := by
  refine (implLeft_any x w h).mono ?_
  rintro e w' ⟨rfl, rfl⟩
  refine ⟨_, _, rfl, fun i hi => ?_, (Below.refl _ _).alloc (Nat.le_refl _) _⟩
  have hbd := nb_bd x h
  obtain ⟨k, hk⟩ : ∃ k, nb x = k + 1 := ⟨nb x - 1, by omega⟩
  rw [World.cell?_alloc_new]
  unfold LX
  rw [hk] at hi ⊢
  exact lcells_at x k i h (by omega) (by omega)

theorem dg_at (x : Nat) : ∀ k i, i ≤ k → (dg x k).getD i 0 = x / 256 ^ (k - i) % 256
  | 0, 0, _ => by simp [dg]
  | k + 1, 0, _ => by simp [dg]
  | k + 1, i + 1, h => by
    have := dg_at x k i (by omega)
    simp only [dg, List.getD_cons_succ, this]
    rw [show k + 1 - (i + 1) = k - i from by omega]

/-- What one step of the fold gives. -/
theorem fold_step (x n i : Nat) (hi : i < n) : x / 256 ^ (n - i) * 256 + x / 256 ^ (n - 1 - i) % 256 = x / 256 ^ (n - (i + 1)) := by
  rw [show n - 1 - i = n - (i + 1) from by omega, show n - i = n - (i + 1) + 1 from by omega, Nat.pow_succ, ← Nat.div_div_eq_div_mul]
  omega

theorem or_add (y v : Nat) (hv : v < 256) : y * 256 ||| v = y * 256 + v := by
  have hv' : v < 2 ^ 8 := Nat.lt_of_lt_of_le hv (by decide)
  have := Nat.shiftLeft_add_eq_or_of_lt hv' y
  rw [Nat.shiftLeft_eq, show (2 : Nat) ^ 8 = 256 from rfl] at this
  exact this.symm
set_option maxRecDepth 100000 in
theorem or_step (y v : Nat) (hv : v < 256) (h : y * 256 + v < 18446744073709551616) : bits .or .u64 ((y : Int) * 256) (v : Int) = ((y * 256 + v : Nat) : Int) := by
  have e : ((y : Int) * 256) = ((y * 256 : Nat) : Int) := by omega
  have h1 : y * 256 < 18446744073709551616 := by omega
  have h2 : v < 18446744073709551616 := by omega
  rw [e, u64_or_nat (y * 256) v h1 h2, or_add y v hv]

set_option maxRecDepth 100000 in
set_option maxHeartbeats 1000000 in
theorem fnLeftShort_n (x n d : Nat) (w : World) (h : x < 18446744073709551616) (n1 : 1 ≤ n) (n8 : n ≤ 8) (hd : 1 ≤ d) (hd8 : d < 256) (HN : Hid (nb x = n)) (HD : Hid (d = x / 256 ^ (n - 1) % 256)) (HX : Hid (x < 256 ^ n)) :
    Calls Try.prog 4 #[.int .u64 x] w fun e w' => e = .returned (.bool true) ∧ Below w.heap.size w w' := by
  have HC : Hid (∀ w, Calls Try.prog 6 #[.int .u64 x] w fun e w' => ∃ g o, e = .returned (.slice (some ⟨g, o, none⟩) (n + 1) (n + 1)) ∧ w'.cell? ⟨g, o, none⟩ = some (.int .u8 n) ∧ w'.cell? ⟨g, o + 1, none⟩ = some (.int .u8 d) ∧
      Hid (∀ i, i < n → w'.cell? ⟨g, o + 1 + i, none⟩ = some (.int .u8 ((x / 256 ^ (n - 1 - i) % 256 : Nat) : Int))) ∧ Below w.heap.size w w') := by
    intro w
    refine (implLeft_cells x w h).mono ?_
    rintro e w' ⟨g, o, rfl, hc, hb⟩
    rw [HN.out] at hc
    have hl : ∀ i, i < n → w'.cell? ⟨g, o + 1 + i, none⟩ = some (.int .u8 ((x / 256 ^ (n - 1 - i) % 256 : Nat) : Int)) := by
      intro i hi
      have := hc (i + 1) (by omega)
      unfold LX at this
      rw [HN.out, List.getD_cons_succ, dg_at x (n - 1) i (by omega)] at this
      rw [show o + 1 + i = o + (i + 1) from by omega]
      exact this
    refine ⟨g, o, by rw [HN.out], ?_, ?_, hl, hb⟩
    · have := hc 0 (by omega)
      unfold LX at this
      rw [HN.out] at this
      simpa using this
    · have := hl 0 (by omega)
      rw [HD.out]
      simpa using this
  go_enter Try.func4, Try.ntmps4
  go_wp2_with (go_at_call 6; refine (HC.out _).mono ?_; rintro e w1 ⟨g, o, rfl, c0, c1, HL, hb1⟩)
  go_loop [4, 41] (fun v4 v41 => ∃ i y, i ≤ n ∧ v41 = .int .i64 ((i : Nat) : Int) ∧ v4 = .int .u64 ((y : Nat) : Int) ∧ Hid (y = x / 256 ^ (n - i))) (fun _ v41 => n - (intOf v41).toNat)
  case atStart => exact ⟨0, 0, by omega, rfl, rfl, by
    have := HX.out
    show 0 = x / 256 ^ (n - 0)
    rw [Nat.sub_zero, Nat.div_eq_of_lt this]⟩
  case round =>
    obtain ⟨i, y, hi, rfl, rfl, HY⟩ := hrel
    by_cases hlt : i < n
    · obtain ⟨v, hc, HV, hv⟩ : ∃ v : Nat, w1.cell? ⟨g, o + 1 + i, none⟩ = some (.int .u8 (v : Int)) ∧ Hid (v = x / 256 ^ (n - 1 - i) % 256) ∧ v < 256 := ⟨_, HL.out i hlt, rfl, Nat.mod_lt _ (by decide)⟩
      have HF : Hid (y * 256 + v = x / 256 ^ (n - (i + 1))) := by
        have := fold_step x n i hlt
        rw [← HY.out, ← HV.out] at this
        exact this
      have hlt64 : y * 256 + v < 18446744073709551616 := by
        have := Nat.div_le_self x (256 ^ (n - (i + 1)))
        rw [← HF.out] at this
        omega
      go_wp2
      go_round
      case rel => exact ⟨i + 1, y * 256 + v, by omega, by go_num, by rw [or_step y v hv hlt64], HF⟩
      case measure => simp [intOf]; omega
    · have hin : i = n := by omega
      have hyx : y = x := by
        have := HY.out
        rw [hin, Nat.sub_self] at this
        simpa using this
      clear HY
      subst hyx
      subst hin
      go_wp2
      go_ret
      exact ⟨rfl, hb1⟩

theorem nb_bounds (x : Nat) (hx : x < 18446744073709551616) (h0 : x ≠ 0) : x < 256 ^ nb x ∧ 256 ^ (nb x - 1) ≤ x := by
  have hbd := nb_bd x hx
  unfold nb at *
  rw [if_neg h0] at *
  obtain ⟨b1, b2, b3⟩ := Lib.bitLenAux_bounds 64 x (by simpa using hx) h0
  have e : Lib.bitLen x = Lib.bitLenAux 64 x := rfl
  rw [e] at *
  generalize Lib.bitLenAux 64 x = b at *
  rw [show (256 : Nat) = 2 ^ 8 from rfl, ← Nat.pow_mul, ← Nat.pow_mul]
  exact ⟨Nat.lt_of_lt_of_le b3 (Nat.pow_le_pow_right (by decide) (by omega)), Nat.le_trans (Nat.pow_le_pow_right (by decide) (by omega)) b2⟩

set_option maxRecDepth 100000 in
set_option maxHeartbeats 1000000 in
theorem fnLeftShort_0 (w : World) :
    Calls Try.prog 4 #[.int .u64 0] w fun e w' => e = .returned (.bool true) ∧ Below w.heap.size w w' := by
  have HC : Hid (∀ w, Calls Try.prog 6 #[.int .u64 0] w fun e w' => ∃ g o, e = .returned (.slice (some ⟨g, o, none⟩) 2 2) ∧ w'.cell? ⟨g, o, none⟩ = some (.int .u8 1) ∧ w'.cell? ⟨g, o + 1, none⟩ = some (.int .u8 0) ∧ Below w.heap.size w w') := by
    intro w
    refine (implLeft_cells 0 w (by decide)).mono ?_
    rintro e w' ⟨g, o, rfl, hc, hb⟩
    have c0 := hc 0 (by decide)
    have c1 := hc 1 (by decide)
    exact ⟨g, o, rfl, c0, c1, hb⟩
  have hor : bits .or .u64 0 0 = 0 := by decide
  go_enter Try.func4, Try.ntmps4
  go_wp2_with (go_at_call 6; refine (HC.out _).mono ?_; rintro e w1 ⟨g, o, rfl, c0, c1, hb1⟩)
  refine wp_loop_rounds 2 ?_
  iterate 2 (rw [rounds_succ]; go_wp2)
  go_ret
  exact ⟨rfl, hb1⟩

theorem fnLeftShort_any (x : Nat) (w : World) (h : x < 18446744073709551616) :
    Calls Try.prog 4 #[.int .u64 x] w fun e w' => e = .returned (.bool true) ∧ Below w.heap.size w w' := by
  by_cases h0 : x = 0
  · subst h0
    exact fnLeftShort_0 w
  · obtain ⟨a, b⟩ := nb_bounds x h h0
    have hbd := nb_bd x h
    have hd : 1 ≤ x / 256 ^ (nb x - 1) := (Nat.one_le_div_iff (Nat.pow_pos (by decide))).2 b
    have hd2 : x / 256 ^ (nb x - 1) < 256 := by
      rw [Nat.div_lt_iff_lt_mul (Nat.pow_pos (by decide))]
      rw [show 256 * 256 ^ (nb x - 1) = 256 ^ nb x from by rw [Nat.mul_comm, ← Nat.pow_succ]; congr 1; omega]
      exact a
    exact fnLeftShort_n x (nb x) (x / 256 ^ (nb x - 1) % 256) w h hbd.1 hbd.2 (by rw [Nat.mod_eq_of_lt hd2]; exact hd) (Nat.mod_lt _ (by decide)) rfl rfl a

end Go.Proofs.Ytnlmgpnhebohfaa
