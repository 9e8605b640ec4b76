/-
  spec.Left: its number's bytes, the highest first, with how many they are ahead. Conditions: the number is a uint64.
-/
import Derived.Test.YtnlmgpnhebohfaaC
import Derived.Maps.AppendAt
import Derived.Deep.AppendLies
import Derived.OwnWalk
import Derived.Lib.Hide
namespace Go.Proofs.Ytnlmgpnhebohfaa
open Go.ChangeShapes Go.WideShapes Go.ChangeAt Go.RowKit

/-- The k + 1 lowest bytes of a number, the highest first. -/
def dg (x : Nat) : Nat → List Nat
  | 0 => [x % 256]
  | k + 1 => (x / 256 ^ (k + 1) % 256) :: dg x k
def bv (l : List Nat) : List Value := l.map fun (n : Nat) => Value.int .u8 (n : Int)
theorem dg_length (x : Nat) : ∀ k, (dg x k).length = k + 1
  | 0 => rfl
  | k + 1 => by simp [dg, dg_length x k]
theorem bv_length (l : List Nat) : (bv l).length = l.length := by simp [bv]
theorem bv_one (l : List Nat) : ∀ u ∈ bv l, u.oneCell' = true := by
  intro u hu
  obtain ⟨n, _, rfl⟩ := List.mem_map.1 hu
  rfl
theorem info5 : (Try.prog.info? 5).map (fun i => (i.zero, i.size, i.bytes)) = some (some (.int .u8 0), 1, 1) := by kernel_rfl

/-- A new block of one cell is owned. -/
theorem owns_one (w : World) (base : Nat) (u : Value) (hb : base ≤ w.heap.size) : (w.alloc (.cells #[u] 5)).ownsRow base 5 1 (.slice (some ⟨w.heap.size, 0, none⟩) 1 1) 1 [u] :=
  ⟨by simp, .inr ⟨w.heap.size, 1, #[u], rfl, hb, heap_alloc_new w _, Nat.le_refl _, by decide, by simp, by simp⟩⟩

def SRel (base : Nat) (w : World) (x : Nat) (v : Value) (k : Nat) (wr : World) : Prop :=
  wr.ownsRow base 5 1 v (k + 1) (bv (dg x k)) ∧ Below base w wr ∧ base ≤ wr.heap.size

theorem srel_start (w : World) (x : Nat) : SRel w.heap.size w x (.slice (some ⟨w.heap.size, 0, none⟩) 1 1) 0 (w.alloc (.cells #[.int .u8 ((x : Int) % 256)] 5)) := by
  refine ⟨?_, (Below.refl _ _).alloc (Nat.le_refl _) _, by simp⟩
  have := owns_one w w.heap.size (.int .u8 ((x : Int) % 256)) (Nat.le_refl _)
  simpa [bv, dg] using this

theorem srel_cells {base : Nat} {w wr : World} {x g cap k : Nat} (h : SRel base w x (.slice (some ⟨g, 0, none⟩) (k + 1) cap) k wr) (o : Obj) :
    ∀ j u, (bv (dg x k))[j]? = some u → (wr.alloc o).cell? ((⟨g, 0, none⟩ : Addr).add j) = some u := (h.1.alloc o).cells rfl

theorem srel_form {base : Nat} {w wr : World} {x k : Nat} {v : Value} (h : SRel base w x v k wr) : ∃ g cap, v = .slice (some ⟨g, 0, none⟩) (k + 1) cap := by
  obtain ⟨g, cap, hv, _⟩ := h.1.form (by omega)
  exact ⟨g, cap, hv⟩

theorem srel_step {base : Nat} {w wr w1 : World} {x k y : Nat} {v v' : Value} (h : SRel base w x v k wr) (hy : y = x / 256 ^ (k + 1)) (o : Obj)
    (hown : w1.ownsRow base 5 1 v' (1 + (k + 1)) ([.int .u8 ((y : Int) % 256)] ++ bv (dg x k))) (hg : (wr.alloc o).grownBy w1 (some wr.heap.size)) : SRel base w x v' (k + 1) w1 := by
  have e : [Value.int .u8 ((y : Int) % 256)] ++ bv (dg x k) = bv (dg x (k + 1)) := by
    subst hy
    simp [bv, dg]
  rw [e, show 1 + (k + 1) = k + 1 + 1 from by omega] at hown
  have hb := (h.2.1.alloc h.2.2 o).grown hg (by simp; have := h.2.2; omega) (fun q hq => by injection hq with hq; have := h.2.2; omega)
  exact ⟨hown, hb, Nat.le_trans h.2.2 (Nat.le_trans (by simp) hg.size)⟩

theorem exit_lemma {x k y : Nat} (hy : y = x / 256 ^ (k + 1)) (h0 : y = 0) : x < 256 ^ (k + 1) := by
  subst hy
  exact (Nat.div_eq_zero_iff_lt (Nat.pow_pos (by decide))).1 h0
theorem step_lemma {x k y : Nat} (hy : y = x / 256 ^ (k + 1)) (h0 : 0 < y) (hx : x < 18446744073709551616) : k + 1 ≤ 7 ∧ 256 ^ (k + 1) ≤ x := by
  have h1 : 256 ^ (k + 1) ≤ x := by
    rcases Nat.lt_or_ge x (256 ^ (k + 1)) with h | h
    · rw [Nat.div_eq_of_lt h] at hy; omega
    · exact h
  refine ⟨?_, h1⟩
  rcases Nat.lt_or_ge 7 (k + 1) with h | h
  · have : 256 ^ 8 ≤ 256 ^ (k + 1) := Nat.pow_le_pow_right (by decide) h
    have e : (256 : Nat) ^ 8 = 18446744073709551616 := by decide
    omega
  · exact h
theorem next_lemma {x k y : Nat} (hy : y = x / 256 ^ (k + 1)) : y / 256 = x / 256 ^ (k + 1 + 1) := by
  rw [hy, Nat.div_div_eq_div_mul, ← Nat.pow_succ]

def LRel (base : Nat) (w : World) (x : Nat) (v0 v3 : Value) (wr : World) : Prop :=
  ∃ k y, v0 = .int .u64 ((y : Nat) : Int) ∧ y = x / 256 ^ (k + 1) ∧ k ≤ 7 ∧ (k = 0 ∨ 256 ^ k ≤ x) ∧ SRel base w x v3 k wr

set_option maxRecDepth 100000 in
set_option maxHeartbeats 1000000 in
theorem specLeft_any (x : Nat) (w : World) (h : x < 18446744073709551616) :
    Calls Try.prog 7 #[.int .u64 x] w fun e w' => ∃ v k, e = .returned v ∧ w'.ownsRow w.heap.size 5 1 v (k + 2) (bv ((k + 1) :: dg x k)) ∧ Below w.heap.size w w' ∧ k ≤ 7 ∧ x < 256 ^ (k + 1) ∧ (k = 0 ∨ 256 ^ k ≤ x) := by
  obtain ⟨i0, hi0, hz0, hz1, hz2⟩ := info_parts info5
  go_enter Try.func7, Try.ntmps7
  go_wp2
  go_loopw [0, 3] (fun v0 v3 wr => LRel w.heap.size w x v0 v3 wr) (fun v0 _ _ => (intOf v0).toNat)
  case atStart => exact ⟨0, x / 256, by simp, by simp, by omega, .inl rfl, srel_start w x⟩
  case round =>
    obtain ⟨k, y, rfl, hy, hk, hkx, hs⟩ := hrel
    obtain ⟨g, cap, rfl⟩ := srel_form hs
    by_cases h0 : y = 0
    · subst h0
      have HX := Lib.hid (exit_lemma hy rfl)
      have HS := Lib.hid hs
      have HK := Lib.hid hkx
      clear hy hs hkx
      have hbase : w.heap.size ≤ wr.heap.size := HS.out.2.2
      go_wp2_with (at_builtin; refine wpList_append_own _ rfl _ _ 23 rfl w.heap.size 5 i0 (.int .u8 0) 1 1 Try.underlying23 hi0 hz0 hz1 hz2 rfl (by decide) (.slice (some ⟨wr.heap.size, 0, none⟩) 1 1) 1 [.int .u8 ((k : Int) + 1)] rfl (owns_one wr w.heap.size _ hbase) ⟨g, 0, none⟩ (k + 1) cap (bv (dg x k)) rfl (by rw [bv_length, dg_length]; simp) (srel_cells HS.out _) (bv_one _) (by simp only [maxLen]; omega) (by omega) (by simp; omega) ?_; intro v' w1 hown1 hg1 _)
      go_ret
      have hb := (HS.out.2.1.alloc HS.out.2.2 (.cells #[.int .u8 ((k : Int) + 1)] 5)).grown hg1 (by simp; omega) (fun q hq => by simp [Value.ownBlock] at hq; omega)
      refine ⟨v', k, rfl, ?_, hb, hk, HX.out, HK.out⟩
      rw [show k + 2 = 1 + (k + 1) from by omega]
      simpa [bv] using hown1
    · have hpos : (0 : Int) < (y : Int) := by omega
      have HY := Lib.hid hy
      have HS := Lib.hid hs
      clear hy hs
      have hbase : w.heap.size ≤ wr.heap.size := HS.out.2.2
      go_wp2_with (at_builtin; refine wpList_append_own _ rfl _ _ 23 rfl w.heap.size 5 i0 (.int .u8 0) 1 1 Try.underlying23 hi0 hz0 hz1 hz2 rfl (by decide) (.slice (some ⟨wr.heap.size, 0, none⟩) 1 1) 1 [.int .u8 ((y : Int) % 256)] rfl (owns_one wr w.heap.size _ hbase) ⟨g, 0, none⟩ (k + 1) cap (bv (dg x k)) rfl (by rw [bv_length, dg_length]; simp) (srel_cells HS.out _) (bv_one _) (by simp only [maxLen]; omega) (by omega) (by simp; omega) ?_; intro v' w1 hown1 hg1 _)
      go_roundw
      case rel =>
        have st := step_lemma HY.out (by omega) h
        exact ⟨k + 1, y / 256, by simp, next_lemma HY.out, st.1, .inr st.2, srel_step HS.out HY.out _ hown1 hg1⟩
      case measure => simp [intOf]; omega
end Go.Proofs.Ytnlmgpnhebohfaa
