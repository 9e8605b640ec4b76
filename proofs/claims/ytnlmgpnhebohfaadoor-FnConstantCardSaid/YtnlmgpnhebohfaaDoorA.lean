/-
  spec.bit: the bit of the shift register at a turn below 255. Conditions: the turn is from 0 to 254.
-/
import Derived.Test.YtnlmgpnhebohfaaDoorRows
import Derived.WalkKit
import Derived.ProofKit
import Derived.OpenShut
import Derived.BigQuiet
import Derived.Deep.QuietTactic
import Derived.WalkSpells
import Derived.LoopN
import Derived.Maps.AppendAt
import Derived.Deep.AppendLies
import Derived.OwnWalk
import Derived.Lib.Hide
import Derived.BigRegion
import Derived.WalkSmall
namespace Go.Proofs.YtnlmgpnhebohfaaDoor
open Go.ChangeShapes Go.WideShapes Go.ChangeAt Go.RowKit

/-- A bit as a number. -/
def vb (b : Bool) : Int := if b then 1 else 0
def bl (l : List Bool) : List Value := l.map fun b => Value.int .i64 (vb b)
def stepR : List Bool → List Bool
  | [r0, r1, r2, r3, r4, r5, r6, r7] => [r7, r0, r1, r2, r3 ^^ r7, r4 ^^ r7, r5 ^^ r7, r6]
  | l => l
/-- The register behind so many turns. -/
def R : Nat → List Bool
  | 0 => [true, false, false, false, false, false, false, false]
  | k + 1 => stepR (R k)
theorem R_eight : ∀ k, ∃ r0 r1 r2 r3 r4 r5 r6 r7, R k = [r0, r1, r2, r3, r4, r5, r6, r7]
  | 0 => ⟨_, _, _, _, _, _, _, _, rfl⟩
  | k + 1 => by
    obtain ⟨r0, r1, r2, r3, r4, r5, r6, r7, h⟩ := R_eight k
    exact ⟨_, _, _, _, _, _, _, _, by rw [R, h]; rfl⟩
theorem xor_bits (a b : Bool) : bits .xor .i64 (vb a) (vb b) = vb (a ^^ b) := by
  cases a <;> cases b <;> decide
theorem xor_zero (b : Bool) : bits .xor .i64 0 (vb b) = vb b := by
  cases b <;> decide
theorem bl_one (l : List Bool) : ∀ u ∈ bl l, u.oneCell' = true := by
  intro u hu
  obtain ⟨n, _, rfl⟩ := List.mem_map.1 hu
  rfl
theorem info3 : (Tryd.prog.info? 3).map (fun i => (i.zero, i.size, i.bytes)) = some (some (.int .i64 0), 1, 8) := by kernel_rfl

def SRel (base : Nat) (w : World) (v : Value) (l : List Bool) (wr : World) : Prop :=
  wr.ownsRow base 3 1 v 8 (bl l) ∧ Below base w wr ∧ base ≤ wr.heap.size

theorem owns_one (w : World) (base : Nat) (u : Value) (hb : base ≤ w.heap.size) : (w.alloc (.cells #[u] 3)).ownsRow base 3 1 (.slice (some ⟨w.heap.size, 0, none⟩) 1 1) 1 [u] :=
  ⟨by simp, .inr ⟨w.heap.size, 1, #[u], rfl, hb, heap_alloc_new w _, Nat.le_refl _, by decide, by simp, by simp⟩⟩

theorem row_of {w : World} {base n g cap : Nat} {xs : List Value} (h : w.ownsRow base 3 1 (.slice (some ⟨g, 0, none⟩) n cap) n xs) :
    ∃ cur, w.heap[g]? = some (.cells cur 3 (0, 0)) ∧ n ≤ cap ∧ cap ≤ maxLen ∧ cur.size = cap ∧ cur.toList.take n = xs := by
  rcases h.2 with ⟨h0, _⟩ | ⟨g', cap', cur, hv, _, hh, h1, h2, h3, h4⟩
  · cases h0
  · injection hv with e1 _ e2
    injection e1 with e1
    injection e1 with e1
    subst e1; subst e2
    exact ⟨cur, hh, h1, h2, by simpa using h3, by simpa using h4⟩

theorem vb_nn (b : Bool) : 0 ≤ vb b := by cases b <;> decide
theorem vb_le (b : Bool) : vb b ≤ 1 := by cases b <;> decide
theorem R_step {k : Nat} {r0 r1 r2 r3 r4 r5 r6 r7 : Bool} (h : R k = [r0, r1, r2, r3, r4, r5, r6, r7]) : R (k + 1) = [r7, r0, r1, r2, r3 ^^ r7, r4 ^^ r7, r5 ^^ r7, r6] := by
  rw [R, h]; rfl

theorem srel_step {w wr w1 : World} {g g' cap cap' : Nat} {r0 r1 r2 r3 r4 r5 r6 r7 : Bool} (h : SRel w.heap.size w (.slice (some ⟨g, 0, none⟩) 8 cap) [r0, r1, r2, r3, r4, r5, r6, r7] wr)
    (hg : (wr.alloc (.cells #[.int .i64 0] 3)).grownBy w1 (Value.slice (some ⟨wr.heap.size, 0, none⟩) 1 1).ownBlock)
    (ho : w1.ownsRow w.heap.size 3 1 (.slice (some ⟨g', 0, none⟩) (1 + 8) cap') (1 + 8) ([.int .i64 0] ++ bl [r0, r1, r2, r3, r4, r5, r6, r7])) :
    SRel w.heap.size w (.slice (some ⟨g', 0, none⟩) 8 cap') [r7, r0, r1, r2, r3 ^^ r7, r4 ^^ r7, r5 ^^ r7, r6]
      ((((w1.setCell ⟨g', 0, none⟩ (.int .i64 (vb r7))).setCell ⟨g', 4, none⟩ (.int .i64 (vb (r3 ^^ r7)))).setCell ⟨g', 5, none⟩ (.int .i64 (vb (r4 ^^ r7)))).setCell ⟨g', 6, none⟩ (.int .i64 (vb (r5 ^^ r7)))).drew.drew.drew.drew := by
  have hbase := h.2.2
  obtain ⟨_, _, hv, hge, _⟩ := ho.form (by omega)
  injection hv with e1 _ _
  injection e1 with e1
  injection e1 with e1
  subst e1
  have s0 := (ho.stored 0 (.int .i64 (vb r7))).1
  have s1 := (s0.stored 4 (.int .i64 (vb (r3 ^^ r7)))).1
  have s2 := (s1.stored 5 (.int .i64 (vb (r4 ^^ r7)))).1
  have s3 := (s2.stored 6 (.int .i64 (vb (r5 ^^ r7)))).1
  have s4 := ownsRow_pop (size := 1) (n := 8) (xs := bl [r7, r0, r1, r2, r3 ^^ r7, r4 ^^ r7, r5 ^^ r7, r6]) (last := [.int .i64 (vb r7)]) (by simp [bl]) (by simpa [bl] using s3)
  have hb : Below w.heap.size w w1 := (h.2.1.alloc hbase _).grown hg (by simp; omega) (fun q hq => by simp [Value.ownBlock] at hq; omega)
  have hb4 := ((((hb.setCell (p := ⟨g', 0, none⟩) hge (.int .i64 (vb r7))).setCell (p := ⟨g', 4, none⟩) hge (.int .i64 (vb (r3 ^^ r7)))).setCell (p := ⟨g', 5, none⟩) hge (.int .i64 (vb (r4 ^^ r7)))).setCell (p := ⟨g', 6, none⟩) hge (.int .i64 (vb (r5 ^^ r7)))).drew.drew.drew.drew
  exact ⟨s4, hb4, hb4.size⟩

set_option maxRecDepth 100000 in
set_option maxHeartbeats 2000000 in
theorem bit_any (t : Nat) (w : World) (h : t < 255) :
    Calls Tryd.prog 7 #[.int .i64 t] w fun e w' => e = .returned (.int .u64 (vb ((R t).getD 0 false))) ∧ Below w.heap.size w w' := by
  obtain ⟨i0, hi0, hz0, hz1, hz2⟩ := info_parts info3
  have hm : (t : Int) % 255 = t := by omega
  go_enter Tryd.func7, Tryd.ntmps7
  go_wp2
  go_loopw [3, 7] (fun v3 v7 wr => ∃ k : Nat, ∃ r0 r1 r2 r3 r4 r5 r6 r7 : Bool, k ≤ t ∧ v7 = .int .i64 (k : Int) ∧ Hid (R k = [r0, r1, r2, r3, r4, r5, r6, r7]) ∧ SRel w.heap.size w v3 [r0, r1, r2, r3, r4, r5, r6, r7] wr) (fun _ v7 _ => t - (intOf v7).toNat)
  case atStart =>
    refine ⟨0, _, _, _, _, _, _, _, _, Nat.zero_le _, rfl, rfl, ?_, (Below.refl _ _).alloc (Nat.le_refl _) _, by simp⟩
    exact ⟨by simp [bl], .inr ⟨w.heap.size, 8, _, rfl, Nat.le_refl _, heap_alloc_new w _, Nat.le_refl _, by decide, by simp, by simp [bl, vb]⟩⟩
  case round =>
    obtain ⟨k, r0, r1, r2, r3, r4, r5, r6, r7, hk, rfl, HR, hs⟩ := hrel
    obtain ⟨g, cap, rfl, hg0, hg1⟩ := hs.1.form (by omega)
    by_cases hlt : k < t
    · have HS := Lib.hid hs
      clear hs
      have hbase : w.heap.size ≤ wr.heap.size := HS.out.2.2
      clear hm
      go_wp2_with (at_builtin; refine wpList_append_own _ rfl _ _ 27 rfl w.heap.size 3 i0 (.int .i64 0) 1 8 Tryd.underlying27 hi0 hz0 hz1 hz2 rfl (by decide) (.slice (some ⟨wr.heap.size, 0, none⟩) 1 1) 1 [.int .i64 0] rfl (owns_one wr w.heap.size _ hbase) ⟨g, 0, none⟩ 8 cap (bl [r0, r1, r2, r3, r4, r5, r6, r7]) rfl (by simp [bl]) ((HS.out.1.alloc _).cells rfl) (bl_one _) (by simp only [maxLen]; omega) (by omega) (by simp; omega) ?_; intro v' w1 hown1 hgr1 _; obtain ⟨g', cap', hv', hge, hglt⟩ := hown1.form (by omega); rw [hv'])
      rw [hv'] at hown1
      obtain ⟨cur, hcur, hcap, hcapm, hsz, htake⟩ := row_of hown1
      have c0 : w1.cell? ⟨g', 0, none⟩ = some (.int .i64 0) := hown1.cells (g := g') rfl 0 _ rfl
      have c4 : w1.cell? ⟨g', 4, none⟩ = some (.int .i64 (vb r3)) := hown1.cells (g := g') rfl 4 _ rfl
      have c5 : w1.cell? ⟨g', 5, none⟩ = some (.int .i64 (vb r4)) := hown1.cells (g := g') rfl 5 _ rfl
      have c6 : w1.cell? ⟨g', 6, none⟩ = some (.int .i64 (vb r5)) := hown1.cells (g := g') rfl 6 _ rfl
      have c8 : w1.cell? ⟨g', 8, none⟩ = some (.int .i64 (vb r7)) := hown1.cells (g := g') rfl 8 _ rfl
      have f0 : w1.frozen? ⟨g', 0, none⟩ = false := by simp [World.frozen?, hcur]
      have f4 : w1.frozen? ⟨g', 4, none⟩ = false := by simp [World.frozen?, hcur]
      have f5 : w1.frozen? ⟨g', 5, none⟩ = false := by simp [World.frozen?, hcur]
      have f6 : w1.frozen? ⟨g', 6, none⟩ = false := by simp [World.frozen?, hcur]
      have hx := xor_bits
      have hx0 := xor_zero
      have HOWN := Lib.hid hown1
      have HCUR := Lib.hid hcur
      have HTAKE := Lib.hid htake
      have HSZ := Lib.hid hsz
      have HGR := Lib.hid hgr1
      clear hown1 hcur htake hsz hgr1 hv'
      go_region
      go_wp2
      go_region
      go_wp2
      go_region
      go_wp2
      go_region
      go_wp2
      go_roundw
      case rel =>
        exact ⟨k + 1, r7, r0, r1, r2, r3 ^^ r7, r4 ^^ r7, r5 ^^ r7, r6, by omega, by go_num, R_step HR.out, srel_step HS.out HGR.out HOWN.out⟩
      case measure => simp [intOf]; omega
    · have hkt : k = t := by omega
      subst hkt
      have c0 : wr.cell? ⟨g, 0, none⟩ = some (.int .i64 (vb r0)) := hs.1.cells (g := g) rfl 0 _ rfl
      have b0 := vb_nn r0
      have b1 := vb_le r0
      have HR0 : Hid ((R k).getD 0 false = r0) := by rw [HR.out]; rfl
      have HB := Lib.hid hs.2.1
      clear hs
      go_wp2
      go_ret
      exact ⟨by rw [HR0.out]; rfl, HB.out⟩

end Go.Proofs.YtnlmgpnhebohfaaDoor
