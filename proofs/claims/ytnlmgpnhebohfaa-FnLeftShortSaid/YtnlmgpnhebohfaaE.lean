/-
  impl.Left and spec.Left give the same bytes; laws.FnLeft answers true. Conditions: none (the number is a uint64).
-/
import Derived.Test.YtnlmgpnhebohfaaD
import Derived.Deep.RegionWith
import Derived.Deep.DrawnRows
import Derived.Laws.BytesArg
namespace Go.Proofs.Ytnlmgpnhebohfaa
open Go.ChangeShapes Go.WideShapes Go.ChangeAt Go.RowKit

theorem nb_eq (x k : Nat) (hx : x < 18446744073709551616) (h1 : x < 256 ^ (k + 1)) (h2 : k = 0 ∨ 256 ^ k ≤ x) : nb x = k + 1 := by
  unfold nb
  by_cases h0 : x = 0
  · subst h0
    rw [if_pos rfl]
    rcases h2 with h | h
    · omega
    · have := Nat.pow_pos (n := k) (show 0 < 256 by decide)
      omega
  · rw [if_neg h0]
    obtain ⟨b1, b2, b3⟩ := Lib.bitLenAux_bounds 64 x (by simpa using hx) h0
    have e : Lib.bitLen x = Lib.bitLenAux 64 x := rfl
    rw [e]
    generalize Lib.bitLenAux 64 x = b at *
    rw [show (256 : Nat) = 2 ^ 8 from rfl, ← Nat.pow_mul] at h1 h2
    have l1 : b - 1 < 8 * (k + 1) := (Nat.pow_lt_pow_iff_right (by decide : 1 < 2)).1 (Nat.lt_of_le_of_lt b2 h1)
    rcases h2 with rfl | h2
    · omega
    · have l2 : 8 * k < b := (Nat.pow_lt_pow_iff_right (by decide : 1 < 2)).1 (Nat.lt_of_le_of_lt h2 b3)
      omega

/-- The bytes that tell a number. -/
def LX (x : Nat) : List Nat := nb x :: dg x (nb x - 1)
def S (x : Nat) : ByteArray := strOfNums ((LX x).map fun (n : Nat) => (n : Int))

theorem lcells_at (x k i : Nat) (hx : x < 18446744073709551616) (hk : k ≤ 7) (hi : i < k + 2) : (lcells (k + 1) x)[8 - (k + 1) + i]? = some (.int .u8 ((((k + 1) :: dg x k).getD i 0 : Nat) : Int)) := by
  have e7 : (x : Int) / 72057594037927936 = (x : Int) / 72057594037927936 % 256 := by omega
  rcases (by omega : k = 0 ∨ k = 1 ∨ k = 2 ∨ k = 3 ∨ k = 4 ∨ k = 5 ∨ k = 6 ∨ k = 7) with rfl | rfl | rfl | rfl | rfl | rfl | rfl | rfl
  all_goals
    unfold lcells nine
    rw [e7]
    match i, hi with
    | 0, _ => simp
    | 1, hj => first | (exfalso; omega) | simp [dg]
    | 2, hj => first | (exfalso; omega) | simp [dg]
    | 3, hj => first | (exfalso; omega) | simp [dg]
    | 4, hj => first | (exfalso; omega) | simp [dg]
    | 5, hj => first | (exfalso; omega) | simp [dg]
    | 6, hj => first | (exfalso; omega) | simp [dg]
    | 7, hj => first | (exfalso; omega) | simp [dg]
    | 8, hj => first | (exfalso; omega) | simp [dg]

set_option maxRecDepth 100000 in
set_option maxHeartbeats 400000 in
theorem zzLeft_any (x : Nat) (w : World) (h : x < 18446744073709551616) :
    Calls Try.prog 10 #[.int .u64 x] w fun e w' => e = .returned (.slice (some ⟨w.heap.size, 8 - nb x, none⟩) (nb x + 1) (nb x + 1)) ∧ w' = w.alloc (.cells (lcells (nb x) x) 5) := by
  go_enter Try.func10, Try.ntmps10
  go_wp2_with (go_at_call 14; refine (leftEncode_any x _ h).mono ?_; rintro e w' ⟨rfl, rfl⟩)
  go_ret
  exact ⟨rfl, rfl⟩
set_option maxRecDepth 100000 in
set_option maxHeartbeats 400000 in
theorem implLeft_any (x : Nat) (w : World) (h : x < 18446744073709551616) :
    Calls Try.prog 6 #[.int .u64 x] w fun e w' => e = .returned (.slice (some ⟨w.heap.size, 8 - nb x, none⟩) (nb x + 1) (nb x + 1)) ∧ w' = w.alloc (.cells (lcells (nb x) x) 5) := by
  go_enter Try.func6, Try.ntmps6
  go_wp2_with (go_at_call 10; refine (zzLeft_any x _ h).mono ?_; rintro e w' ⟨rfl, rfl⟩)
  go_ret
  exact ⟨rfl, rfl⟩

/-- A slice value that reads as a string, now and behind whatever makes new memory alone. -/
def Str (v : Value) (w : World) (s : ByteArray) : Prop := ∀ w2, Below w.heap.size w w2 → (convert 23 9 v).run Try.prog w2 = .ok (.string s) w2
theorem Str.now {v : Value} {w : World} {s : ByteArray} (h : Str v w s) : (convert 23 9 v).run Try.prog w = .ok (.string s) w := h w (Below.refl _ _)
theorem Str.later {v : Value} {w w2 : World} {s : ByteArray} (h : Str v w s) (hb : Below w.heap.size w w2) : Str v w2 s := fun w3 hb3 => h w3 (hb.trans (hb3.mono hb.size))

theorem mapInt_getD (l : List Nat) (i : Nat) : (l.map fun (n : Nat) => (n : Int)).getD i 0 = ((l.getD i 0 : Nat) : Int) := by
  simp only [List.getD_eq_getElem?_getD, List.getElem?_map]
  cases l[i]? <;> rfl

theorem implLeft_str (x : Nat) (w : World) (h : x < 18446744073709551616) :
    Calls Try.prog 6 #[.int .u64 x] w fun e w' => ∃ v, e = .returned v ∧ Str v w' (S x) ∧ Below w.heap.size w w' := by
  refine (implLeft_any x w h).mono ?_
  rintro e w' ⟨rfl, rfl⟩
  refine ⟨_, rfl, fun w2 hb => ?_, (Below.refl _ _).alloc (Nat.le_refl _) _⟩
  have hbd := nb_bd x h
  obtain ⟨k, hk⟩ : ∃ k, nb x = k + 1 := ⟨nb x - 1, by omega⟩
  refine run_convert_bytes_arg w2 23 5 Try.underlying23 Try.underlying5 w.heap.size (8 - nb x) (nb x + 1) (nb x + 1) ((LX x).map fun (n : Nat) => (n : Int)) ?_ ?_ 9 Try.underlying9
  · simp [LX, dg_length]; omega
  · intro i hi
    rw [mapInt_getD, hb.cell (p := ⟨w.heap.size, 8 - nb x + i, none⟩) (by simp), World.cell?_alloc_new]
    unfold LX
    rw [hk] at hi ⊢
    exact lcells_at x k i h (by omega) (by omega)

theorem specLeft_str (x : Nat) (w : World) (h : x < 18446744073709551616) :
    Calls Try.prog 7 #[.int .u64 x] w fun e w' => ∃ v, e = .returned v ∧ Str v w' (S x) ∧ Below w.heap.size w w' := by
  refine (specLeft_any x w h).mono ?_
  rintro e w' ⟨v, k, rfl, hown, hb, hk, h1, h2⟩
  refine ⟨_, rfl, fun w2 hb2 => ?_, hb⟩
  have hn := nb_eq x k h h1 h2
  obtain ⟨g, cap, rfl, hg1, hg2⟩ := hown.form (by omega)
  refine run_convert_bytes_arg w2 23 5 Try.underlying23 Try.underlying5 g 0 (k + 2) cap ((LX x).map fun (n : Nat) => (n : Int)) ?_ ?_ 9 Try.underlying9
  · simp [LX, dg_length, hn]
  · intro i hi
    rw [mapInt_getD, Nat.zero_add, hb2.cell (p := ⟨g, i, none⟩) hg2]
    have hc := hown.cells (g := g) rfl i (.int .u8 ((LX x).getD i 0 : Nat)) (by
      have hl : i < ((k + 1) :: dg x k).length := by simp [dg_length]; omega
      unfold LX bv
      rw [hn, Nat.add_sub_cancel, List.getElem?_map, List.getElem?_eq_getElem hl, List.getD_eq_getElem?_getD, List.getElem?_eq_getElem hl]
      rfl)
    have hadd : (⟨g, 0, none⟩ : Addr).add i = ⟨g, i, none⟩ := by unfold Addr.add; split <;> simp_all
    rwa [hadd] at hc

theorem below_of_drew {B : Nat} {w w1 : World} (h : Below B w.drew w1) : Below B w w1 := ⟨h.os, h.tape, h.output, h.size, h.block⟩

set_option maxRecDepth 100000 in
set_option maxHeartbeats 1000000 in
theorem fnLeft_any (x : Nat) (w : World) (h : x < 18446744073709551616) :
    Calls Try.prog 3 #[.int .u64 x] w fun e w' => e = .returned (.bool true) ∧ Below w.heap.size w w' := by
  go_enter Try.func3, Try.ntmps3
  go_wp2
  go_region_with (first
    | (go_at_call 6; refine (implLeft_str x _ h).mono ?_; rintro e w1 ⟨v1, rfl, hs1, hb1⟩; have n1 := hs1.now; try have m1 := (hs2.later hb1).now)
    | (go_at_call 7; refine (specLeft_str x _ h).mono ?_; rintro e w2 ⟨v2, rfl, hs2, hb2⟩; have n2 := hs2.now; try have m2 := (hs1.later hb2).now))
  all_goals
    go_wp2
    go_ret
    exact ⟨rfl, (below_of_drew hb1).trans (hb2.mono hb1.size)⟩

section
open Go.RowKit Go.WideShapes Go.ChangeShapes
variable {H : Type} {enc : TypeId × Value → H} {P : Program}
/-- The row's last step where the call leaves new memory alone (the guide's small lemma, turned to this claim). -/
theorem post_of_below {f : Func} {s : ChangeSpec} {apart fresh handsOn again : Bool} {W W' : World} {args : Array Value} {v : Value} {ds gs : List (DataW H)} {before pa pv : List MemPlace}
    (hW : DataW.Whole enc P f.params.toList s.vars apart W args.toList ds gs before)
    (hres : ∀ (b : Nat) (sp : Nat → Bool) (hd : Bool), DataW.TrodAll enc P W' b sp hd f.resultTypes.toList (v.resultList f.resultTypes.size) (s.fn H (ds ++ gs)).results [])
    (hargs : ∀ sp : Nat → Bool, (∀ p ∈ before, sp p.block = true) → DataW.TrodAll enc P W' 0 sp true f.params.toList args.toList (s.fn H (ds ++ gs)).args pa)
    (hvars : ∀ sp : Nat → Bool, (∀ p ∈ before, sp p.block = true) → DataW.TrodVars enc P W' sp s.vars (s.fn H (ds ++ gs)).vars pv)
    (hps : before = pa ++ pv) (hb : Below W.heap.size W W')
    (hok : ∀ (j : Nat) (t : TypeId) (r : Value), f.resultTypes[j]? = some t → (v.resultList f.resultTypes.size)[j]? = some r → Value.okWide P W' .any 0 t r) :
    s.post enc P f apart fresh handsOn again W args v W' := by
  have hlt : ∀ p ∈ before, p.block < W.heap.size := fun p hp => hW.lt p hp
  have hold : ∀ p ∈ before, (fun b => decide (b < W.heap.size)) p.block = true := fun p hp => by simpa using hlt p hp
  refine ⟨ds, gs, before, [], pa, pv, hW, hres _ _ _, hargs _ hold, hvars _ hold, World.keptBut_mono (fun p hp => ⟨hp, ?_⟩) (hb.frame (· ∈ before)), fun _ => ?_⟩
  · rw [hps, List.mem_append] at hp
    exact Or.inr hp
  · obtain ⟨_, _, _, _, _, hz, hn⟩ := hW
    refine ⟨hok, _, _, ([] ++ pa) ++ pv, ⟨[] ++ pa, pv, trodAll_append (hargs _ (fun _ _ => rfl)) (hres _ _ _), hvars _ (fun _ _ => rfl), rfl, ?_, ?_⟩, ?_⟩
    · intro b off hp
      have hin : MemPlace.cell b off ∈ before := by rw [hps]; simpa using hp
      rw [hb.frozen (hlt _ hin)]
      exact hz b off hin
    · intro ha
      have := hn ha
      rw [hps] at this
      simpa using this
    · intro p hp _
      rw [hps]
      simpa using hp
end
end Go.Proofs.Ytnlmgpnhebohfaa
