/-
  THE CARD of laws.FnConstant: it answers true at every number. The one listed variable is tied to the program's text. No condition beyond the given row's own.
-/
import Derived.Test.YtnlmgpnhebohfaaDoorCards
import Derived.Test.YtnlmgpnhebohfaaDoorTie
import Derived.Test.YtnlmgpnhebohfaaDoorC
import Derived.OpenShut
import Derived.OpenVars
import Derived.Deep.DeepHandedRow
import Derived.Lib.LaidTab
namespace Go.Proofs.YtnlmgpnhebohfaaDoor.fnConstant
open Go.ChangeShapes Go.WideShapes Go.ChangeAt Go.RowKit

theorem own : ownKnob Tryd.prog.godebug = none := by kernel_rfl
/-- The listed variable, by the given row. -/
def rcName : String := Rows.fnConstantSpec.vars.headD Rows.fnConstantRow.func
theorem gTab : Tryd.prog.globalNamed rcName = some 0 := by kernel_rfl
theorem gTabType : (Tryd.prog.globals[0]?).map (·.type) = some 26 := by kernel_rfl
theorem cells26 : Tryd.prog.cellsOf 26 = 24 := by kernel_rfl
theorem cells22 : Tryd.prog.cellsOf 22 = 1 := by kernel_rfl
theorem laidOut : laidOutB Tryd.prog = true := by kernel_rfl
theorem rowed : varsRowed Tryd.prog Rows.fnConstantSpec.vars = true := by kernel_rfl

/-- What the row's list gives: the table's cells hold its numbers. -/
theorem table {W : World} (h : laidMetH Tryd.prog Rows.fnConstantRow.laid W) : Lib.TabIs Tryd.prog W rcName .u64 rcs :=
  Lib.tabIs_of_head (rest := []) gTab gTabType Tryd.underlying26 Tryd.underlying22 cells22 cells26 h

theorem walk (a : Int) (wf : (Lit.int .u8 a).wf = true) (W : World) (hT : Lib.TabIs Tryd.prog W rcName .u64 rcs) :
    Calls Tryd.prog 3 #[.int .u8 a] W fun e w' => e = .returned (.bool true) ∧ Below W.heap.size W w' := by
  have hb := bounds_u8 wf
  by_cases h : 23 < a
  · exact fnConstant_out a W h
  · obtain ⟨r, rfl⟩ := Int.eq_ofNat_of_zero_le hb.1
    have hr : r < 24 := by omega
    refine fnConstant_in r W hr ?_
    rw [cv_all r hr]
    exact hT.cell gTab r hr

/-- What the walk gives, for every argument and every world that holds the table: the same for both forms. -/
theorem contract (H : Type) (enc : TypeId × Value → H) (W : World) (base : Nat) (args : Array Value) (ds gs : List (DataW H)) (before : List MemPlace)
    (hval : ∀ (j : Nat) t v, Tryd.f3.params[j]? = some t → args[j]? = some v → Value.okWide Tryd.prog W .any base t v)
    (hW : DataW.Whole enc Tryd.prog Tryd.f3.params.toList Rows.fnConstantSpec.vars false W args.toList ds gs before) (hL : laidMetH Tryd.prog Rows.fnConstantRow.laid W) :
    Calls Tryd.prog 3 args W fun e W' => ∃ v, e = .returned v ∧ Rows.fnConstantSpec.post enc Tryd.prog Tryd.f3 false true false false W args v W' := by
  have hW' := hW
  obtain ⟨p, q, hA0, hV, rfl, hfz, hnd⟩ := hW
  have hA : DataW.TrodAll enc Tryd.prog W 0 (fun _ => true) true Tryd.f3.params.toList args.toList ds p := hA0
  rw [Tryd.params3] at hA hval
  obtain ⟨v0, vs0, d0, ds0, p0, q0, hargs, rfl, rfl, h0, r0⟩ := trodAll_cons hA
  obtain ⟨rfl, rfl, rfl⟩ := trodAll_nil r0
  obtain rfl : args = #[v0] := by cases args; simp_all
  obtain ⟨a, rfl, rfl, rfl, wa⟩ := open_int Tryd.underlying5 (hval 0 5 v0 rfl rfl) h0
  obtain ⟨g1, rfl⟩ : ∃ g1, gs = [g1] := by
    obtain ⟨_, _, _, _, d, _, hd, _⟩ := trodVars_one hV
    exact ⟨d, hd⟩
  clear hA0
  simp only [List.append_nil, List.nil_append] at hW'
  refine (walk a wa W (table hL)).mono fun e W' ⟨he, hg⟩ => ?_
  subst he
  have e1 : Rows.fnConstantSpec.fn H ([.lit (.int .u8 a)] ++ [g1]) = { results := [.lit (.bool true)], args := [.lit (.int .u8 a)], vars := [g1] } := rfl
  refine ⟨_, rfl, _, _, _, [], [], q, hW', ?_, ?_, ?_, ?_, fun h => by cases h⟩
  · rw [e1]; exact trodAll_cons_mk (shut_bool Tryd.underlying4 _) trodAll_mk0
  · rw [e1]; exact trodAll_cons_mk (shut_int Tryd.underlying5 wa) trodAll_mk0
  · rw [e1]; exact Below.trodVars laidOut hg rowed hV
  · exact hg.frame _

/-- A world for the witness: the settled one, the table (block 0) holding what its initialiser lays. -/
noncomputable def laidWorld (os : Os) : World :=
  { World.holding Tryd.prog os ⟨#[], #[], []⟩ with heap := (World.holding Tryd.prog os ⟨#[], #[], []⟩).heap.modify 0 fun
      | .cells _ t frozen => .cells (rcs.map fun z => Value.int .u64 z).toArray t frozen
      | o => o }
theorem laid_met (os : Os) : laidMet Tryd.prog Rows.fnConstantRow.laid ((laidWorld os).forCall (fun _ _ => 0) ⟨#[], #[.int .u8 0], []⟩).memory :=
  laidMet_of_run' 8 (by kernel_rfl) (by kernel_rfl)
theorem reads (os : Os) {H : Type} (enc : TypeId × Value → H) : ∃ places, DataW.whole enc Tryd.prog ((laidWorld os).forCall (fun _ _ => 0) ⟨#[], #[.int .u8 0], []⟩).memory Tryd.f3.params.toList Rows.fnConstantSpec.vars false #[Value.int .u8 0].toList 8 = some ([.lit (.int .u8 0)], [Rows.laid_loop_example_pub_g03425_pub_sha3_rc], places) :=
  ⟨MemPlace.row ⟨0, 0, none⟩ 24, by kernel_rfl⟩

set_option maxRecDepth 100000 in
theorem lifted (os : Os) (started : os.Started) (H : Type) (enc : TypeId × Value → H) (F : Stop.Interp) :
    ReturnsInHanded {} Tryd.checked os 3 .any ((OpenSpec.ofChange Rows.fnConstantSpec).preRow enc Tryd.prog Tryd.f3 Rows.fnConstantRow.domain false Rows.fnConstantRow.laid) (((OpenSpec.ofChange Rows.fnConstantSpec).at F).post enc Tryd.prog Tryd.f3 false true false false) := by
  obtain ⟨places, hx⟩ := reads os enc
  refine returnsInHanded_of_row (C := Tryd.checked) (s := OpenSpec.ofChange Rows.fnConstantSpec) own started (by kernel_rfl) Tryd.func3
    (witness_row_at (enc := enc) (C := Tryd.checked) false (laidWorld os) #[.int .u8 0] rfl (by kernel_rfl) (by kernel_rfl) (by kernel_rfl)
      (OpenSpec.preRow_of_cond 8 hx (by kernel_rfl) (fun k hk => by cases hk) (by kernel_rfl) (laid_met os))) ?_
  intro W base args ds gs before hval hW _ _ _ hL _ _
  exact contract H enc W base args ds gs before hval hW hL

theorem said : Rows.FnConstantSaid :=
  OpenClaim.holds_of_cond 3 Tryd.f3 rfl rfl rfl rfl rfl rfl rfl ⟨rfl, rfl, rfl, rfl, rfl⟩ rfl rfl rfl rfl rfl (by kernel_rfl) Tryd.func3 (by kernel_rfl)
    (of_decide_eq_true (by kernel_rfl)) (by unfold Func.isWrapper; first | (rw [if_pos (by decide +kernel)]; kernel_rfl) | (rw [if_neg (by decide +kernel)]; exact ⟨rfl, rfl⟩))
    (fun os started H enc _ F => by rw [OpenClaim.pre_eq_preRow]; exact lifted os started H enc F)

/-- No parameter wants a stand-in; the program's own looks are off. -/
theorem plain (f : FuncId) (fn : Func) (hf : Tryd.pinned.checked.prog.funcNamed Rows.fnConstantRow.func = some f) (hfn : Tryd.pinned.checked.prog.funcs[f]? = some fn) :
    false = Tryd.pinned.checked.prog.looks [] ∧ ∀ (j : Nat) t, fn.params[j]? = some t → Tryd.pinned.checked.prog.wantsStandIn t = false := by
  obtain rfl : f = 3 := Option.some.inj ((show Tryd.prog.funcNamed Rows.fnConstantRow.func = some 3 by kernel_rfl).symm.trans hf) |>.symm
  obtain rfl : fn = Tryd.f3 := (Option.some.inj (Tryd.func3.symm.trans hfn)).symm
  refine ⟨by kernel_rfl, fun j t ht => ?_⟩
  rw [Tryd.params3] at ht
  obtain rfl : t = 5 := by simpa using Array.mem_of_getElem? ht
  exact (show Tryd.prog.wantsStandIn 5 = false by kernel_rfl)

/-- The card. -/
theorem card : Rows.FnConstantCardSaid :=
  Claim7.holds_tied_plain_at .later [] _ _ _ _ said (fun _ h => by cases h) (by kernel_rfl) (fun _ h => by cases h) fnConstant_row_tie rfl ⟨rfl, rfl⟩ (by kernel_rfl) rfl plain (by kernel_rfl)
#print axioms card
end Go.Proofs.YtnlmgpnhebohfaaDoor.fnConstant
