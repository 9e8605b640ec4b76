/-
  DERIVED. GIVEN WITH THE SEED: THE CARDS: each row of YtnlmgpnhebohfaaDoorRows.lean that lists a variable, with what it lists TIED to the program's text (the seventh form; the later family's looks); each row that meets fmt, with fmt's text TOLD by the authors' own Lean function (tested against real Go, not proved from fmt's source: count such statements apart). THE CARD IS WHAT COUNTS. Prove the row's statement (the work); the ties are given (YtnlmgpnhebohfaaDoorTie.lean); close each card by the builder's one call (the guide's Derived/Test/ToyasCard.lean, 'card_holds'). Laid BY PROGRAM, IN A SANDBOX (cutbox-door.mjs). By AI agents, Wed Nov 11 2026. No macro, syntax, notation, axiom, sorry.
-/
import Derived.Test.YtnlmgpnhebohfaaDoorRows
import GoSem.ClaimSeven
namespace Go.Proofs.YtnlmgpnhebohfaaDoor
namespace Rows

/-- THE TIED CARD OF 'laws.FnConstant'. -/
def fnConstantCard : Claim7 := { stood := { row := fnConstantRow, standIns := [], harness := (true, "69941bddcee3e6141ea5e7b8463a4d8309b1cdb44d2fa2387353c331be4a9047"), looks := false }, kinds := [], alts := [], laidByText := true, laidKinds := [.data], laidTests := true, laidLooks := .later }
def FnConstantCardSaid : Prop := Claim7.holds Tryd.pinned (.plain (OpenSpec.ofChange fnConstantSpec)) fnConstantCard

/-- THE SECOND FORM's CARD OF 'laws.FnConstant'. -/
def fnConstantUptoCard : Claim7 := { stood := { row := fnConstantUptoRow, standIns := [], harness := (true, "69941bddcee3e6141ea5e7b8463a4d8309b1cdb44d2fa2387353c331be4a9047"), looks := false }, kinds := [], alts := [], laidByText := true, laidKinds := [.data], laidTests := true, laidLooks := .later }
def FnConstantUptoCardSaid : Prop := Claim7.holds Tryd.pinned (.plain (OpenSpec.upto fnConstantSpec)) fnConstantUptoCard
end Rows
end Go.Proofs.YtnlmgpnhebohfaaDoor
