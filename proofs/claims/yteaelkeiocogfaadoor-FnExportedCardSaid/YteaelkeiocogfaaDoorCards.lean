/-
  DERIVED. GIVEN WITH THE SEED: THE CARDS: each row of YteaelkeiocogfaaDoorRows.lean that lists a variable, with what it lists TIED to the program's text (the seventh form; the later family's looks); each row that meets fmt, with fmt's text TOLD by the authors' own Lean function (tested against real Go, not proved from fmt's source: count such statements apart). THE CARD IS WHAT COUNTS. Prove the row's statement (the work); the ties are given (YteaelkeiocogfaaDoorTie.lean); close each card by the builder's one call (the guide's Derived/Test/ToyasCard.lean, 'card_holds'). Laid BY PROGRAM, IN A SANDBOX (cutbox-door.mjs). By AI agents, Wed Nov 11 2026. No macro, syntax, notation, axiom, sorry.
-/
import Derived.Test.YteaelkeiocogfaaDoorRows
import GoSem.ClaimSeven
namespace Go.Proofs.YteaelkeiocogfaaDoor
namespace Rows

/-- THE TIED CARD OF 'laws.FnExported'. -/
def fnExportedCard : Claim7 := { stood := { row := fnExportedRow, standIns := [], harness := (true, "67747d67dbfc2f91b1ab3365e6994903e09dace96556e670e4b117b724b6c3d1"), looks := false }, kinds := [], alts := [], laidByText := true, laidKinds := [.data, .data, .pinned, .pinned], laidTests := true, laidLooks := .later }
def FnExportedCardSaid : Prop := Claim7.holds Tryd.pinned (.plain (OpenSpec.ofChange fnExportedSpec)) fnExportedCard

/-- THE SECOND FORM's CARD OF 'laws.FnExported'. -/
def fnExportedUptoCard : Claim7 := { stood := { row := fnExportedUptoRow, standIns := [], harness := (true, "67747d67dbfc2f91b1ab3365e6994903e09dace96556e670e4b117b724b6c3d1"), looks := false }, kinds := [], alts := [], laidByText := true, laidKinds := [.data, .data, .pinned, .pinned], laidTests := true, laidLooks := .later }
def FnExportedUptoCardSaid : Prop := Claim7.holds Tryd.pinned (.plain (OpenSpec.upto fnExportedSpec)) fnExportedUptoCard
end Rows
end Go.Proofs.YteaelkeiocogfaaDoor
