/-
  DERIVED. GIVEN WITH THE SEED: THE CARDS: each row of YtdcaabjkklppjaaGreatDoorRows.lean that lists a variable, with what it lists TIED to the program's text (the seventh form; the later family's looks); each row that meets fmt, with fmt's text TOLD by the authors' own Lean function (tested against real Go, not proved from fmt's source: count such statements apart). THE CARD IS WHAT COUNTS. Prove the row's statement (the work); the ties are given (YtdcaabjkklppjaaGreatDoorTie.lean); close each card by the builder's one call (the guide's Derived/Test/ToyasCard.lean, 'card_holds'). Laid BY PROGRAM, IN A SANDBOX (cutbox-door.mjs). By AI agents, Wed Nov 11 2026. No macro, syntax, notation, axiom, sorry.
-/
import Derived.Test.YtdcaabjkklppjaaGreatDoorRows
import GoSem.ClaimSeven
namespace Go.Proofs.YtdcaabjkklppjaaGreatDoor
namespace Rows

/-- THE TIED CARD OF 'laws.FnUnparen'. -/
def fnUnparenCard : Claim7 := { stood := { row := fnUnparenRow, standIns := [], harness := (true, "853f5650386cce52631766a6f938449e1d9f4da7afb9d6fe03b90415f5133228"), looks := true }, kinds := [], alts := [], laidByText := true, laidKinds := [.data, .data, .data, .data], laidTests := true, laidLooks := .later }
def FnUnparenCardSaid : Prop := Claim7.holds Tryz.pinned (.plain (OpenSpec.ofChange fnUnparenSpec)) fnUnparenCard

/-- THE SECOND FORM's CARD OF 'laws.FnUnparen'. -/
def fnUnparenUptoCard : Claim7 := { stood := { row := fnUnparenUptoRow, standIns := [], harness := (true, "853f5650386cce52631766a6f938449e1d9f4da7afb9d6fe03b90415f5133228"), looks := true }, kinds := [], alts := [], laidByText := true, laidKinds := [.data, .data, .data, .data], laidTests := true, laidLooks := .later }
def FnUnparenUptoCardSaid : Prop := Claim7.holds Tryz.pinned (.plain (OpenSpec.upto fnUnparenSpec)) fnUnparenUptoCard
end Rows
end Go.Proofs.YtdcaabjkklppjaaGreatDoor
