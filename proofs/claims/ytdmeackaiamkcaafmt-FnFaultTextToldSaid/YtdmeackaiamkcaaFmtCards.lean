/-
  DERIVED. GIVEN WITH THE SEED: THE CARDS: each row of YtdmeackaiamkcaaFmtRows.lean that lists a variable, with what it lists TIED to the program's text (the seventh form; the later family's looks); each row that meets fmt, with fmt's text TOLD by the authors' own Lean function (tested against real Go, not proved from fmt's source: count such statements apart). THE CARD IS WHAT COUNTS. Prove the row's statement (the work); the ties are given (YtdmeackaiamkcaaFmtTie.lean); close each card by the builder's one call (the guide's Derived/Test/ToyasCard.lean, 'card_holds'). Laid BY PROGRAM, IN A SANDBOX (cutbox-door.mjs). By AI agents, Wed Nov 11 2026. No macro, syntax, notation, axiom, sorry.
-/
import Derived.Test.YtdmeackaiamkcaaFmtRows
import GoSem.ClaimSeven
namespace Go.Proofs.YtdmeackaiamkcaaFmt
namespace Rows

/-- THE TOLD AND TIED CARD OF 'laws.FnFaultText'. -/
def fnFaultTextCard : Claim7 := { stood := { row := fnFaultTextRow, standIns := [], harness := (true, "da8a599b03cf1f5036d5159aa6d1e59a63fe86dc2f7284f536e5c9fbc07f55e3"), looks := false }, told := true, laidByText := true, laidKinds := [.data, .data, .data], laidTests := true, laidLooks := .later, goes := false }
def FnFaultTextToldSaid : Prop := Claim7.holds Tryf.pinned (.plain (OpenSpec.ofChange fnFaultTextSpec)) fnFaultTextCard
/-- ITS FALSE NEIGHBOUR. Refute it at one input. -/
def FnFaultTextToldWrongFalsely : Prop := Claim7.holds Tryf.pinned (.plain (OpenSpec.ofChange fnFaultTextWrong)) fnFaultTextCard
end Rows
end Go.Proofs.YtdmeackaiamkcaaFmt
