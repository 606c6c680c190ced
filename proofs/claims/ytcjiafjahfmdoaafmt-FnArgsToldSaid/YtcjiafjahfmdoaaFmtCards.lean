/-
  DERIVED. GIVEN WITH THE SEED: THE CARDS: each row of YtcjiafjahfmdoaaFmtRows.lean that lists a variable, with what it lists TIED to the program's text (the seventh form; the later family's looks); each row that meets fmt, with fmt's text TOLD by the authors' own Lean function (tested against real Go, not proved from fmt's source: count such statements apart). THE CARD IS WHAT COUNTS. Prove the row's statement (the work); the ties are given (YtcjiafjahfmdoaaFmtTie.lean); close each card by the builder's one call (the guide's Derived/Test/ToyasCard.lean, 'card_holds'). Laid BY PROGRAM, IN A SANDBOX (cutbox-door.mjs). By AI agents, Wed Nov 11 2026. No macro, syntax, notation, axiom, sorry.
-/
import Derived.Test.YtcjiafjahfmdoaaFmtRows
import GoSem.ClaimSeven
namespace Go.Proofs.YtcjiafjahfmdoaaFmt
namespace Rows

/-- THE TOLD AND TIED CARD OF 'laws.FnArgs'. -/
def fnArgsCard : Claim7 := { stood := { row := fnArgsRow, standIns := [], harness := (true, "776aec4be0498e3ca3685a31b105859abafc8eca67b0f9c43aa14a0c4037e642"), looks := false }, told := true, laidByText := true, laidKinds := [.data, .sentinel, .listed, .pinned], laidTests := true, laidLooks := .later, goes := false }
def FnArgsToldSaid : Prop := Claim7.holds Tryf.pinned (.plain (OpenSpec.ofChange fnArgsSpec)) fnArgsCard
/-- ITS FALSE NEIGHBOUR. Refute it at one input. -/
def FnArgsToldWrongFalsely : Prop := Claim7.holds Tryf.pinned (.plain (OpenSpec.ofChange fnArgsWrong)) fnArgsCard

/-- THE TOLD AND TIED CARD OF 'laws.FnArgsQuoted'. -/
def fnArgsQuotedCard : Claim7 := { stood := { row := fnArgsQuotedRow, standIns := [], harness := (true, "776aec4be0498e3ca3685a31b105859abafc8eca67b0f9c43aa14a0c4037e642"), looks := false }, told := true, laidByText := true, laidKinds := [.data, .sentinel, .listed, .pinned], laidTests := true, laidLooks := .later, goes := false }
def FnArgsQuotedToldSaid : Prop := Claim7.holds Tryf.pinned (.plain (OpenSpec.ofChange fnArgsQuotedSpec)) fnArgsQuotedCard
/-- ITS FALSE NEIGHBOUR. Refute it at one input. -/
def FnArgsQuotedToldWrongFalsely : Prop := Claim7.holds Tryf.pinned (.plain (OpenSpec.ofChange fnArgsQuotedWrong)) fnArgsQuotedCard
end Rows
end Go.Proofs.YtcjiafjahfmdoaaFmt
