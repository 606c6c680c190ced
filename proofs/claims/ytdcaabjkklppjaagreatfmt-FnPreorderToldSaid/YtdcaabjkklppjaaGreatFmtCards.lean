/-
  DERIVED. GIVEN WITH THE SEED: THE CARDS: each row of YtdcaabjkklppjaaGreatFmtRows.lean that lists a variable, with what it lists TIED to the program's text (the seventh form; the later family's looks); each row that meets fmt, with fmt's text TOLD by the authors' own Lean function (tested against real Go, not proved from fmt's source: count such statements apart). THE CARD IS WHAT COUNTS. Prove the row's statement (the work); the ties are given (YtdcaabjkklppjaaGreatFmtTie.lean); close each card by the builder's one call (the guide's Derived/Test/ToyasCard.lean, 'card_holds'). Laid BY PROGRAM, IN A SANDBOX (cutbox-door.mjs). By AI agents, Wed Nov 11 2026. No macro, syntax, notation, axiom, sorry.
-/
import Derived.Test.YtdcaabjkklppjaaGreatFmtRows
import GoSem.ClaimSeven
namespace Go.Proofs.YtdcaabjkklppjaaGreatFmt
namespace Rows

/-- THE TOLD AND TIED CARD OF 'laws.FnInspectBalance'. -/
def fnInspectBalanceCard : Claim7 := { stood := { row := fnInspectBalanceRow, standIns := [], harness := (true, "e5c29b0608a0eaefa4b52ab225c4d92b106cd0389663912e98a0158981c9dcb4"), looks := true }, told := true, laidByText := true, laidKinds := [.data, .data, .data, .data], laidTests := true, laidLooks := .later, goes := false }
def FnInspectBalanceToldSaid : Prop := Claim7.holds Tryz.pinned (.plain (OpenSpec.ofChange fnInspectBalanceSpec)) fnInspectBalanceCard
/-- ITS FALSE NEIGHBOUR. Refute it at one input. -/
def FnInspectBalanceToldWrongFalsely : Prop := Claim7.holds Tryz.pinned (.plain (OpenSpec.ofChange fnInspectBalanceWrong)) fnInspectBalanceCard

/-- THE TOLD AND TIED CARD OF 'laws.FnInspectSkips'. -/
def fnInspectSkipsCard : Claim7 := { stood := { row := fnInspectSkipsRow, standIns := [], harness := (true, "e5c29b0608a0eaefa4b52ab225c4d92b106cd0389663912e98a0158981c9dcb4"), looks := true }, told := true, laidByText := true, laidKinds := [.data, .data, .data, .data], laidTests := true, laidLooks := .later, goes := false }
def FnInspectSkipsToldSaid : Prop := Claim7.holds Tryz.pinned (.plain (OpenSpec.ofChange fnInspectSkipsSpec)) fnInspectSkipsCard
/-- ITS FALSE NEIGHBOUR. Refute it at one input. -/
def FnInspectSkipsToldWrongFalsely : Prop := Claim7.holds Tryz.pinned (.plain (OpenSpec.ofChange fnInspectSkipsWrong)) fnInspectSkipsCard

/-- THE TOLD AND TIED CARD OF 'laws.FnInspectVisits'. -/
def fnInspectVisitsCard : Claim7 := { stood := { row := fnInspectVisitsRow, standIns := [], harness := (true, "e5c29b0608a0eaefa4b52ab225c4d92b106cd0389663912e98a0158981c9dcb4"), looks := true }, told := true, laidByText := true, laidKinds := [.data, .data, .data, .data], laidTests := true, laidLooks := .later, goes := false }
def FnInspectVisitsToldSaid : Prop := Claim7.holds Tryz.pinned (.plain (OpenSpec.ofChange fnInspectVisitsSpec)) fnInspectVisitsCard
/-- ITS FALSE NEIGHBOUR. Refute it at one input. -/
def FnInspectVisitsToldWrongFalsely : Prop := Claim7.holds Tryz.pinned (.plain (OpenSpec.ofChange fnInspectVisitsWrong)) fnInspectVisitsCard

/-- THE TOLD AND TIED CARD OF 'laws.FnWalkVisits'. -/
def fnWalkVisitsCard : Claim7 := { stood := { row := fnWalkVisitsRow, standIns := [], harness := (true, "e5c29b0608a0eaefa4b52ab225c4d92b106cd0389663912e98a0158981c9dcb4"), looks := true }, told := true, laidByText := true, laidKinds := [.data, .data, .data, .data], laidTests := true, laidLooks := .later, goes := false }
def FnWalkVisitsToldSaid : Prop := Claim7.holds Tryz.pinned (.plain (OpenSpec.ofChange fnWalkVisitsSpec)) fnWalkVisitsCard
/-- ITS FALSE NEIGHBOUR. Refute it at one input. -/
def FnWalkVisitsToldWrongFalsely : Prop := Claim7.holds Tryz.pinned (.plain (OpenSpec.ofChange fnWalkVisitsWrong)) fnWalkVisitsCard

/-- THE TOLD AND TIED CARD OF 'laws.FnPreorder'. -/
def fnPreorderCard : Claim7 := { stood := { row := fnPreorderRow, standIns := [], harness := (true, "e5c29b0608a0eaefa4b52ab225c4d92b106cd0389663912e98a0158981c9dcb4"), looks := true }, told := true, laidByText := true, laidKinds := [.data, .data, .data, .data], laidTests := true, laidLooks := .later, goes := false }
def FnPreorderToldSaid : Prop := Claim7.holds Tryz.pinned (.plain (OpenSpec.ofChange fnPreorderSpec)) fnPreorderCard
/-- ITS FALSE NEIGHBOUR. Refute it at one input. -/
def FnPreorderToldWrongFalsely : Prop := Claim7.holds Tryz.pinned (.plain (OpenSpec.ofChange fnPreorderWrong)) fnPreorderCard

/-- THE TOLD AND TIED CARD OF 'laws.FnStack'. -/
def fnStackCard : Claim7 := { stood := { row := fnStackRow, standIns := [], harness := (true, "e5c29b0608a0eaefa4b52ab225c4d92b106cd0389663912e98a0158981c9dcb4"), looks := true }, told := true, laidByText := true, laidKinds := [.data, .data, .data, .data], laidTests := true, laidLooks := .later, goes := false }
def FnStackToldSaid : Prop := Claim7.holds Tryz.pinned (.plain (OpenSpec.ofChange fnStackSpec)) fnStackCard
/-- ITS FALSE NEIGHBOUR. Refute it at one input. -/
def FnStackToldWrongFalsely : Prop := Claim7.holds Tryz.pinned (.plain (OpenSpec.ofChange fnStackWrong)) fnStackCard
end Rows
end Go.Proofs.YtdcaabjkklppjaaGreatFmt
