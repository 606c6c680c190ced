/-
  DERIVED. GIVEN WITH THE SEED: THE CARDS: each row of YtcjiafjahfmdoaaDoorRows.lean that lists a variable, with what it lists TIED to the program's text (the seventh form; the later family's looks); each row that meets fmt, with fmt's text TOLD by the authors' own Lean function (tested against real Go, not proved from fmt's source: count such statements apart). THE CARD IS WHAT COUNTS. Prove the row's statement (the work); the ties are given (YtcjiafjahfmdoaaDoorTie.lean); close each card by the builder's one call (the guide's Derived/Test/ToyasCard.lean, 'card_holds'). Laid BY PROGRAM, IN A SANDBOX (cutbox-door.mjs). By AI agents, Wed Nov 11 2026. No macro, syntax, notation, axiom, sorry.
-/
import Derived.Test.YtcjiafjahfmdoaaDoorRows
import GoSem.ClaimSeven
namespace Go.Proofs.YtcjiafjahfmdoaaDoor
namespace Rows

/-- THE TIED CARD OF 'laws.FnDirective'. -/
def fnDirectiveCard : Claim7 := { stood := { row := fnDirectiveRow, standIns := [], harness := (true, "1027abc1a40bb711cc81f6eaf671ba1edcbe86fdb68e0fe7b9ddc58d0ef3c9d7"), looks := false }, kinds := [], alts := [], laidByText := true, laidKinds := [.data, .listed, .pinned], laidTests := true, laidLooks := .later }
def FnDirectiveCardSaid : Prop := Claim7.holds Tryd.pinned (.plain (OpenSpec.ofChange fnDirectiveSpec)) fnDirectiveCard

/-- THE TIED CARD OF 'laws.FnDirectiveText'. -/
def fnDirectiveTextCard : Claim7 := { stood := { row := fnDirectiveTextRow, standIns := [], harness := (true, "1027abc1a40bb711cc81f6eaf671ba1edcbe86fdb68e0fe7b9ddc58d0ef3c9d7"), looks := false }, kinds := [], alts := [], laidByText := true, laidKinds := [.data, .listed, .pinned], laidTests := true, laidLooks := .later }
def FnDirectiveTextCardSaid : Prop := Claim7.holds Tryd.pinned (.plain (OpenSpec.ofChange fnDirectiveTextSpec)) fnDirectiveTextCard

/-- THE SECOND FORM's CARD OF 'laws.FnDirective'. -/
def fnDirectiveUptoCard : Claim7 := { stood := { row := fnDirectiveUptoRow, standIns := [], harness := (true, "1027abc1a40bb711cc81f6eaf671ba1edcbe86fdb68e0fe7b9ddc58d0ef3c9d7"), looks := false }, kinds := [], alts := [], laidByText := true, laidKinds := [.data, .listed, .pinned], laidTests := true, laidLooks := .later }
def FnDirectiveUptoCardSaid : Prop := Claim7.holds Tryd.pinned (.plain (OpenSpec.upto fnDirectiveSpec)) fnDirectiveUptoCard

/-- THE SECOND FORM's CARD OF 'laws.FnDirectiveText'. -/
def fnDirectiveTextUptoCard : Claim7 := { stood := { row := fnDirectiveTextUptoRow, standIns := [], harness := (true, "1027abc1a40bb711cc81f6eaf671ba1edcbe86fdb68e0fe7b9ddc58d0ef3c9d7"), looks := false }, kinds := [], alts := [], laidByText := true, laidKinds := [.data, .listed, .pinned], laidTests := true, laidLooks := .later }
def FnDirectiveTextUptoCardSaid : Prop := Claim7.holds Tryd.pinned (.plain (OpenSpec.upto fnDirectiveTextSpec)) fnDirectiveTextUptoCard
end Rows
end Go.Proofs.YtcjiafjahfmdoaaDoor
