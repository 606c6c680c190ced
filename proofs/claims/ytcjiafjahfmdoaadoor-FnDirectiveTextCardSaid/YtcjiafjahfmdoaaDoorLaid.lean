/- The three listed tables at this dump: a world that holds them, and what the reading tells. -/
import Derived.Test.YtcjiafjahfmdoaaDoorGStr
import Derived.Test.YtcjiafjahfmdoaaDoorCards
import Derived.Test.YtcjiafjahfmdoaaDoorTie
import Derived.Lib.LaidU8
import Derived.Lib.LaidIn
import Derived.Deep.DeepHandedRow
import Derived.Deep.DeepWitnessRowRef
import Derived.ProofKit
import Derived.OpenShut
import Derived.SizedLaws
namespace Go.Proofs.YtcjiafjahfmdoaaDoor.A
open Go.Shelf
open Go.ChangeShapes Go.WideShapes Go.ChangeAt Go.RowKit Go.Lib
set_option linter.unusedVariables false

theorem own : ownKnob Tryd.prog.godebug = none := by kernel_rfl
theorem eqWhite : (Rows.laid_unicode_White_Space : DataW Unit) = Lib.whiteData := by kernel_rfl
theorem eqFirst : (Rows.laid_unicode_utf8_first : DataW Unit) = Lib.firstData := by kernel_rfl
theorem eqAcc : (Rows.laid_unicode_utf8_acceptRanges : DataW Unit) = Lib.acceptData := by kernel_rfl

noncomputable def laidWorld (os : Os) : World :=
  let N := (World.settled Tryd.prog os).heap.size
  let w0 := World.holding Tryd.prog os ⟨#[.cells (Lib.whiteT.map fun (z : Nat) => Value.int .u16 (z : Int)).toArray (Tryd.lays199_ren.t 198), .cells #[.slice (some ⟨N, 0, none⟩) 7 7, .slice none 0 0, .int .i64 2] (Tryd.lays199_ren.t 196)], #[], []⟩
  let put (h : Array Obj) (g : Nat) (cs : Array Value) : Array Obj := h.modify g fun
    | .cells _ t frozen => .cells cs t frozen
    | o => o
  { w0 with heap := put (put (put w0.heap (Tryd.lays238_ren.g 3) (Lib.firstTab.map fun z => Value.int .u8 z).toArray)
      (Tryd.lays238_ren.g 4) ((List.range 16).flatMap fun i => [Value.int .u8 (Lib.accLo i), Value.int .u8 (Lib.accHi i)]).toArray) (Tryd.lays199_ren.g 6) #[.pointer (some ⟨N + 1, 0, none⟩)] }
noncomputable abbrev N0 : Nat := (World.settled Tryd.prog default).heap.size

theorem piece (os : Os) (args : Array Value) : LaidIn Tryd.prog ((laidWorld os).forCall (fun _ _ => 0) ⟨#[], args, []⟩).memory [("unicode/utf8.acceptRanges", Lib.acceptData), ("unicode.White_Space", Lib.whiteData), ("unicode/utf8.first", Lib.firstData)] [2, 0, N0 + 1, N0, 1] :=
  LaidIn.of_run [2, 0, N0 + 1, N0, 1] 10 (by kernel_rfl) (by kernel_rfl) (by kernel_rfl) (by kernel_rfl)

/-- The list as the contracts speak of it. -/
noncomputable def laidList : List (String × DataW Unit) := [("unicode/utf8.acceptRanges", Lib.acceptData), ("unicode.White_Space", Lib.whiteData), ("unicode/utf8.first", Lib.firstData)]
theorem laid_eq : ([("unicode/utf8.acceptRanges", Rows.laid_unicode_utf8_acceptRanges), ("unicode.White_Space", Rows.laid_unicode_White_Space), ("unicode/utf8.first", Rows.laid_unicode_utf8_first)] : List (String × DataW Unit)) = laidList := by
  rw [eqWhite, eqFirst, eqAcc]
  rfl
theorem laid_met (os : Os) (args : Array Value) : laidMet Tryd.prog laidList ((laidWorld os).forCall (fun _ _ => 0) ⟨#[], args, []⟩).memory := (piece os args).met

theorem tabs_of {W : World} (h : laidMet Tryd.prog laidList W) : Tabs W := by
  refine ⟨?_, ?_⟩
  · exact whiteTab_of_reads { Tryd.lays199 with } ⟨by kernel_rfl, by kernel_rfl, by kernel_rfl, by kernel_rfl, by kernel_rfl, by kernel_rfl, by kernel_rfl, by kernel_rfl⟩ (Lib.laidMet.reads h (.tail _ (.head _)))
  · exact utf8Tabs_of_reads (ρ := Tryd.lays238_ren) { Tryd.lays238 with } ⟨by kernel_rfl, by kernel_rfl, by kernel_rfl, by kernel_rfl, by kernel_rfl, by kernel_rfl, by kernel_rfl⟩ (Lib.laidMet.reads h (.tail _ (.tail _ (.head _)))) (Lib.laidMet.reads h (.head _))
end Go.Proofs.YtcjiafjahfmdoaaDoor.A
