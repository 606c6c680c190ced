/- The four listed variables at this dump: a world that holds them, and what the reading tells. -/
import Derived.Test.YtcjiafjahfmdoaaFmtGStr
import Derived.Test.YtcjiafjahfmdoaaFmtCards
import Derived.Test.YtcjiafjahfmdoaaFmtTie
import Derived.Stop.LaidErr
import Derived.Lib.LaidU8
import Derived.Lib.LaidIn
import Derived.Deep.DeepHandedRow
import Derived.Deep.DeepWitnessRowRef
import Derived.ProofKit
import Derived.OpenShut
import Derived.SizedLaws
namespace Go.Proofs.YtcjiafjahfmdoaaFmt.A
open Go.Shelf
open Go.ChangeShapes Go.WideShapes Go.ChangeAt Go.RowKit Go.Lib
set_option linter.unusedVariables false

theorem own : ownKnob Tryf.prog.godebug = none := by kernel_rfl
theorem eqWhite : (Rows.laid_unicode_White_Space : DataW Unit) = Lib.whiteData := by kernel_rfl
theorem eqFirst : (Rows.laid_unicode_utf8_first : DataW Unit) = Lib.firstData := by kernel_rfl
theorem eqAcc : (Rows.laid_unicode_utf8_acceptRanges : DataW Unit) = Lib.acceptData := by kernel_rfl
/-- The text of strconv.ErrSyntax. -/
def errText : List UInt8 := [105, 110, 118, 97, 108, 105, 100, 32, 115, 121, 110, 116, 97, 120]
def errData : DataW Unit := .iface "*errors.errorString" (.ptr (.agg [.lit (.string errText)]))

noncomputable def laidWorld (os : Os) : World :=
  let N := (World.settled Tryf.prog os).heap.size
  let w0 := World.holding Tryf.prog os ⟨#[.cells (Lib.whiteT.map fun (z : Nat) => Value.int .u16 (z : Int)).toArray (Tryf.lays199_ren.t 198), .cells #[.slice (some ⟨N, 0, none⟩) 7 7, .slice none 0 0, .int .i64 2] (Tryf.lays199_ren.t 196), .cells #[.string ⟨errText.toArray⟩] 87], #[], []⟩
  let put (h : Array Obj) (g : Nat) (cs : Array Value) : Array Obj := h.modify g fun
    | .cells _ t frozen => .cells cs t frozen
    | o => o
  { w0 with heap := put (put (put (put w0.heap (Tryf.lays197_ren.g 3) (Lib.firstTab.map fun z => Value.int .u8 z).toArray)
      (Tryf.lays197_ren.g 4) ((List.range 16).flatMap fun i => [Value.int .u8 (Lib.accLo i), Value.int .u8 (Lib.accHi i)]).toArray) (Tryf.lays199_ren.g 6) #[.pointer (some ⟨N + 1, 0, none⟩)]) 0 #[.iface 85 (.pointer (some ⟨N + 2, 0, none⟩))] }
noncomputable abbrev N0 : Nat := (World.settled Tryf.prog default).heap.size

/-- The list as the contracts speak of it. -/
noncomputable def laidList : List (String × DataW Unit) := [("unicode/utf8.acceptRanges", Lib.acceptData), ("strconv.ErrSyntax", errData), ("unicode.White_Space", Lib.whiteData), ("unicode/utf8.first", Lib.firstData)]
theorem piece (os : Os) (args : Array Value) : LaidIn Tryf.prog ((laidWorld os).forCall (fun _ _ => 0) ⟨#[], args, []⟩).memory [("unicode/utf8.acceptRanges", Lib.acceptData), ("strconv.ErrSyntax", errData), ("unicode.White_Space", Lib.whiteData), ("unicode/utf8.first", Lib.firstData)] [3, 0, N0 + 2, 1, N0 + 1, N0, 2] :=
  LaidIn.of_run [3, 0, N0 + 2, 1, N0 + 1, N0, 2] 10 (by kernel_rfl) (by kernel_rfl) (by kernel_rfl) (by kernel_rfl)
theorem laid_eq : ([("unicode/utf8.acceptRanges", Rows.laid_unicode_utf8_acceptRanges), ("strconv.ErrSyntax", Rows.laid_strconv_ErrSyntax), ("unicode.White_Space", Rows.laid_unicode_White_Space), ("unicode/utf8.first", Rows.laid_unicode_utf8_first)] : List (String × DataW Unit)) = laidList := by
  rw [eqWhite, eqFirst, eqAcc]
  rfl
theorem laid_met (os : Os) (args : Array Value) : laidMet Tryf.prog laidList ((laidWorld os).forCall (fun _ _ => 0) ⟨#[], args, []⟩).memory := (piece os args).met

theorem errName : "*" ++ "errors.errorString" = "*errors.errorString" := by decide
/-- The one row of that name. -/
theorem errRow (u : TypeId) (h : Tryf.prog.typeName? 3 u = some "*errors.errorString") : u = 85 :=
  typeName_ptr_named (nm := "errors.errorString") (by rw [errName]; kernel_rfl) (by kernel_rfl) (by decide) u (by rw [errName]; exact h)
theorem nameErr : Tryf.prog.globalNamed "strconv.ErrSyntax" = some 0 := by kernel_rfl
theorem typeErr : (Tryf.prog.globals[0]?).map (·.type) = some 49 := by kernel_rfl
theorem cellsErr : Tryf.prog.cellsOf 87 = 1 := by kernel_rfl
theorem cellsStr : Tryf.prog.cellsOf 9 = 1 := by kernel_rfl
theorem tabs_of {W : World} (h : laidMet Tryf.prog laidList W) : Tabs W := by
  refine ⟨?_, ?_, ?_⟩
  · exact whiteTab_of_reads { Tryf.lays199 with } ⟨by kernel_rfl, by kernel_rfl, by kernel_rfl, by kernel_rfl, by kernel_rfl, by kernel_rfl, by kernel_rfl, by kernel_rfl⟩ (Lib.laidMet.reads h (.tail _ (.tail _ (.head _))))
  · exact utf8Tabs_of_reads (ρ := Tryf.lays197_ren) { Tryf.lays197 with } ⟨by kernel_rfl, by kernel_rfl, by kernel_rfl, by kernel_rfl, by kernel_rfl, by kernel_rfl, by kernel_rfl⟩ (Lib.laidMet.reads h (.tail _ (.tail _ (.tail _ (.head _))))) (Lib.laidMet.reads h (.head _))
  · obtain ⟨a0, s0, hv0, -, -, -⟩ := laid_sentinel (laidMet.tail h) nameErr typeErr Tryf.underlying49 errRow Tryf.underlying85 Tryf.underlying87 rfl rfl Tryf.underlying9 cellsErr cellsStr
    exact ⟨a0, by have h0 := World.var?_cell nameErr hv0 0; simpa using h0⟩
end Go.Proofs.YtcjiafjahfmdoaaFmt.A
