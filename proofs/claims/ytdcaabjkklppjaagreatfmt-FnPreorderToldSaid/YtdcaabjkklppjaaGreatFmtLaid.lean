/- The four listed tables at this dump: a world that holds them, and what the reading tells of the tokens' texts. -/
import Derived.Test.YtdcaabjkklppjaaGreatFmtGInr
import Derived.Test.YtdcaabjkklppjaaGreatFmtCards
import Derived.Test.YtdcaabjkklppjaaGreatFmtTie
import Derived.Lib.LaidU8
import Derived.Lib.LaidIn
import Derived.Deep.DeepHandedRow
import Derived.Deep.DeepWitnessRowRef
import Derived.ProofKit
import Derived.OpenShut
import Derived.SizedLaws
namespace Go.Proofs.YtdcaabjkklppjaaGreatFmt.A
open Go.Shelf
open Go.ChangeShapes Go.WideShapes Go.ChangeAt Go.RowKit Go.Lib
set_option linter.unusedVariables false

theorem own : ownKnob Tryz.prog.godebug = none := by kernel_rfl
/-- A listed table's cells, as values. -/
def valueOf : DataW Unit → Value
  | .lit (.int k z) => .int k z
  | .lit (.string l) => .string ⟨l.toArray⟩
  | _ => .nilIface
def valuesOf : DataW Unit → Array Value
  | .agg ds => (ds.map valueOf).toArray
  | _ => #[]
/-- The list as the contracts speak of it. -/
noncomputable def laidList : List (String × DataW Unit) := [("math/bits.deBruijn32tab", Rows.laid_math_bits_deBruijn32tab), ("math/bits.deBruijn64tab", Rows.laid_math_bits_deBruijn64tab), ("internal/strconv.uint64pow10", Rows.laid_internal_strconv_uint64pow10), ("loop.example/pub-g01451/pub/goprinter_go_token.tokens", Rows.laid_loop_example_pub_g01451_pub_goprinter_go_token_tokens)]
noncomputable def placeOf (n : String) : Nat := (Tryz.prog.globalNamed n).getD 0
noncomputable def laidWorld (os : Os) : World :=
  let w0 := World.holding Tryz.prog os ⟨#[], #[], []⟩
  let put (h : Array Obj) (g : Nat) (cs : Array Value) : Array Obj := h.modify g fun
    | .cells _ t frozen => .cells cs t frozen
    | o => o
  { w0 with heap := laidList.foldl (fun h x => put h (placeOf x.1) (valuesOf x.2)) w0.heap }

theorem piece (os : Os) (args : Array Value) : LaidIn Tryz.prog ((laidWorld os).forCall (fun _ _ => 0) ⟨#[], args, []⟩).memory laidList [2, 3, 1, 0] :=
  LaidIn.of_run [2, 3, 1, 0] 10 (by kernel_rfl) (by kernel_rfl) (by kernel_rfl) (by kernel_rfl)
theorem laid_met (os : Os) (args : Array Value) : laidMet Tryz.prog laidList ((laidWorld os).forCall (fun _ _ => 0) ⟨#[], args, []⟩).memory := (piece os args).met

theorem tokData : (Rows.laid_loop_example_pub_g01451_pub_goprinter_go_token_tokens : DataW Unit) = .agg (tokL.map fun l => .lit (.string l)) := by kernel_rfl
theorem tabs_of {W : World} (h : laidMet Tryz.prog laidList W) : TokTab tokS W := by
  intro i hi
  have hr := Lib.laidMet.reads h (n := "loop.example/pub-g01451/pub/goprinter_go_token.tokens") (d := Rows.laid_loop_example_pub_g01451_pub_goprinter_go_token_tokens) (.tail _ (.tail _ (.tail _ (.head _))))
  rw [tokData] at hr
  obtain ⟨g, t, cs, fuel, p, hg, hty, hvar, hd⟩ := hr
  obtain rfl := Option.some.inj ((show Tryz.prog.globalNamed "loop.example/pub-g01451/pub/goprinter_go_token.tokens" = some 0 by kernel_rfl).symm.trans hg)
  obtain rfl := Option.some.inj ((show (Tryz.prog.globals[0]?).map (·.type) = some 270 by kernel_rfl).symm.trans hty)
  obtain ⟨fuel', d, q, hdi, he⟩ := array_elem Tryz.underlying270 hd i hi
  rw [show Tryz.prog.cellsOf 9 = 1 by kernel_rfl] at he
  obtain ⟨s, hcs, hx, _⟩ := DataW.trod_string Tryz.underlying9 he
  simp only [Prod.mk.injEq] at hx
  obtain ⟨rfl, _⟩ := hx
  rw [World.var?_cell hg hvar i, ← Array.getElem?_toList]
  have h1 : cs.toList[i]? = some (.string s) := by
    have := congrArg (·[0]?) hcs
    simpa [List.getElem?_take, List.getElem?_drop] using this
  rw [h1]
  simp only [List.getElem?_map, Option.map_eq_some_iff, DataW.lit.injEq, Lit.string.injEq] at hdi
  obtain ⟨l, hl, rfl⟩ := hdi
  unfold tokS
  rw [List.getD_eq_getElem?_getD, hl]
  rfl
end Go.Proofs.YtdcaabjkklppjaaGreatFmt.A
