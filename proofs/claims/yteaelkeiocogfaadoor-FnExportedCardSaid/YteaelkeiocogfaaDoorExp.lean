/- FnExported's card holds: for every string, in every world in which the four listed tables read as their initialisers lay them, the law returns true, and the argument reads as before. No condition besides. -/
import Derived.Test.YteaelkeiocogfaaDoorExpWalks
import Derived.Test.YteaelkeiocogfaaDoorCards
import Derived.Test.YteaelkeiocogfaaDoorTie
import Derived.Lib.LaidRTab
import Derived.Lib.LaidIn
import Derived.Deep.DeepHandedRow
import Derived.Deep.DeepWitnessRowRef
import Derived.ProofKit
import Derived.OpenShut
import Derived.SizedLaws
namespace Go.Proofs.YteaelkeiocogfaaDoor.fnExported
open Go.Shelf
open Go.ChangeShapes Go.WideShapes Go.ChangeAt Go.RowKit Go.Lib
open Go.ChangeMaps (open_string shut_string)
set_option linter.unusedVariables false

theorem own : ownKnob Tryd.prog.godebug = none := by kernel_rfl
theorem cells5 : Tryd.prog.cellsOf 5 = 1 := by kernel_rfl
theorem cells25 : Tryd.prog.cellsOf 25 = 256 := by kernel_rfl
theorem xU : RExtra Tryd.prog Tryd.lays201_ren := ⟨by kernel_rfl, by kernel_rfl, by kernel_rfl, by kernel_rfl, by kernel_rfl, by kernel_rfl, by kernel_rfl, by kernel_rfl⟩
theorem gType : (Tryd.prog.globals[0]?).map (·.type) = some 25 := by kernel_rfl

theorem eqUpper : (Rows.laid_unicode_Upper : DataW Unit) = Lib.rtabData upperT := by kernel_rfl
theorem eqFirst : (Rows.laid_unicode_utf8_first : DataW Unit) = Lib.firstData := by kernel_rfl
theorem eqAcc : (Rows.laid_unicode_utf8_acceptRanges : DataW Unit) = Lib.acceptData := by kernel_rfl
theorem eqProps : (Rows.laid_unicode_properties : DataW Unit) = Lib.tabData .u8 Lib.propertiesTab := by kernel_rfl

noncomputable abbrev N0 : Nat := (World.settled Tryd.prog default).heap.size
/-- A world for the witness: the settled one with three blocks more (unicode.Upper's), the variables holding what their initialisers lay. -/
noncomputable def laidWorld (os : Os) : World :=
  let N := (World.settled Tryd.prog os).heap.size
  let ρ := Tryd.lays201_ren
  let w0 := World.holding Tryd.prog os ⟨#[
    .cells (rgCells .u16 upperT.r16) (ρ.t 198), .cells (rgCells .u32 upperT.r32) (ρ.t 201),
    .cells #[.slice (some ⟨N, 0, none⟩) upperT.r16.size upperT.r16.size, .slice (some ⟨N + 1, 0, none⟩) upperT.r32.size upperT.r32.size, .int .i64 upperT.off] (ρ.t 196)], #[], []⟩
  let put (h : Array Obj) (g : Nat) (cs : Array Value) : Array Obj := h.modify g fun
    | .cells _ t frozen => .cells cs t frozen
    | o => o
  let h1 := put w0.heap 0 (Lib.propertiesTab.map fun z => Value.int .u8 z).toArray
  let h2 := put h1 1 #[.pointer (some ⟨N + 2, 0, none⟩)]
  let h3 := put h2 2 (Lib.firstTab.map fun z => Value.int .u8 z).toArray
  let h4 := put h3 3 ((List.range 16).flatMap fun i => [Value.int .u8 (Lib.accLo i), Value.int .u8 (Lib.accHi i)]).toArray
  { w0 with heap := h4 }

theorem piece0 (os : Os) (args : Array Value) : LaidIn Tryd.prog ((laidWorld os).forCall (fun _ _ => 0) ⟨#[], args, []⟩).memory [("unicode/utf8.acceptRanges", Lib.acceptData), ("unicode.properties", Lib.tabData .u8 Lib.propertiesTab)] [3, 0] :=
  LaidIn.of_run [3, 0] 8 (by kernel_rfl) (by kernel_rfl) (by kernel_rfl) (by kernel_rfl)
theorem piece1 (os : Os) (args : Array Value) : LaidIn Tryd.prog ((laidWorld os).forCall (fun _ _ => 0) ⟨#[], args, []⟩).memory [("unicode.Upper", Lib.rtabData upperT)] [1, N0 + 2, N0, N0 + 1] :=
  laidIn_rtab (ρ := Tryd.lays201_ren) { Tryd.lays201 with } xU (by kernel_rfl) (by kernel_rfl) upperT (N0 + 2) N0 (N0 + 1) (Tryd.lays201_ren.t 198) (Tryd.lays201_ren.t 201)
    (by kernel_rfl) (by kernel_rfl) (by kernel_rfl) (by kernel_rfl) (by kernel_rfl) (of_decide_eq_true (by kernel_rfl)) (of_decide_eq_true (by kernel_rfl)) (of_decide_eq_true (by kernel_rfl))
theorem piece2 (os : Os) (args : Array Value) : LaidIn Tryd.prog ((laidWorld os).forCall (fun _ _ => 0) ⟨#[], args, []⟩).memory [("unicode/utf8.first", Lib.firstData)] [2] :=
  LaidIn.of_run [2] 8 (by kernel_rfl) (by kernel_rfl) (by kernel_rfl) (by kernel_rfl)

/-- The list as the contracts speak of it. -/
noncomputable def laidList : List (String × DataW Unit) := [("unicode/utf8.acceptRanges", Lib.acceptData), ("unicode.properties", Lib.tabData .u8 Lib.propertiesTab), ("unicode.Upper", Lib.rtabData upperT), ("unicode/utf8.first", Lib.firstData)]
theorem laid_eq : Rows.fnExportedRow.laid = laidList := by
  show [("unicode/utf8.acceptRanges", Rows.laid_unicode_utf8_acceptRanges), ("unicode.properties", Rows.laid_unicode_properties), ("unicode.Upper", Rows.laid_unicode_Upper), ("unicode/utf8.first", Rows.laid_unicode_utf8_first)] = laidList
  rw [eqUpper, eqFirst, eqAcc, eqProps]
  rfl

theorem laid_met (os : Os) (args : Array Value) : laidMet Tryd.prog Rows.fnExportedRow.laid ((laidWorld os).forCall (fun _ _ => 0) ⟨#[], args, []⟩).memory := by
  rw [laid_eq]
  exact (((piece0 os args).append (piece1 os args) (by kernel_rfl)).append (piece2 os args) (by kernel_rfl)).met

theorem tabs_of {W : World} (h : laidMet Tryd.prog laidList W) : Tabs W := by
  refine ⟨?_, ?_, ?_⟩
  · obtain ⟨g', t', cs, fuel, p, hg', ht', hvar, hd⟩ := Lib.laidMet.reads h (n := "unicode.properties") (d := Lib.tabData .u8 Lib.propertiesTab) (.tail _ (.head _))
    obtain rfl := Option.some.inj (gProps.symm.trans hg')
    obtain rfl := Option.some.inj ((show (Tryd.prog.globals[Tryd.lays201_ren.g 7]?).map (·.type) = some 25 from gType).symm.trans ht')
    unfold Lib.TabIs
    rw [hvar, ← Lib.cells_of_tab Tryd.underlying25 Tryd.underlying5 cells5 cells25 hd]
  · exact rvar_of_reads { Tryd.lays201 with } xU (by kernel_rfl) (by kernel_rfl) (Lib.laidMet.reads h (.tail _ (.tail _ (.head _))))
  · exact utf8Tabs_of_reads (ρ := Tryd.lays197_ren) { Tryd.lays197 with } ⟨by kernel_rfl, by kernel_rfl, by kernel_rfl, by kernel_rfl, by kernel_rfl, by kernel_rfl, by kernel_rfl⟩ (Lib.laidMet.reads h (.tail _ (.tail _ (.tail _ (.head _))))) (Lib.laidMet.reads h (.head _))

theorem table {W : World} (h : laidMetH Tryd.prog Rows.fnExportedRow.laid W) : Tabs W := by
  rw [laid_eq] at h
  exact tabs_of h

theorem reads (os : Os) {H : Type} (enc : TypeId × Value → H) : ∃ places, DataW.whole enc Tryd.prog ((laidWorld os).forCall (fun _ _ => 0) ⟨#[], #[.string ⟨#[]⟩], []⟩).memory Tryd.f3.params.toList Rows.fnExportedSpec.vars false #[Value.string ⟨#[]⟩].toList 8 = some ([.lit (.string [])], [], places) := by
  have hw : (DataW.whole enc Tryd.prog ((laidWorld os).forCall (fun _ _ => 0) ⟨#[], #[.string ⟨#[]⟩], []⟩).memory Tryd.f3.params.toList Rows.fnExportedSpec.vars false #[Value.string ⟨#[]⟩].toList 8).map (fun x => (x.1, x.2.1)) =
      some ([.lit (.string [])], []) := by kernel_rfl
  obtain ⟨⟨x1, x2, x3⟩, hx, hx1⟩ := Option.map_eq_some_iff.1 hw
  simp only [Prod.mk.injEq] at hx1
  obtain ⟨rfl, rfl⟩ := hx1
  exact ⟨x3, hx⟩

theorem contract (H : Type) (enc : TypeId × Value → H) (W : World) (base : Nat) (args : Array Value) (ds gs : List (DataW H)) (before : List MemPlace)
    (hval : ∀ (j : Nat) t v, Tryd.f3.params[j]? = some t → args[j]? = some v → Value.okWide Tryd.prog W .any base t v)
    (hW : DataW.Whole enc Tryd.prog Tryd.f3.params.toList Rows.fnExportedSpec.vars false W args.toList ds gs before) (hL : laidMetH Tryd.prog Rows.fnExportedRow.laid W) :
    Calls Tryd.prog 3 args W fun e W' => ∃ v, e = .returned v ∧ Rows.fnExportedSpec.post enc Tryd.prog Tryd.f3 false true false false W args v W' := by
  have hW' := hW
  obtain ⟨p, q, hA0, hV, rfl, hfz, hnd⟩ := hW
  have hA : DataW.TrodAll enc Tryd.prog W 0 (fun _ => true) true Tryd.f3.params.toList args.toList ds p := hA0
  rw [Tryd.params3] at hA hval
  obtain ⟨v0, vs0, d0, ds0, p0, q0, hargs, rfl, rfl, h0, r0⟩ := trodAll_cons hA
  obtain ⟨rfl, rfl, rfl⟩ := trodAll_nil r0
  obtain rfl : args = #[v0] := by cases args; simp_all
  obtain ⟨rfl, rfl⟩ := trodVars_none hV
  obtain ⟨s, rfl, rfl, rfl, ws⟩ := open_string Tryd.underlying9 (hval 0 9 v0 rfl rfl) h0
  clear hA0
  refine (walk s W (table hL)).mono fun e W' ⟨he, bel⟩ => ?_
  subst he
  exact ⟨_, rfl, _, _, _, [], _, [], hW', trodAll_mk1 (shut_bool Tryd.underlying4 _), (trodAll_cons_mk (shut_string Tryd.underlying9 ws) trodAll_mk0), rfl, bel.frame _, fun h => by cases h⟩

set_option maxRecDepth 100000 in
theorem lifted (os : Os) (started : os.Started) (H : Type) (enc : TypeId × Value → H) (F : Stop.Interp) :
    ReturnsInHanded {} Tryd.checked os 3 .any ((OpenSpec.ofChange Rows.fnExportedSpec).preRow enc Tryd.prog Tryd.f3 Rows.fnExportedRow.domain false Rows.fnExportedRow.laid) (((OpenSpec.ofChange Rows.fnExportedSpec).at F).post enc Tryd.prog Tryd.f3 false true false false) := by
  obtain ⟨places, hx⟩ := reads os enc
  refine returnsInHanded_of_row (C := Tryd.checked) (s := OpenSpec.ofChange Rows.fnExportedSpec) own started (by kernel_rfl) Tryd.func3
    (witness_row_atRef (enc := enc) (C := Tryd.checked) false (laidWorld os) #[.string ⟨#[]⟩] rfl (by kernel_rfl) (by kernel_rfl) (by kernel_rfl)
      (OpenSpec.preRow_of_cond 8 hx (by kernel_rfl) (fun k hk => by cases hk) (by kernel_rfl) (laid_met os _))) ?_
  intro W base args ds gs before hval hW _ _ _ hL _ _
  exact contract H enc W base args ds gs before hval hW hL

theorem said : Rows.FnExportedSaid :=
  OpenClaim.holds_of_cond 3 Tryd.f3 rfl rfl rfl rfl rfl rfl rfl ⟨rfl, rfl, rfl, rfl, rfl⟩ rfl rfl rfl rfl rfl (by kernel_rfl) Tryd.func3 (by kernel_rfl)
    (of_decide_eq_true (by kernel_rfl)) (by unfold Func.isWrapper; first | (rw [if_pos (by decide +kernel)]; kernel_rfl) | (rw [if_neg (by decide +kernel)]; exact ⟨rfl, rfl⟩))
    (fun os started H enc _ F => by rw [OpenClaim.pre_eq_preRow]; exact lifted os started H enc F)

theorem plain (f : FuncId) (fn : Func) (hf : Tryd.pinned.checked.prog.funcNamed "loop.example/pub-g01451/laws.FnExported" = some f) (hfn : Tryd.pinned.checked.prog.funcs[f]? = some fn) :
    false = Tryd.pinned.checked.prog.looks [] ∧ ∀ (j : Nat) t, fn.params[j]? = some t → Tryd.pinned.checked.prog.wantsStandIn t = false := by
  obtain rfl : f = 3 := Option.some.inj ((show Tryd.prog.funcNamed "loop.example/pub-g01451/laws.FnExported" = some 3 by kernel_rfl).symm.trans hf) |>.symm
  obtain rfl : fn = Tryd.f3 := (Option.some.inj (Tryd.func3.symm.trans hfn)).symm
  refine ⟨by kernel_rfl, fun j t ht => ?_⟩
  rw [Tryd.params3] at ht
  obtain rfl : t = 9 := by simpa using Array.mem_of_getElem? ht
  exact (show Tryd.prog.wantsStandIn 9 = false by kernel_rfl)

/-- The card. -/
theorem card : Rows.FnExportedCardSaid :=
  Claim7.holds_tied_plain_at .later [] _ _ _ _ said (fun _ h => by cases h) (by kernel_rfl) (fun _ h => by cases h) fnExported_row_tie rfl ⟨rfl, rfl⟩ (by kernel_rfl) rfl plain (by kernel_rfl)
#print axioms card
end Go.Proofs.YteaelkeiocogfaaDoor.fnExported
namespace Go.Proofs.YteaelkeiocogfaaDoor
/-- The card, under a short name, for the claim. -/
theorem fnExported_holds : Rows.FnExportedCardSaid := fnExported.card
end Go.Proofs.YteaelkeiocogfaaDoor
