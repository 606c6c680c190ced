import Derived.Test.YtdmeackaiamkcaaFmtPure
import Derived.Test.YtdmeackaiamkcaaFmtTie
import Derived.Test.YtdmeackaiamkcaaFmtGOpen
import Derived.ProofKit
import Derived.OpenShut
import Derived.ShutString
import Derived.SizedLaws
import Derived.Stop.JoinedAt
import Derived.Stop.Texts
import Derived.Stop.JoinedTold
import Derived.Lib.LaidIn
import Derived.Lib.LaidTab
import Derived.Lib.LaidU8
import Derived.Deep.DeepWitnessRef
import Derived.SevenToldTied
import Derived.SevenTiedAt
namespace Go.Proofs.YtdmeackaiamkcaaFmt.fnFaultText
open Go.ChangeShapes Go.WideShapes Go.ChangeAt Go.RowKit Go.Kit Go.Lib Go.Proofs.YtdmeackaiamkcaaFmtO Go.Proofs.YtdmeackaiamkcaaFmtW.PrintWords
open Go.ChangeMaps (open_string shut_string)
open Go.Extern.Stop Go.Stop Go.Extern
set_option linter.unusedVariables false

theorem own : ownKnob Tryf.prog.godebug = none := by kernel_rfl
theorem laidOut : laidOutB Tryf.prog = true := by kernel_rfl
theorem cells38 : Tryf.prog.cellsOf 38 = 1 := by kernel_rfl
theorem cells48 : Tryf.prog.cellsOf 48 = 20 := by kernel_rfl
theorem gType : (Tryf.prog.globals[0]?).map (·.type) = some 48 := by kernel_rfl

theorem eqPow : (Rows.laid_internal_strconv_uint64pow10 : DataW Unit) = Lib.tabData .u64 Lib.pow10Tab := by kernel_rfl

def tab32 : List Int := [0, 1, 28, 2, 29, 14, 24, 3, 30, 22, 20, 15, 25, 17, 4, 8, 31, 27, 13, 23, 21, 19, 16, 7, 26, 12, 18, 6, 11, 5, 10, 9]
def tab64 : List Int := [0, 1, 56, 2, 57, 49, 28, 3, 61, 58, 42, 50, 38, 29, 17, 4, 62, 47, 59, 36, 45, 43, 51, 22, 53, 39, 33, 30, 24, 18, 12, 5, 63, 55, 48, 27, 60, 41, 37, 16, 46, 35, 44, 21, 52, 32, 23, 11, 54, 26, 40, 15, 34, 20, 31, 10, 25, 14, 19, 9, 13, 8, 7, 6]

/-- A world for the witness: the settled one, the three tables holding what their initialisers lay. -/
noncomputable def laidWorld (os : Os) : World :=
  let w0 := World.holding Tryf.prog os ⟨#[], #[], []⟩
  let put (h : Array Obj) (g : Nat) (cs : Array Value) : Array Obj := h.modify g fun
    | .cells _ t frozen => .cells cs t frozen
    | o => o
  let h1 := put w0.heap 0 (Lib.pow10Tab.map fun z => Value.int .u64 z).toArray
  let h2 := put h1 1 (tab32.map fun z => Value.int .u8 z).toArray
  let h3 := put h2 2 (tab64.map fun z => Value.int .u8 z).toArray
  { w0 with heap := h3 }

theorem laid_met (os : Os) (args : Array Value) : laidMet Tryf.prog Rows.fnFaultTextRow.laid ((laidWorld os).forCall (fun _ _ => 0) ⟨#[], args, []⟩).memory :=
  (LaidIn.of_run [1, 2, 0] 8 (by kernel_rfl) (by kernel_rfl) (by kernel_rfl) (by kernel_rfl) : LaidIn Tryf.prog ((laidWorld os).forCall (fun _ _ => 0) ⟨#[], args, []⟩).memory Rows.fnFaultTextRow.laid [1, 2, 0]).met

theorem pow_of {W : World} (h : laidMetH Tryf.prog Rows.fnFaultTextRow.laid W) : Pow W := by
  have hM : laidMet Tryf.prog [("math/bits.deBruijn32tab", Rows.laid_math_bits_deBruijn32tab), ("math/bits.deBruijn64tab", Rows.laid_math_bits_deBruijn64tab), ("internal/strconv.uint64pow10", Rows.laid_internal_strconv_uint64pow10)] W := h
  rw [eqPow] at hM
  obtain ⟨g', t', cs, fuel, p, hg', ht', hvar, hd⟩ := Lib.laidMet.reads hM (n := "internal/strconv.uint64pow10") (d := Lib.tabData .u64 Lib.pow10Tab) (.tail _ (.tail _ (.head _)))
  obtain rfl := Option.some.inj (gPow.symm.trans hg')
  obtain rfl := Option.some.inj (gType.symm.trans ht')
  unfold Pow Lib.TabIs
  rw [hvar, ← Lib.cells_of_tab Tryf.underlying48 Tryf.underlying38 cells38 cells48 hd]

/-- A fault as it comes in. -/
def ok23 (x : A.S23) : Prop := x.f0.size ≤ maxLen ∧ (Lit.int .i64 x.f1).wf = true ∧ (Lit.int .i64 x.f2).wf = true ∧ x.f3.size ≤ maxLen
theorem opensE (W : World) (N : Nat) : Opens Tryf.prog W (N + 1) 23 A.k23 ok23 :=
  Opens.iso (opens_struct Tryf.underlying23 (by kernel_rfl) (opensFs_cons rfl (by kernel_rfl) (opens_string Tryf.underlying9) (opensFs_cons rfl (by kernel_rfl) (opens_int Tryf.underlying2) (opensFs_cons rfl (by kernel_rfl) (opens_int Tryf.underlying2) (opensFs_one rfl (by kernel_rfl) (opens_string Tryf.underlying9)))))) _ (fun x => ⟨x.1, x.2.1, x.2.2.1, x.2.2.2⟩) (fun _ => rfl)

noncomputable abbrev arg0 : Array Value := #[.agg #[.string ⟨#[]⟩, .int .i64 0, .int .i64 0, .string ⟨#[]⟩]]

theorem witness_row (os : Os) {H : Type} (enc : TypeId × Value → H) :
    (OpenSpec.ofChange Rows.fnFaultTextSpec).preRow enc Tryf.prog Tryf.f3 Rows.fnFaultTextRow.domain false Rows.fnFaultTextRow.laid ((laidWorld os).forCall (fun _ _ => 0) ⟨#[], arg0, []⟩).memory arg0 := by
  have hw : (DataW.whole enc Tryf.prog ((laidWorld os).forCall (fun _ _ => 0) ⟨#[], arg0, []⟩).memory Tryf.f3.params.toList Rows.fnFaultTextSpec.vars false arg0.toList 8).map (fun x => (x.1, x.2.1)) =
      some ([.agg [.lit (.string []), .lit (.int .i64 0), .lit (.int .i64 0), .lit (.string [])]], []) := by kernel_rfl
  obtain ⟨⟨x1, x2, x3⟩, hx, hx1⟩ := Option.map_eq_some_iff.1 hw
  simp only [Prod.mk.injEq] at hx1
  obtain ⟨rfl, rfl⟩ := hx1
  exact OpenSpec.preRow_of_cond 8 hx (by kernel_rfl) (fun k hk => by cases hk) (by kernel_rfl) (laid_met os _)

set_option maxRecDepth 100000 in
theorem lifted (os : Os) (started : os.Started) (H : Type) (enc : TypeId × Value → H) :
    ReturnsInTold none {} Tryf.checked os 3 .any Input.okWide ((OpenSpec.ofChange Rows.fnFaultTextSpec).preRow enc Tryf.prog Tryf.f3 Rows.fnFaultTextRow.domain false Rows.fnFaultTextRow.laid) (fun F => ((OpenSpec.ofChange Rows.fnFaultTextSpec).at F).post enc Tryf.prog Tryf.f3 false true false false) (aloneAtReturn Tryf.prog) nothingAlways := by
  refine returnsInTold_of_row (C := Tryf.checked) (s := OpenSpec.ofChange Rows.fnFaultTextSpec) (by kernel_rfl) own started (by kernel_rfl) Tryf.func3
    (OpenSpec.witness_stopped_atRef (enc := enc) (C := Tryf.checked) false (laidWorld os) arg0 rfl (by kernel_rfl) (by kernel_rfl) (by kernel_rfl) (witness_row os enc)) ?_
  intro F W base args ds gs before _ hF hval0 hW _ _ _ hL _
  have hval : ∀ (j : Nat) t v, Tryf.f3.params[j]? = some t → args[j]? = some v → Value.okWide Tryf.prog W .any base t v := hval0
  have hW' := hW
  obtain ⟨p, q, hA0, hV, rfl, hfz, hnd⟩ := hW
  have hA : DataW.TrodAll enc Tryf.prog W 0 (fun _ => true) true Tryf.f3.params.toList args.toList ds p := hA0
  rw [Tryf.params3] at hA hval
  obtain ⟨v0, d0, rfl, rfl, h0⟩ := trodAll_one hA
  obtain ⟨rfl, rfl⟩ := trodVars_none hV
  obtain ⟨cs, rfl, hcz⟩ := okWide_struct Tryf.underlying23 (hval 0 23 v0 rfl rfl)
  have k0 := h0
  have lt0 : ∀ x ∈ p, x.block < W.heap.size := by obtain ⟨m, hm⟩ := k0; exact DataW.trod_lt m _ _ _ hm
  obtain ⟨x, hcs⟩ : ∃ x : A.S23, cs = #[.string x.f0, .int .i64 x.f1, .int .i64 x.f2, .string x.f3] := by
    obtain ⟨fuel, hf⟩ := h0
    obtain ⟨x, hK, hok⟩ := opensE W fuel H enc fuel _ _ (Nat.lt_succ_self _) hf
    have hcs := A.k23_open hK
    refine ⟨x, ?_⟩
    simp [Value.cells] at hcs
    obtain ⟨l⟩ := cs
    exact congrArg Array.mk hcs
  subst hcs
  clear hA0 hval0
  obtain ⟨k, hk⟩ := A.pure_FnFaultText x.f0 x.f1 x.f2 x.f3
  have hE : A.GiveEnv F W := ⟨pow_of hL, hF⟩
  refine (A.laws_FnFaultText.calls k x.f0 x.f1 x.f2 x.f3 true W F (fun w' hb => hE.below hb) hk).mono fun e W' ⟨he, bel⟩ => ?_
  subst he
  exact ⟨_, rfl, _, _, _, [], _, [], hW', trodAll_mk1 (shut_bool Tryf.underlying4 _), (trodAll_cons_mk (Below.trod laidOut (by kernel_rfl) (of_decide_eq_true (by kernel_rfl)) k0 bel lt0) trodAll_mk0), rfl, bel.frame _, fun h => by cases h⟩

theorem stops : Tryf.pinned.checked.prog.stops = ["fmt.Sprintf"] := by kernel_rfl
theorem stopKnobs : Tryf.pinned.checked.prog.stopKnobs = [] := by kernel_rfl
theorem quiet (os : Os) : Stop.quiet Tryf.pinned.checked.prog os := by
  intro k hk
  rw [stopKnobs] at hk
  cases hk

/-- The card. -/
theorem card : Rows.FnFaultTextToldSaid :=
  Claim7.holds_of_told_tied_any_at .later 3 Tryf.f3 "fmt.Sprintf" [] [] _ _ _ _ _ (by kernel_rfl) rfl rfl rfl laidOut (by kernel_rfl) rfl ⟨rfl, rfl, rfl, rfl, rfl, rfl, rfl⟩ rfl rfl (by kernel_rfl) (by kernel_rfl) Tryf.func3 (by kernel_rfl)
    (of_decide_eq_true (by kernel_rfl)) (of_decide_eq_true (by kernel_rfl)) stops.symm rfl stopKnobs.symm (by kernel_rfl)
    (by kernel_rfl) (by kernel_rfl) (by kernel_rfl) (by kernel_rfl) (by kernel_rfl) (by kernel_rfl) (by kernel_rfl) (by kernel_rfl) (by kernel_rfl) rfl (by kernel_rfl) rfl rfl
    rfl rfl
    rfl (by kernel_rfl) (by kernel_rfl) (by kernel_rfl) (by decide) (by kernel_rfl) fnFaultText_row_tie
    (OpenClaim.moreEntering_of (by kernel_rfl) (by kernel_rfl) (by kernel_rfl) (by kernel_rfl) (by kernel_rfl) (by kernel_rfl) (by kernel_rfl) (by kernel_rfl) (by kernel_rfl) (by kernel_rfl))
    ⟨_, WideRow.started_initial, quiet _⟩
    (fun os started _ H enc _ => lifted os started H enc)
#print axioms card
end Go.Proofs.YtdmeackaiamkcaaFmt.fnFaultText
namespace Go.Proofs.YtdmeackaiamkcaaFmt
/-- The card, under a short name, for the claim. -/
theorem fnFaultText_holds : Rows.FnFaultTextToldSaid := fnFaultText.card
end Go.Proofs.YtdmeackaiamkcaaFmt
