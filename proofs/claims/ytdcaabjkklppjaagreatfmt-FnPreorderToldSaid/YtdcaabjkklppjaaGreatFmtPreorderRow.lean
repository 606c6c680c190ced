/- FnPreorder's told and tied card holds: for every node with the nodes below it and every number, in every world in which the listed tables read as their initialisers lay them, the law returns true, and the arguments read as before. No condition besides; fmt's text is never reached. -/
import Derived.Test.YtdcaabjkklppjaaGreatFmtLaid
import Derived.Test.YtdcaabjkklppjaaGreatFmtGOpn
import Derived.Test.YtdcaabjkklppjaaGreatFmtPureR
import Derived.ProofKit
import Derived.OpenShut
import Derived.ShutString
import Derived.SizedLaws
import Derived.ChangeOld
import Derived.OpenVars
import Derived.Below
import Derived.Stop.JoinedAt
import Derived.Stop.Texts
import Derived.Stop.JoinedTold
import Derived.Deep.DeepWitnessRef
import Derived.SevenToldTied
import Derived.SevenTiedAt
namespace Go.Proofs.YtdcaabjkklppjaaGreatFmt.fnPreorder
open Go.ChangeShapes Go.WideShapes Go.ChangeAt Go.RowKit Go.Kit Go.Lib Go.Proofs.YtdcaabjkklppjaaGreatFmtO Go.Proofs.YtdcaabjkklppjaaGreatFmtW.PrintWords
open Go.ChangeMaps (open_string shut_string)
open Go.Extern.Stop Go.Stop Go.Extern
set_option linter.unusedVariables false

theorem laidOut : laidOutB Tryz.prog = true := by kernel_rfl
noncomputable abbrev arg0 : Array Value := #[.agg #[.string ⟨#[]⟩, .string ⟨#[]⟩, .slice none 0 0], .int .i64 0]

theorem table {W : World} (h : laidMetH Tryz.prog Rows.fnPreorderRow.laid W) : A.TokTab A.tokS W := by
  rw [show Rows.fnPreorderRow.laid = A.laidList from rfl] at h
  exact A.tabs_of h

theorem witness_row (os : Os) {H : Type} (enc : TypeId × Value → H) :
    (OpenSpec.ofChange Rows.fnPreorderSpec).preRow enc Tryz.prog Tryz.f7 Rows.fnPreorderRow.domain false Rows.fnPreorderRow.laid ((A.laidWorld os).forCall (fun _ _ => 0) ⟨#[], arg0, []⟩).memory arg0 := by
  have hw : (DataW.whole enc Tryz.prog ((A.laidWorld os).forCall (fun _ _ => 0) ⟨#[], arg0, []⟩).memory Tryz.f7.params.toList Rows.fnPreorderSpec.vars false arg0.toList 8).map (fun x => (x.1, x.2.1)) =
      some ([.agg [.lit (.string []), .lit (.string []), .nil], .lit (.int .i64 0)], [Rows.laid_loop_example_pub_g01451_pub_goprinter_go_token_tokens]) := by kernel_rfl
  obtain ⟨⟨x1, x2, x3⟩, hx, hx1⟩ := Option.map_eq_some_iff.1 hw
  simp only [Prod.mk.injEq] at hx1
  obtain ⟨rfl, rfl⟩ := hx1
  exact OpenSpec.preRow_of_cond 8 hx (by kernel_rfl) (fun k hk => by cases hk) (by kernel_rfl) (by rw [show Rows.fnPreorderRow.laid = A.laidList from rfl]; exact A.laid_met os _)

set_option maxRecDepth 100000 in
theorem lifted (os : Os) (started : os.Started) (H : Type) (enc : TypeId × Value → H) :
    ReturnsInTold none {} Tryz.checked os 7 .any Input.okWide ((OpenSpec.ofChange Rows.fnPreorderSpec).preRow enc Tryz.prog Tryz.f7 Rows.fnPreorderRow.domain false Rows.fnPreorderRow.laid) (fun F => ((OpenSpec.ofChange Rows.fnPreorderSpec).at F).post enc Tryz.prog Tryz.f7 false true false false) (aloneAtReturn Tryz.prog) nothingAlways := by
  refine returnsInTold_of_row (C := Tryz.checked) (s := OpenSpec.ofChange Rows.fnPreorderSpec) (by kernel_rfl) A.own started (by kernel_rfl) Tryz.func7
    (OpenSpec.witness_stopped_atRef (enc := enc) (C := Tryz.checked) false (A.laidWorld os) arg0 rfl (by kernel_rfl) (by kernel_rfl) (by kernel_rfl) (witness_row os enc)) ?_
  intro F W base args ds gs before _ hF hval0 hW _ _ _ hL _
  have hval : ∀ (j : Nat) t v, Tryz.f7.params[j]? = some t → args[j]? = some v → Value.okWide Tryz.prog W .any base t v := hval0
  have hW' := hW
  obtain ⟨p, q, hA0, hV, rfl, hfz, hnd⟩ := hW
  have hA : DataW.TrodAll enc Tryz.prog W 0 (fun _ => true) true Tryz.f7.params.toList args.toList ds p := hA0
  rw [Tryz.params7] at hA hval
  obtain ⟨v0, vs0, d0, ds0, p0, q0, hargs, rfl, rfl, h0, r0⟩ := trodAll_cons hA
  obtain ⟨v1, vs1, d1, ds1, p1, q1, rfl, rfl, rfl, h1, r1⟩ := trodAll_cons r0
  obtain ⟨rfl, rfl, rfl⟩ := trodAll_nil r1
  obtain rfl : args = #[v0, v1] := by cases args; simp_all
  obtain ⟨g1, rfl⟩ : ∃ g1, gs = [g1] := by
    obtain ⟨_, _, _, _, d, _, e, _⟩ := trodVars_one hV
    exact ⟨d, e⟩
  have k0 := h0
  have lt0 : ∀ x ∈ p0, x.block < W.heap.size := by obtain ⟨m, hm⟩ := k0; exact DataW.trod_lt m _ _ _ hm
  obtain ⟨n, A0, c0, rfl, hc, hC, hok⟩ := open24 (hval 0 24 v0 rfl rfl) h0
  obtain ⟨a1, rfl, rfl, rfl, w1⟩ := open_int Tryz.underlying3 (hval 1 3 v1 rfl rfl) h1
  clear hA0 hval0
  obtain ⟨k, hk⟩ := A.fnPreorder_law n.f0 n.f1 n.f2 a1 (hok 12) w1
  refine (A.laws_FnPreorder.calls k n.f0 n.f1 A0 c0 n.f2 a1 true W hC hc (table hL) hk).mono fun e W' ⟨he, bel⟩ => ?_
  subst he
  exact ⟨_, rfl, _, _, _, [], _, _, hW', trodAll_mk1 (shut_bool Tryz.underlying4 _), (trodAll_cons_mk (Below.trod laidOut (by kernel_rfl) (of_decide_eq_true (by kernel_rfl)) k0 bel lt0) (trodAll_cons_mk (shut_int Tryz.underlying3 w1) trodAll_mk0)), Below.trodVars laidOut bel (by kernel_rfl) hV, bel.frame _, fun h => by cases h⟩

theorem stops : Tryz.pinned.checked.prog.stops = ["fmt.Sprintf, its operands' methods called"] := by kernel_rfl
theorem stopKnobs : Tryz.pinned.checked.prog.stopKnobs = [] := by kernel_rfl
theorem quiet (os : Os) : Stop.quiet Tryz.pinned.checked.prog os := by
  intro k hk
  rw [stopKnobs] at hk
  cases hk

/-- The card. -/
theorem card : Rows.FnPreorderToldSaid :=
  Claim7.holds_of_told_tied_any_at .later 7 Tryz.f7 "fmt.Sprintf, its operands' methods called" [] [] _ _ _ _ _ (by kernel_rfl) rfl rfl rfl laidOut (by kernel_rfl) rfl ⟨rfl, rfl, rfl, rfl, rfl, rfl, rfl⟩ rfl rfl (by kernel_rfl) (by kernel_rfl) Tryz.func7 (by kernel_rfl)
    (of_decide_eq_true (by kernel_rfl)) (of_decide_eq_true (by kernel_rfl)) stops.symm rfl stopKnobs.symm (by kernel_rfl)
    (by kernel_rfl) (by kernel_rfl) (by kernel_rfl) (by kernel_rfl) (by kernel_rfl) (by kernel_rfl) (by kernel_rfl) (by kernel_rfl) (by kernel_rfl) rfl (by kernel_rfl) rfl rfl
    rfl rfl
    rfl (by kernel_rfl) (by kernel_rfl) (by kernel_rfl) (by decide) (by kernel_rfl) fnPreorder_row_tie
    (OpenClaim.moreEntering_of (by kernel_rfl) (by kernel_rfl) (by kernel_rfl) (by kernel_rfl) (by kernel_rfl) (by kernel_rfl) (by kernel_rfl) (by kernel_rfl) (by kernel_rfl) (by kernel_rfl))
    ⟨_, WideRow.started_initial, quiet _⟩
    (fun os started _ H enc _ => lifted os started H enc)
#print axioms card
end Go.Proofs.YtdcaabjkklppjaaGreatFmt.fnPreorder
namespace Go.Proofs.YtdcaabjkklppjaaGreatFmt
/-- The card, under a short name, for the claim. -/
theorem fnPreorder_holds : Rows.FnPreorderToldSaid := fnPreorder.card
end Go.Proofs.YtdcaabjkklppjaaGreatFmt
