/- FnArgsQuoted's told and tied card holds: for every list of texts and both truth values, in every world in which the listed variables read as their initialisers lay them, the law returns true, and the arguments read as before. No condition besides; where the arguments are an error, fmt's text is told by the model's own function, and the law looks at no text of it. -/
import Derived.Test.YtcjiafjahfmdoaaFmtLaid
import Derived.Test.YtcjiafjahfmdoaaFmtGOpn
import Derived.ProofKit
import Derived.OpenShut
import Derived.ShutString
import Derived.SizedLaws
import Derived.ChangeOld
import Derived.OpenVars
import Derived.Below
import Derived.Stop.JoinedAt
import Derived.Stop.Texts
import Derived.Stop.JoinedTold
import Derived.Deep.DeepWitnessRef
import Derived.SevenToldTied
import Derived.SevenTiedAt
namespace Go.Proofs.YtcjiafjahfmdoaaFmt.fnArgsQuoted
open Go.ChangeShapes Go.WideShapes Go.ChangeAt Go.RowKit Go.Kit Go.Lib Go.Proofs.YtcjiafjahfmdoaaFmtW.PrintWords
open Go.ChangeMaps (open_string shut_string)
open Go.Extern.Stop Go.Stop Go.Extern
set_option linter.unusedVariables false

theorem laidOut : laidOutB Tryf.prog = true := by kernel_rfl
noncomputable abbrev arg0 : Array Value := #[.slice none 0 0, .bool false]

theorem table {W : World} (h : laidMetH Tryf.prog Rows.fnArgsQuotedRow.laid W) : A.Tabs W := by
  rw [show Rows.fnArgsQuotedRow.laid = A.laidList from A.laid_eq] at h
  exact A.tabs_of h

theorem witness_row (os : Os) {H : Type} (enc : TypeId × Value → H) :
    (OpenSpec.ofChange Rows.fnArgsQuotedSpec).preRow enc Tryf.prog Tryf.f4 Rows.fnArgsQuotedRow.domain false Rows.fnArgsQuotedRow.laid ((A.laidWorld os).forCall (fun _ _ => 0) ⟨#[], arg0, []⟩).memory arg0 := by
  have hw : (DataW.whole enc Tryf.prog ((A.laidWorld os).forCall (fun _ _ => 0) ⟨#[], arg0, []⟩).memory Tryf.f4.params.toList Rows.fnArgsQuotedSpec.vars false arg0.toList 8).map (fun x => (x.1, x.2.1)) =
      some ([.nil, .lit (.bool false)], []) := by kernel_rfl
  obtain ⟨⟨x1, x2, x3⟩, hx, hx1⟩ := Option.map_eq_some_iff.1 hw
  simp only [Prod.mk.injEq] at hx1
  obtain ⟨rfl, rfl⟩ := hx1
  exact OpenSpec.preRow_of_cond 8 hx (by kernel_rfl) (fun k hk => by cases hk) (by kernel_rfl) (by rw [show Rows.fnArgsQuotedRow.laid = A.laidList from A.laid_eq]; exact A.laid_met os _)

set_option maxRecDepth 100000 in
theorem lifted (os : Os) (started : os.Started) (H : Type) (enc : TypeId × Value → H) :
    ReturnsInTold none {} Tryf.checked os 4 .any Input.okWide ((OpenSpec.ofChange Rows.fnArgsQuotedSpec).preRow enc Tryf.prog Tryf.f4 Rows.fnArgsQuotedRow.domain false Rows.fnArgsQuotedRow.laid) (fun F => ((OpenSpec.ofChange Rows.fnArgsQuotedSpec).at F).post enc Tryf.prog Tryf.f4 false true false false) (aloneAtReturn Tryf.prog) nothingAlways := by
  refine returnsInTold_of_row (C := Tryf.checked) (s := OpenSpec.ofChange Rows.fnArgsQuotedSpec) (by kernel_rfl) A.own started (by kernel_rfl) Tryf.func4
    (OpenSpec.witness_stopped_atRef (enc := enc) (C := Tryf.checked) false (A.laidWorld os) arg0 rfl (by kernel_rfl) (by kernel_rfl) (by kernel_rfl) (witness_row os enc)) ?_
  intro F W base args ds gs before _ hF hval0 hW _ _ _ hL _
  have hval : ∀ (j : Nat) t v, Tryf.f4.params[j]? = some t → args[j]? = some v → Value.okWide Tryf.prog W .any base t v := hval0
  have hW' := hW
  obtain ⟨p, q, hA0, hV, rfl, hfz, hnd⟩ := hW
  have hA : DataW.TrodAll enc Tryf.prog W 0 (fun _ => true) true Tryf.f4.params.toList args.toList ds p := hA0
  rw [Tryf.params4] at hA hval
  obtain ⟨v0, vs0, d0, ds0, p0, q0, hargs, rfl, rfl, h0, r0⟩ := trodAll_cons hA
  obtain ⟨v1, vs1, d1, ds1, p1, q1, rfl, rfl, rfl, h1, r1⟩ := trodAll_cons r0
  obtain ⟨rfl, rfl, rfl⟩ := trodAll_nil r1
  obtain rfl : args = #[v0, v1] := by cases args; simp_all
  obtain ⟨rfl, rfl⟩ := trodVars_none hV
  obtain ⟨a0, len0, cap0, rfl⟩ := okWide_slice Tryf.underlying30 (hval 0 30 v0 rfl rfl)
  obtain ⟨a1, rfl, rfl, rfl⟩ := open_bool Tryf.underlying4 (hval 1 4 v1 rfl rfl) h1
  have k0 := h0
  have lt0 : ∀ x ∈ p0, x.block < W.heap.size := by obtain ⟨m, hm⟩ := k0; exact DataW.trod_lt m _ _ _ hm
  obtain ⟨l0, rfl, hc0, hr0⟩ : ∃ l0 : List ByteArray, len0 = l0.length ∧ l0.length ≤ cap0 ∧ Kd.C Kd.string W a0 l0.length l0 := by
    obtain ⟨fuel, hf⟩ := h0
    obtain ⟨A0, c, l, hcs, h1, h2, h3, h4⟩ := YtcjiafjahfmdoaaFmtO.opens_row Tryf.underlying30 (by kernel_rfl) (YtcjiafjahfmdoaaFmtO.opens_string (N := fuel + 1) Tryf.underlying9) (Nat.lt_succ_of_lt (Nat.lt_succ_self _)) hf
    simp [Value.cells] at hcs
    obtain ⟨rfl, rfl, rfl⟩ := hcs
    exact ⟨l, rfl, h1, h3⟩
  clear hA0 hval0
  obtain ⟨k, hk⟩ := A.fnArgsQuoted_law l0 a1
  refine (A.laws_FnArgsQuoted.calls F k a0 cap0 l0 a1 true W (table hL) hF hr0 hc0 hk).mono fun e W' ⟨he, bel⟩ => ?_
  subst he
  exact ⟨_, rfl, _, _, _, [], _, [], hW', trodAll_mk1 (shut_bool Tryf.underlying4 _), (trodAll_cons_mk (Below.trod laidOut (by kernel_rfl) (of_decide_eq_true (by kernel_rfl)) k0 bel lt0) (trodAll_cons_mk (shut_bool Tryf.underlying4 _) trodAll_mk0)), rfl, bel.frame _, fun h => by cases h⟩

theorem stops : Tryf.pinned.checked.prog.stops = ["fmt.errorf"] := by kernel_rfl
theorem stopKnobs : Tryf.pinned.checked.prog.stopKnobs = [] := by kernel_rfl
theorem quiet (os : Os) : Stop.quiet Tryf.pinned.checked.prog os := by
  intro k hk
  rw [stopKnobs] at hk
  cases hk

/-- The card. -/
theorem card : Rows.FnArgsQuotedToldSaid :=
  Claim7.holds_of_told_tied_any_at .later 4 Tryf.f4 "fmt.errorf" [] [] _ _ _ _ _ (by kernel_rfl) rfl rfl rfl laidOut (by kernel_rfl) rfl ⟨rfl, rfl, rfl, rfl, rfl, rfl, rfl⟩ rfl rfl (by kernel_rfl) (by kernel_rfl) Tryf.func4 (by kernel_rfl)
    (of_decide_eq_true (by kernel_rfl)) (of_decide_eq_true (by kernel_rfl)) stops.symm rfl stopKnobs.symm (by kernel_rfl)
    (by kernel_rfl) (by kernel_rfl) (by kernel_rfl) (by kernel_rfl) (by kernel_rfl) (by kernel_rfl) (by kernel_rfl) (by kernel_rfl) (by kernel_rfl) rfl (by kernel_rfl) rfl rfl
    rfl rfl
    rfl (by kernel_rfl) (by kernel_rfl) (by kernel_rfl) (by decide) (by kernel_rfl) fnArgsQuoted_row_tie
    (OpenClaim.moreEntering_of (by kernel_rfl) (by kernel_rfl) (by kernel_rfl) (by kernel_rfl) (by kernel_rfl) (by kernel_rfl) (by kernel_rfl) (by kernel_rfl) (by kernel_rfl) (by kernel_rfl))
    ⟨_, WideRow.started_initial, quiet _⟩
    (fun os started _ H enc _ => lifted os started H enc)
#print axioms card
end Go.Proofs.YtcjiafjahfmdoaaFmt.fnArgsQuoted
namespace Go.Proofs.YtcjiafjahfmdoaaFmt
/-- The card, under a short name, for the claim. -/
theorem fnArgsQuoted_holds : Rows.FnArgsQuotedToldSaid := fnArgsQuoted.card
end Go.Proofs.YtcjiafjahfmdoaaFmt
