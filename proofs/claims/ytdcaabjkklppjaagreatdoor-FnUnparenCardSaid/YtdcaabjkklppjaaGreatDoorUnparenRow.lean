/- FnUnparen's card holds: for every node with the nodes below it, in every world in which the listed tables read as their initialisers lay them, the law returns true, and the argument reads as before. No condition besides. -/
import Derived.Test.YtdcaabjkklppjaaGreatDoorLaid
import Derived.Test.YtdcaabjkklppjaaGreatDoorGOpn
import Derived.Test.YtdcaabjkklppjaaGreatDoorPureJ
import Derived.ChangeOld
import Derived.OpenVars
import Derived.Below
namespace Go.Proofs.YtdcaabjkklppjaaGreatDoor.fnUnparen
open Go.Shelf
open Go.ChangeShapes Go.WideShapes Go.ChangeAt Go.RowKit Go.Lib Go.Proofs.YtdcaabjkklppjaaGreatDoorO Go.Proofs.YtdcaabjkklppjaaGreatDoorW.PrintWords
set_option linter.unusedVariables false

theorem laidOut : laidOutB Tryz.prog = true := by kernel_rfl

theorem reads (os : Os) {H : Type} (enc : TypeId × Value → H) : ∃ places, DataW.whole enc Tryz.prog ((A.laidWorld os).forCall (fun _ _ => 0) ⟨#[], #[.agg #[.string ⟨#[]⟩, .string ⟨#[]⟩, .slice none 0 0]], []⟩).memory Tryz.f3.params.toList Rows.fnUnparenSpec.vars false #[Value.agg #[.string ⟨#[]⟩, .string ⟨#[]⟩, .slice none 0 0]].toList 8 = some ([.agg [.lit (.string []), .lit (.string []), .nil]], [Rows.laid_loop_example_pub_g01451_pub_goprinter_go_token_tokens], places) := by
  have hw : (DataW.whole enc Tryz.prog ((A.laidWorld os).forCall (fun _ _ => 0) ⟨#[], #[.agg #[.string ⟨#[]⟩, .string ⟨#[]⟩, .slice none 0 0]], []⟩).memory Tryz.f3.params.toList Rows.fnUnparenSpec.vars false #[Value.agg #[.string ⟨#[]⟩, .string ⟨#[]⟩, .slice none 0 0]].toList 8).map (fun x => (x.1, x.2.1)) =
      some ([.agg [.lit (.string []), .lit (.string []), .nil]], [Rows.laid_loop_example_pub_g01451_pub_goprinter_go_token_tokens]) := by kernel_rfl
  obtain ⟨⟨x1, x2, x3⟩, hx, hx1⟩ := Option.map_eq_some_iff.1 hw
  simp only [Prod.mk.injEq] at hx1
  obtain ⟨rfl, rfl⟩ := hx1
  exact ⟨x3, hx⟩

theorem table {W : World} (h : laidMetH Tryz.prog Rows.fnUnparenRow.laid W) : A.TokTab A.tokS W := by
  rw [show Rows.fnUnparenRow.laid = A.laidList from rfl] at h
  exact A.tabs_of h

set_option maxRecDepth 100000 in
theorem contract (H : Type) (enc : TypeId × Value → H) (W : World) (base : Nat) (args : Array Value) (ds gs : List (DataW H)) (before : List MemPlace)
    (hval : ∀ (j : Nat) t v, Tryz.f3.params[j]? = some t → args[j]? = some v → Value.okWide Tryz.prog W .any base t v)
    (hW : DataW.Whole enc Tryz.prog Tryz.f3.params.toList Rows.fnUnparenSpec.vars false W args.toList ds gs before) (hL : laidMetH Tryz.prog Rows.fnUnparenRow.laid W) :
    Calls Tryz.prog 3 args W fun e W' => ∃ v, e = .returned v ∧ Rows.fnUnparenSpec.post enc Tryz.prog Tryz.f3 false true false false W args v W' := by
  have hW' := hW
  obtain ⟨p, q, hA0, hV, rfl, hfz, hnd⟩ := hW
  have hA : DataW.TrodAll enc Tryz.prog W 0 (fun _ => true) true Tryz.f3.params.toList args.toList ds p := hA0
  rw [Tryz.params3] at hA hval
  obtain ⟨v0, vs0, d0, ds0, p0, q0, hargs, rfl, rfl, h0, r0⟩ := trodAll_cons hA
  obtain ⟨rfl, rfl, rfl⟩ := trodAll_nil r0
  obtain rfl : args = #[v0] := by cases args; simp_all
  obtain ⟨g1, rfl⟩ : ∃ g1, gs = [g1] := by
    obtain ⟨_, _, _, _, d, _, e, _⟩ := trodVars_one hV
    exact ⟨d, e⟩
  have k0 := h0
  have lt0 : ∀ x ∈ p0, x.block < W.heap.size := by obtain ⟨m, hm⟩ := k0; exact DataW.trod_lt m _ _ _ hm
  obtain ⟨n, A0, c0, rfl, hc, hC, hok⟩ := open24 (hval 0 24 v0 rfl rfl) h0
  clear hA0
  obtain ⟨k, hk⟩ := A.fnUnparen_law n.f0 n.f1 n.f2 (hok 12)
  refine (A.laws_FnUnparen.calls k n.f0 n.f1 A0 c0 n.f2 true W hC hc (table hL) hk).mono fun e W' ⟨he, bel⟩ => ?_
  subst he
  exact ⟨_, rfl, _, _, _, [], _, _, hW', trodAll_mk1 (shut_bool Tryz.underlying4 _), (trodAll_cons_mk (Below.trod laidOut (by kernel_rfl) (of_decide_eq_true (by kernel_rfl)) k0 bel lt0) trodAll_mk0), Below.trodVars laidOut bel (by kernel_rfl) hV, bel.frame _, fun h => by cases h⟩

set_option maxRecDepth 100000 in
theorem lifted (os : Os) (started : os.Started) (H : Type) (enc : TypeId × Value → H) (F : Stop.Interp) :
    ReturnsInHanded {} Tryz.checked os 3 .any ((OpenSpec.ofChange Rows.fnUnparenSpec).preRow enc Tryz.prog Tryz.f3 Rows.fnUnparenRow.domain false Rows.fnUnparenRow.laid) (((OpenSpec.ofChange Rows.fnUnparenSpec).at F).post enc Tryz.prog Tryz.f3 false true false false) := by
  obtain ⟨places, hx⟩ := reads os enc
  refine returnsInHanded_of_row (C := Tryz.checked) (s := OpenSpec.ofChange Rows.fnUnparenSpec) A.own started (by kernel_rfl) Tryz.func3
    (witness_row_atRef (enc := enc) (C := Tryz.checked) false (A.laidWorld os) #[.agg #[.string ⟨#[]⟩, .string ⟨#[]⟩, .slice none 0 0]] rfl (by kernel_rfl) (by kernel_rfl) (by kernel_rfl)
      (OpenSpec.preRow_of_cond 8 hx (by kernel_rfl) (fun k hk => by cases hk) (by kernel_rfl) (by rw [show Rows.fnUnparenRow.laid = A.laidList from rfl]; exact A.laid_met os _))) ?_
  intro W base args ds gs before hval hW _ _ _ hL _ _
  exact contract H enc W base args ds gs before hval hW hL

theorem said : Rows.FnUnparenSaid :=
  OpenClaim.holds_of_cond 3 Tryz.f3 rfl rfl rfl rfl rfl rfl rfl ⟨rfl, rfl, rfl, rfl, rfl⟩ rfl rfl rfl rfl rfl (by kernel_rfl) Tryz.func3 (by kernel_rfl)
    (of_decide_eq_true (by kernel_rfl)) (by unfold Func.isWrapper; first | (rw [if_pos (by decide +kernel)]; kernel_rfl) | (rw [if_neg (by decide +kernel)]; exact ⟨rfl, rfl⟩))
    (fun os started H enc _ F => by rw [OpenClaim.pre_eq_preRow]; exact lifted os started H enc F)

theorem plain (f : FuncId) (fn : Func) (hf : Tryz.pinned.checked.prog.funcNamed "loop.example/pub-g01451/laws.FnUnparen" = some f) (hfn : Tryz.pinned.checked.prog.funcs[f]? = some fn) :
    true = Tryz.pinned.checked.prog.looks [] ∧ ∀ (j : Nat) t, fn.params[j]? = some t → Tryz.pinned.checked.prog.wantsStandIn t = false := by
  obtain rfl : f = 3 := Option.some.inj ((show Tryz.prog.funcNamed "loop.example/pub-g01451/laws.FnUnparen" = some 3 by kernel_rfl).symm.trans hf) |>.symm
  obtain rfl : fn = Tryz.f3 := (Option.some.inj (Tryz.func3.symm.trans hfn)).symm
  refine ⟨by kernel_rfl, fun j t ht => ?_⟩
  rw [Tryz.params3] at ht
  match j, ht with
  | 0, ht => obtain rfl : 24 = t := by simpa using ht
             exact (show Tryz.prog.wantsStandIn 24 = false by kernel_rfl)
  | j + 1, ht => simp at ht

/-- The card. -/
theorem card : Rows.FnUnparenCardSaid :=
  Claim7.holds_tied_plain_at .later [] _ _ _ _ said (fun _ h => by cases h) (by kernel_rfl) (fun _ h => by cases h) fnUnparen_row_tie rfl ⟨rfl, rfl⟩ (by kernel_rfl) rfl plain (by kernel_rfl)
#print axioms card
end Go.Proofs.YtdcaabjkklppjaaGreatDoor.fnUnparen
namespace Go.Proofs.YtdcaabjkklppjaaGreatDoor
/-- The card, under a short name, for the claim. -/
theorem fnUnparen_holds : Rows.FnUnparenCardSaid := fnUnparen.card
end Go.Proofs.YtdcaabjkklppjaaGreatDoor
