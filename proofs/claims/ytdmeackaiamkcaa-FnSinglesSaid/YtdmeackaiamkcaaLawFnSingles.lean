/- FnSingles holds: the call returns true, and the argument reads behind it as before. -/
import Derived.Test.YtdmeackaiamkcaaRows
import Derived.Test.YtdmeackaiamkcaaA7
import Derived.Test.YtdmeackaiamkcaaGOpen
import Derived.Test.YtdmeackaiamkcaaPureFnSingles
import Derived.WalkKit
import Derived.ProofKit
import Derived.OpenShut
import Derived.ShutString
import Derived.ChangeOld
import Derived.Below
import Derived.SizedLaws
namespace Go.Proofs.Ytdmeackaiamkcaa.fnSingles
open Go.ChangeShapes Go.WideShapes Go.ChangeAt Go.RowKit Go.Proofs.YtdmeackaiamkcaaO Go.Proofs.YtdmeackaiamkcaaW.PrintWords
open Go.ChangeMaps (open_string shut_string)
set_option linter.unusedVariables false
theorem own : ownKnob Try.prog.godebug = none := by kernel_rfl
theorem laidOut : laidOutB Try.prog = true := by kernel_rfl

theorem opensE (W : World) (N : Nat) : Opens Try.prog W (N + 1) 26 A.k26 A.ok26 :=
  Opens.iso (opens_struct Try.underlying26 (by kernel_rfl) (opensFs_cons rfl (by kernel_rfl) (opens_string Try.underlying9) (opensFs_cons rfl (by kernel_rfl) (opens_int Try.underlying2) (opensFs_cons rfl (by kernel_rfl) (opens_int Try.underlying2) (opensFs_one rfl (by kernel_rfl) (opens_string Try.underlying9)))))) _ (fun x => ⟨x.1, x.2.1, x.2.2.1, x.2.2.2⟩) (fun _ => rfl)

set_option maxRecDepth 100000 in
theorem lifted (os : Os) (started : os.Started) (H : Type) (enc : TypeId × Value → H) :
    ReturnsInHanded {} Try.checked os 6 .any (Rows.fnSinglesSpec.pre6 enc Try.prog Try.f6 Rows.fnSinglesRow.domain false) (Rows.fnSinglesSpec.post enc Try.prog Try.f6 false true false false) := by
  refine returnsInHanded_of_change_sized (C := Try.checked) own started (by kernel_rfl) Try.func6
    (ChangeSpec.witness6 (enc := enc) (C := Try.checked) false ⟨#[], #[.slice none 0 0], []⟩ 8 (by kernel_rfl) (by kernel_rfl) (by kernel_rfl) (by kernel_rfl)) ?_
  intro W base args ds gs before hval0 hW hcnd hsz0 _
  have hsz : (DataW.weightsEach Try.prog (Try.f6.params.toList ++ Rows.fnSinglesSpec.plain.varTypes Try.prog) (ds ++ gs)).all (· ≤ reachBytes) = true := hsz0
  have hval : ∀ (j : Nat) t v, Try.f6.params[j]? = some t → args[j]? = some v → Value.okWide Try.prog W .any base t v := hval0
  have hW' := hW
  obtain ⟨p, q, hA0, hV, rfl, hfz, hnd⟩ := hW
  have hA : DataW.TrodAll enc Try.prog W 0 (fun _ => true) true Try.f6.params.toList args.toList ds p := hA0
  rw [Try.params6] at hA hval hsz
  obtain ⟨v0, vs0, d0, ds0, p0, q0, hargs, rfl, rfl, h0, r0⟩ := trodAll_cons hA
  obtain ⟨rfl, rfl, rfl⟩ := trodAll_nil r0
  obtain rfl : args = #[v0] := by cases args; simp_all
  obtain ⟨rfl, rfl⟩ := trodVars_none hV
  obtain ⟨a0, len0, cap0, rfl⟩ := okWide_slice Try.underlying22 (hval 0 22 v0 rfl rfl)
  have k0 := h0
  have lt0 : ∀ x ∈ p0, x.block < W.heap.size := by obtain ⟨m, hm⟩ := k0; exact DataW.trod_lt m _ _ _ hm
  have y0 : len0 * 48 ≤ 140737488351232 := reach_slice hsz (j := 0) (t := 22) rfl rfl Try.underlying22 (by kernel_rfl) h0
  obtain ⟨l0, rfl, hc0, hm0, hr0, hok0⟩ : ∃ l0 : List A.S26, len0 = l0.length ∧ l0.length ≤ cap0 ∧ cap0 ≤ maxLen ∧ Kd.C A.k26 W a0 l0.length l0 ∧ ∀ x ∈ l0, A.ok26 x := by
    obtain ⟨fuel, hf⟩ := h0
    obtain ⟨A0, c, l, hcs, h1, h2, h3, h4⟩ := opens_row Try.underlying22 (by kernel_rfl) (opensE W fuel) (Nat.lt_succ_of_lt (Nat.lt_succ_self _)) hf
    simp [Value.cells] at hcs
    obtain ⟨rfl, rfl, rfl⟩ := hcs
    exact ⟨l, rfl, h1, h2, h3, h4⟩
  clear hA0 hval0 hsz0 hsz
  obtain ⟨k, hk⟩ := A.pure_FnSingles l0 (Nat.le_trans hc0 hm0) y0 hok0
  refine (A.laws_FnSingles.calls k a0 cap0 l0 true W hr0 hc0 hk).mono fun e W' ⟨he, bel⟩ => ?_
  subst he
  exact ⟨_, rfl, _, _, _, [], _, [], hW', trodAll_mk1 (shut_bool Try.underlying4 _), (trodAll_cons_mk (Below.trod laidOut (by kernel_rfl) (of_decide_eq_true (by kernel_rfl)) k0 bel lt0) trodAll_mk0), rfl, bel.frame _, fun h => by cases h⟩
theorem over : Rows.fnSinglesRow.holds Try.pinned (OpenSpec.ofChange Rows.fnSinglesSpec) :=
  OpenClaim.holds_of_wide 6 Try.f6 rfl rfl rfl rfl rfl rfl rfl ⟨rfl, rfl, rfl, rfl, rfl⟩ rfl rfl rfl rfl rfl (by kernel_rfl) Try.func6 (by kernel_rfl)
    (of_decide_eq_true (by kernel_rfl)) (by unfold Func.isWrapper; first | (rw [if_pos (by decide +kernel)]; kernel_rfl) | (rw [if_neg (by decide +kernel)]; exact ⟨rfl, rfl⟩))
    (fun os started H enc _ => lifted os started H enc)
theorem proved : Rows.FnSinglesSaid := over
#print axioms proved
end Go.Proofs.Ytdmeackaiamkcaa.fnSingles
namespace Go.Proofs.Ytdmeackaiamkcaa
/-- The row, under a short name, for the claim. -/
theorem fnSingles_holds : Rows.FnSinglesSaid := fnSingles.proved
end Go.Proofs.Ytdmeackaiamkcaa
