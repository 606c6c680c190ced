/- The law of FnUnparen. -/
import Derived.Test.YtdcaabjkklppjaaGreatDoorPureI
namespace Go.Proofs.YtdcaabjkklppjaaGreatDoor.A
open Go.RowKit Go.Proofs.YtdcaabjkklppjaaGreatDoorW.PrintWords Go.Proofs.YtdcaabjkklppjaaGreatDoorW.PrintLast Go.Proofs.YtdcaabjkklppjaaGreatDoorW.PrintMore
set_option linter.unusedVariables false
set_option linter.unusedSimpArgs false

theorem tree_all (D : Nat) : D ≤ 100 → ∃ K, K ≤ D * 2300 + 1 ∧ Told D K := by
  induction D with
  | zero => exact fun _ => ⟨1, by omega, fun x hS _ => hS.elim⟩
  | succ D ih =>
    intro hD
    obtain ⟨K, hK, h⟩ := ih (by omega)
    exact ⟨K + 2300, by omega, tree_told D K (by omega) h⟩

theorem fnUnparen_law (a0 a1 : ByteArray) (l2 : List S24) (hT : TextOk 12 ⟨a0, a1, l2⟩) : ∃ k, laws_FnUnparen.f k a0 a1 l2 = some true := by
  obtain ⟨K, hK, told⟩ := tree_all 12 (by decide)
  obtain ⟨k, hk⟩ : ∃ k, k = 100000 := ⟨_, rfl⟩
  refine ⟨k, ?_⟩
  unfold laws_FnUnparen.f
  obtain ⟨z, hz⟩ : ∃ z, laws_zzFits10.f a0 a1 l2 = some z := by
    unfold laws_zzFits10.f
    split
    · exact ⟨_, rfl⟩
    · split
      · exact ⟨_, rfl⟩
      · split <;> exact ⟨_, rfl⟩
  rw [hz]
  simp only [Option.bind_some]
  cases z with
  | false => rw [if_neg (by decide)]
  | true =>
    rw [if_pos rfl]
    obtain ⟨r, hr, _, _⟩ := few_total 12 (by decide) ⟨a0, a1, l2⟩ 2000 k (by decide) (by decide) (by omega)
    have hr' : spec_fewNodes.f k a0 a1 l2 12 2000 = some r := hr
    unfold spec_IsExprTree.f
    rw [hr']
    simp only [Option.bind_some]
    by_cases c : r ≥ 0
    · rw [if_pos c]
      obtain ⟨hS, _⟩ := few_small 12 (by decide) ⟨a0, a1, l2⟩ 2000 r k (by decide) (by decide) hr c
      obtain ⟨b, hb, hg⟩ := told _ hS hT
      have hb' : spec_isExprTree.f k a0 a1 l2 12 = some b := hb k (by omega)
      rw [hb']
      simp only [Option.bind_some]
      cases b with
      | false => rw [if_neg (by decide)]
      | true =>
        have G := hg rfl
        have hu : impl_Unparened.f a0 a1 l2 = some ((parens 12 ⟨a0, a1, l2⟩ : Int), true) := by
          unfold impl_Unparened.f
          rw [if_pos G]
        have hp : spec_Parens.f k a0 a1 l2 = some ((parens 12 ⟨a0, a1, l2⟩ : Nat) : Int) := by
          have := parens_l0 tokS 12 ⟨a0, a1, l2⟩ 0 k G (by omega) (by decide)
          rw [Nat.zero_add] at this
          exact this
        rw [if_pos rfl, hu]
        simp only [Option.bind_some]
        rw [if_pos trivial, hp]
        simp
    · rw [if_neg c]
      simp
end Go.Proofs.YtdcaabjkklppjaaGreatDoor.A
