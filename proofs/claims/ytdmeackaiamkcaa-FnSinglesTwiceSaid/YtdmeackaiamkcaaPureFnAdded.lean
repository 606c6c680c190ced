import Derived.Test.YtdmeackaiamkcaaA4
import Derived.Test.YtdmeackaiamkcaaPure
namespace Go.Proofs.Ytdmeackaiamkcaa.A
open Go.RowKit Go.Proofs.YtdmeackaiamkcaaW.PrintWords Go.Proofs.YtdmeackaiamkcaaW.PrintLast Go.Proofs.YtdmeackaiamkcaaW.PrintMore
set_option linter.unusedVariables false

theorem same_l0 (l : List S26) (hl : l.length ≤ maxLen) (d : Nat) : ∀ (k : Nat) (i : Int), 0 ≤ i → i ≤ (l.length : Int) → (l.length : Int) - i = d → d < k → laws_sameFaults9.l0 k l l (l.length : Int) i = some true := by
  induction d with
  | zero =>
    intro k i h0 h1 hd hk
    obtain ⟨k, rfl⟩ : ∃ m, k = m + 1 := ⟨k - 1, by omega⟩
    simp only [laws_sameFaults9.l0]
    rw [if_neg (by omega)]
  | succ d ih =>
    intro k i h0 h1 hd hk
    obtain ⟨k, rfl⟩ : ∃ m, k = m + 1 := ⟨k - 1, by omega⟩
    simp only [laws_sameFaults9.l0]
    rw [if_pos (by omega), if_pos h0, if_pos (by omega), if_pos (by omega)]
    simp only [beq_self_eq_true, Bool.not_true, Bool.or_false, Bool.false_eq_true, if_false]
    rw [wrap_next h0 (by omega) hl]
    exact ih k (i + 1) (by omega) (by omega) (by omega) (by omega)

theorem same_refl (l : List S26) (hl : l.length ≤ maxLen) (k : Nat) (hk : l.length < k) : laws_sameFaults9.f k l l = some true := by
  unfold laws_sameFaults9.f
  rw [if_pos rfl]
  exact same_l0 l hl l.length k 0 (by omega) (by omega) (by omega) hk

theorem pure_FnAdded (l0 : List S26) (hl : l0.length ≤ maxLen) (_ : l0.length * 48 ≤ 140737488351232) (_ : ∀ x ∈ l0, ok26 x) : ∃ k, laws_FnAdded.f k l0 = some true := by
  obtain ⟨b, hb⟩ := zz4_any l0 hl
  obtain ⟨c, hc, hfew⟩ := few_any l0 hl
  refine ⟨l0.length + 2, ?_⟩
  unfold laws_FnAdded.f
  rw [hb _ (by omega), hc _ (by omega)]
  simp only [Option.bind_some]
  cases b with
  | false => rfl
  | true =>
    rw [if_pos rfl]
    cases c with
    | false => rfl
    | true =>
      have h50 := (hfew rfl).1
      have h1 : impl_Added.f l0 = some (l0, (l0.length : Int)) := by unfold impl_Added.f; rw [if_pos h50]
      have h2 : impl_Cleared.f l0 = some ([], 0) := by unfold impl_Cleared.f; rw [if_pos h50]
      have h3 : impl_HasError.f l0 = some (decide (0 < l0.length)) := by unfold impl_HasError.f; rw [if_pos h50]
      rw [if_pos rfl, h1, h2, h3]
      simp only [Option.bind_some]
      rw [same_refl l0 hl _ (by omega)]
      simp only [Option.bind_some]
      by_cases h : 0 < l0.length <;> simp [h]
end Go.Proofs.Ytdmeackaiamkcaa.A
