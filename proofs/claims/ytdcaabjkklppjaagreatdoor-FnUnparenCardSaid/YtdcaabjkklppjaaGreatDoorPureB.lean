/- spec.fewNodes ends. -/
import Derived.Test.YtdcaabjkklppjaaGreatDoorA7
namespace Go.Proofs.YtdcaabjkklppjaaGreatDoor.A
open Go.RowKit Go.Proofs.YtdcaabjkklppjaaGreatDoorW.PrintWords Go.Proofs.YtdcaabjkklppjaaGreatDoorW.PrintLast Go.Proofs.YtdcaabjkklppjaaGreatDoorW.PrintMore
set_option linter.unusedVariables false
set_option linter.unusedSimpArgs false

theorem few_l0 (D K : Nat) (hD : D ≤ 1000) (kids : List S24) (f0 f1 : ByteArray)
    (hf : ∀ (n : S24) (left : Int) (k : Nat), 0 ≤ left → left ≤ 2000 → K ≤ k → ∃ r, spec_fewNodes.f k n.f0 n.f1 n.f2 (D : Int) left = some r ∧ r ≤ left - 1 ∧ -1 ≤ r) (d : Nat) :
    ∀ (x2 : Int) (i k : Nat), x2 + 1 ≤ (d : Int) → -1 ≤ x2 → x2 ≤ 2000 → i + d ≤ 5000 → K + d + 1 ≤ k → ∃ r, spec_fewNodes.l0 k ((D + 1 : Nat) : Int) x2 (i : Int) f0 f1 kids = some r ∧ r ≤ x2 ∧ -1 ≤ r := by
  induction d with
  | zero =>
    intro x2 i k h1 h2 h3 hi hk
    obtain ⟨k, rfl⟩ : ∃ m, k = m + 1 := ⟨k - 1, by omega⟩
    simp only [spec_fewNodes.l0]
    split
    · rw [if_neg (by omega)]; exact ⟨_, rfl, Int.le_refl _, h2⟩
    · exact ⟨_, rfl, Int.le_refl _, h2⟩
  | succ d ih =>
    intro x2 i k h1 h2 h3 hi hk
    obtain ⟨k, rfl⟩ : ∃ m, k = m + 1 := ⟨k - 1, by omega⟩
    simp only [spec_fewNodes.l0]
    by_cases c1 : (i : Int) < (kids.length : Int)
    · rw [if_pos c1]
      by_cases c2 : x2 ≥ 0
      · have hw : wrap64 (((D + 1 : Nat) : Int) - 1) = (D : Int) := by unfold wrap64; omega
        have hw1 : wrap64 ((i : Int) + 1) = ((i + 1 : Nat) : Int) := by unfold wrap64; omega
        obtain ⟨r, hr, hr1, hr2⟩ := hf (rd_T24 kids (i : Int)) x2 k c2 h3 (by omega)
        rw [if_pos c2, if_pos (by omega), hw, hr]
        simp only [Option.bind_some]
        rw [hw1]
        obtain ⟨r', h4, h5, h6⟩ := ih r (i + 1) k (by omega) hr2 (by omega) (by omega) (by omega)
        exact ⟨r', h4, by omega, h6⟩
      · rw [if_neg c2]; exact ⟨_, rfl, Int.le_refl _, h2⟩
    · rw [if_neg c1]; exact ⟨_, rfl, Int.le_refl _, h2⟩

theorem few_total (D : Nat) : D ≤ 1000 → ∀ (n : S24) (left : Int) (k : Nat), 0 ≤ left → left ≤ 2000 → D * 2010 + 1 ≤ k → ∃ r, spec_fewNodes.f k n.f0 n.f1 n.f2 (D : Int) left = some r ∧ r ≤ left - 1 ∧ -1 ≤ r := by
  induction D with
  | zero =>
    intro hD n left k h0 h1 hk
    obtain ⟨k, rfl⟩ : ∃ m, k = m + 1 := ⟨k - 1, by omega⟩
    simp only [spec_fewNodes.f]
    rw [if_pos (by omega)]
    exact ⟨_, rfl, by omega, by omega⟩
  | succ D ih =>
    intro hD n left k h0 h1 hk
    obtain ⟨k, rfl⟩ : ∃ m, k = m + 1 := ⟨k - 1, by omega⟩
    have hw : wrap64 (left - 1) = left - 1 := by unfold wrap64; omega
    have hk2 : D * 2010 + 1 + 2001 + 1 ≤ k := by omega
    obtain ⟨K, hK⟩ : ∃ K, K = D * 2010 + 1 := ⟨_, rfl⟩
    rw [← hK] at hk2
    have ih' := ih (by omega)
    rw [← hK] at ih'
    simp only [spec_fewNodes.f]
    rw [if_neg (by omega), hw]
    exact few_l0 D K (by omega) n.f2 n.f0 n.f1 ih' 2001 (left - 1) 0 k (by omega) (by omega) (by omega) (by omega) hk2
end Go.Proofs.YtdcaabjkklppjaaGreatDoor.A
