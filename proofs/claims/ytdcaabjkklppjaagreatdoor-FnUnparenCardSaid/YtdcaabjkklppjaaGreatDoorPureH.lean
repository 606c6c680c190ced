/- spec.areExprTrees over a short list. -/
import Derived.Test.YtdcaabjkklppjaaGreatDoorPureG
import Derived.Test.YtdcaabjkklppjaaGreatDoorPureD
namespace Go.Proofs.YtdcaabjkklppjaaGreatDoor.A
open Go.RowKit Go.Proofs.YtdcaabjkklppjaaGreatDoorW.PrintWords Go.Proofs.YtdcaabjkklppjaaGreatDoorW.PrintLast Go.Proofs.YtdcaabjkklppjaaGreatDoorW.PrintMore
set_option linter.unusedVariables false
set_option linter.unusedSimpArgs false

/-- The texts of a tree, so deep, are texts that Go has. -/
def TextOk : Nat → S24 → Prop
  | 0, _ => True
  | D + 1, n => n.f1.size ≤ 9223372036854775807 ∧ ∀ i : Nat, i < n.f2.length → TextOk D (rd_T24 n.f2 (i : Int))
/-- What is told of trees at a depth, with so many rounds. -/
def Told (D K : Nat) : Prop := ∀ x : S24, Small D x → TextOk D x → ∃ b, (∀ k, K ≤ k → spec_isExprTree.f k x.f0 x.f1 x.f2 (D : Int) = some b) ∧ (b = true → Good tokS D x)

theorem are_l0 (D K : Nat) (IH : Told D K) (L : List S24) (hL : L.length ≤ 2000) (hS : ∀ i : Nat, i < L.length → Small D (rd_T24 L (i : Int))) (hT : ∀ i : Nat, i < L.length → TextOk D (rd_T24 L (i : Int))) (a1 a2 : Int) (d : Nat) :
    ∀ (i : Nat), L.length - i = d → i ≤ L.length → ∃ b, (∀ k, K + d + 1 ≤ k → spec_areExprTrees.l0 k L a1 a2 (D : Int) L (L.length : Int) (i : Int) = some b) ∧ (b = true → a1 ≤ (L.length : Int) ∧ (L.length : Int) ≤ a2 ∧ ∀ j : Nat, i ≤ j → j < L.length → Good tokS D (rd_T24 L (j : Int))) := by
  induction d with
  | zero =>
    intro i hd hi
    by_cases c : (L.length : Int) ≥ a1
    · refine ⟨decide ((L.length : Int) ≤ a2), fun k hk => ?_, fun h => ⟨c, of_decide_eq_true h, fun j h1 h2 => absurd h2 (by omega)⟩⟩
      obtain ⟨k, rfl⟩ : ∃ m, k = m + 1 := ⟨k - 1, by omega⟩
      simp only [spec_areExprTrees.l0]
      rw [if_neg (by omega), if_pos c]
    · refine ⟨false, fun k hk => ?_, fun h => by cases h⟩
      obtain ⟨k, rfl⟩ : ∃ m, k = m + 1 := ⟨k - 1, by omega⟩
      simp only [spec_areExprTrees.l0]
      rw [if_neg (by omega), if_neg c]
  | succ d ih =>
    intro i hd hi
    have hlt : i < L.length := by omega
    have hw : wrap64 ((i : Int) + 1) = ((i + 1 : Nat) : Int) := by unfold wrap64; omega
    obtain ⟨b, hb, hg⟩ := IH _ (hS i hlt) (hT i hlt)
    cases b with
    | false =>
      refine ⟨false, fun k hk => ?_, fun h => by cases h⟩
      obtain ⟨k, rfl⟩ : ∃ m, k = m + 1 := ⟨k - 1, by omega⟩
      simp only [spec_areExprTrees.l0]
      rw [if_pos (by omega), if_pos (by omega), if_pos (by omega), hb k (by omega)]
      simp only [Option.bind_some]
      rw [if_neg (by decide)]
    | true =>
      obtain ⟨b', hb', hg'⟩ := ih (i + 1) (by omega) (by omega)
      refine ⟨b', fun k hk => ?_, fun h => ?_⟩
      · obtain ⟨k, rfl⟩ : ∃ m, k = m + 1 := ⟨k - 1, by omega⟩
        simp only [spec_areExprTrees.l0]
        rw [if_pos (by omega), if_pos (by omega), if_pos (by omega), hb k (by omega)]
        simp only [Option.bind_some]
        rw [if_pos trivial, hw]
        exact hb' k (by omega)
      · obtain ⟨h1, h2, h3⟩ := hg' h
        refine ⟨h1, h2, fun j h4 h5 => ?_⟩
        by_cases hj : j = i
        · rw [hj]; exact hg rfl
        · exact h3 j (by omega) h5
end Go.Proofs.YtdcaabjkklppjaaGreatDoor.A
