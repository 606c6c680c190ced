import Derived.Test.YtdmeackaiamkcaaA3
import Derived.Test.YtdmeackaiamkcaaPure
namespace Go.Proofs.Ytdmeackaiamkcaa.A
open Go.RowKit Go.Proofs.YtdmeackaiamkcaaW.PrintWords Go.Proofs.YtdmeackaiamkcaaW.PrintLast Go.Proofs.YtdmeackaiamkcaaW.PrintMore
set_option linter.unusedVariables false

theorem less_j0_true (k : Nat) (l : List S26) (a b : Int) : laws_FnLess.j0 (k + 1) l a b true = some true := by
  simp [laws_FnLess.j0]

theorem less_j0_false (k : Nat) (l : List S26) (a b : Int) (hl : l.length ≤ 50) (h0 : 0 ≤ a) (h1 : a < l.length) (h2 : 0 ≤ b) (h3 : b < l.length) : laws_FnLess.j0 (k + 2) l a b false = some true := by
  simp only [laws_FnLess.j0]
  rw [if_neg (by decide), if_pos h0, if_pos h1, if_pos h2, if_pos h3, before_pos, before_pos]
  simp only [Option.bind_some]
  have hf : ∀ c, impl_IsLess.f l a b c = some (if c = true then lessB (rd_T26 l b) (rd_T26 l a) else lessB (rd_T26 l a) (rd_T26 l b)) := by
    intro c
    unfold impl_IsLess.f
    rw [if_pos ⟨hl, h0, h1, h2, h3⟩]
  generalize rd_T26 l a = x at *
  generalize rd_T26 l b = y at *
  by_cases hs : x.f0.toList = y.f0.toList ∧ x.f1 = y.f1 ∧ x.f2 = y.f2
  · rw [pos_same hs, pos_same ⟨hs.1.symm, hs.2.1.symm, hs.2.2.symm⟩]
    simp [laws_FnLess.j1]
  · have hs' : ¬ (y.f0.toList = x.f0.toList ∧ y.f1 = x.f1 ∧ y.f2 = x.f2) := fun h => hs ⟨h.1.symm, h.2.1.symm, h.2.2.symm⟩
    simp only [laws_FnLess.j1, hf, less_pos hs, less_pos hs']
    cases posB x y <;> cases posB y x <;> simp

theorem pure_FnLess (l0 : List S26) (a1 a2 : Int) (hl : l0.length ≤ maxLen) (_ : l0.length * 48 ≤ 140737488351232) (_ : ∀ x ∈ l0, ok26 x) : ∃ k, laws_FnLess.f k l0 a1 a2 = some true := by
  obtain ⟨b, hb⟩ := zz4_any l0 hl
  obtain ⟨c, hc, hfew⟩ := few_any l0 hl
  refine ⟨l0.length + 2, ?_⟩
  unfold laws_FnLess.f
  rw [hb _ (by omega), hc _ (by omega)]
  simp only [Option.bind_some]
  cases b with
  | false => rfl
  | true =>
    rw [if_pos rfl]
    cases c with
    | false =>
      rw [if_neg (by decide)]
      exact less_j0_true (l0.length + 1) l0 a1 a2
    | true =>
      rw [if_pos rfl]
      split
      · exact less_j0_true (l0.length + 1) l0 a1 a2
      · split
        · exact less_j0_true (l0.length + 1) l0 a1 a2
        · split
          · exact less_j0_true (l0.length + 1) l0 a1 a2
          · by_cases h : a2 ≥ (l0.length : Int)
            · rw [decide_eq_true h]
              exact less_j0_true (l0.length + 1) l0 a1 a2
            · rw [decide_eq_false h]
              exact less_j0_false l0.length l0 a1 a2 (hfew rfl).1 (by omega) (by omega) (by omega) (by omega)
end Go.Proofs.Ytdmeackaiamkcaa.A
