/- The law of FnStack. -/
import Derived.Test.YtdcaabjkklppjaaGreatFmtPureK
import Derived.Test.YtdcaabjkklppjaaGreatFmtA16
namespace Go.Proofs.YtdcaabjkklppjaaGreatFmt.A
open Go.RowKit Go.Proofs.YtdcaabjkklppjaaGreatFmtW.PrintWords Go.Proofs.YtdcaabjkklppjaaGreatFmtW.PrintLast Go.Proofs.YtdcaabjkklppjaaGreatFmtW.PrintMore
set_option linter.unusedVariables false
set_option linter.unusedSimpArgs false

theorem nodesL_pos (a1 : Int) (a2 : Bool) (l : List S29) (h : ¬ (rd_T29 l ((0 : Nat) : Int)).f0.toList = ([] : List UInt8)) : ∀ i, 0 < (nodesL a1 a2 l (i + 1)).length
  | 0 => by
    rw [nodesL, List.length_append]
    unfold nodeL
    rw [if_neg h]
    simp
  | i + 1 => by
    have := nodesL_pos a1 a2 l h i
    rw [nodesL, List.length_append]
    omega
theorem insp_head {S : Nat → ByteArray} (skip : ByteArray) (D : Nat) (n : S24) (d : Int) (hg : Good S (D + 1) n) : ¬ (rd_T29 (inspL skip (D + 1) d n) ((0 : Nat) : Int)).f0.toList = ([] : List UInt8) ∧ 0 < (inspL skip (D + 1) d n).length := by
  rw [inspL]
  exact ⟨hg.kindB_ne.2, by rw [List.length_cons]; omega⟩
theorem fnStack_law (a0 a1 : ByteArray) (l2 : List S24) (a3 : ByteArray) (a4 : Int) (hT : TextOk 12 ⟨a0, a1, l2⟩) (hy : a3.size ≤ maxLen) (hw : (Lit.int .i64 a4).wf = true) : ∃ k, laws_FnStack.f k a0 a1 l2 a3 a4 = some true := by
  obtain ⟨k, hk⟩ : ∃ k, k = 200000 := ⟨_, rfl⟩
  refine ⟨k + 2, ?_⟩
  obtain ⟨z, hz⟩ := fits_some a0 a1 l2
  obtain ⟨b, hb, hB⟩ := isTree a0 a1 l2 hT
  unfold laws_FnStack.f
  rw [hz]
  simp only [Option.bind_some]
  have hj1 : ∀ x, (x = false → b = true ∧ 0 ≤ a4 ∧ a4 ≤ 50) → laws_FnStack.j1 (k + 1) a3 a4 x a0 a1 l2 = some true := by
    intro x hx
    rw [laws_FnStack.j1]
    cases x with
    | true => rw [if_pos rfl]
    | false =>
      obtain ⟨hbt, h0, h50⟩ := hx rfl
      obtain ⟨hg, hd, hc⟩ := hB hbt
      have hl := insp_len a3 12 ⟨a0, a1, l2⟩ 0
      obtain ⟨hh, hp⟩ := insp_head a3 11 ⟨a0, a1, l2⟩ 0 hg
      have hst : impl_Stacked.f a0 a1 l2 a3 a4 = some (stackL a3 ⟨a0, a1, l2⟩ a4, true) := by
        unfold impl_Stacked.f
        rw [if_pos ⟨hg, by omega, h0, h50⟩]
      have hn9 : laws_nodes9.f k (inspL a3 12 0 ⟨a0, a1, l2⟩) a4 false = some (stackL a3 ⟨a0, a1, l2⟩ a4) := by
        unfold laws_nodes9.f stackL
        rw [if_pos (by omega)]
      have hsl : (stackL a3 ⟨a0, a1, l2⟩ a4).length ≤ (inspL a3 12 0 ⟨a0, a1, l2⟩).length := nodesL_len _ _ _ _
      have hsp : 0 < (stackL a3 ⟨a0, a1, l2⟩ a4).length := by
        unfold stackL
        obtain ⟨m, hm⟩ : ∃ m, (inspL a3 12 0 ⟨a0, a1, l2⟩).length = m + 1 := ⟨(inspL a3 12 0 ⟨a0, a1, l2⟩).length - 1, by
          have : 0 < (inspL a3 12 0 ⟨a0, a1, l2⟩).length := hp
          omega⟩
        rw [hm]
        exact nodesL_pos a4 false _ hh m
      rw [if_neg (by decide), hst]
      simp only [Option.bind_some]
      rw [if_pos trivial, if_pos (show ((stackL a3 ⟨a0, a1, l2⟩ a4).length : Int) > 0 by omega), inspected_some hg hc]
      simp only [Option.bind_some]
      rw [hn9]
      simp only [Option.bind_some]
      rw [same_refl _ (by omega) k (by omega)]
      rfl
  have hj0 : ∀ x, laws_FnStack.j0 (k + 2) a3 a4 x a0 a1 l2 = some true := by
    intro x
    rw [laws_FnStack.j0]
    cases x with
    | true => rw [if_pos rfl]
    | false =>
      rw [if_neg (by decide), hb (k + 1) (by omega)]
      simp only [Option.bind_some]
      cases hbb : b with
      | false =>
        rw [if_neg (by decide)]
        exact hj1 true (fun h => by cases h)
      | true =>
        rw [if_pos rfl]
        split
        · exact hj1 true (fun h => by cases h)
        · split
          · exact hj1 true (fun h => by cases h)
          · refine hj1 _ (fun h => ⟨hbb, by omega, ?_⟩)
            have := of_decide_eq_false h
            omega
  cases z with
  | false => rw [if_neg (by decide)]; exact hj0 _
  | true => rw [if_pos rfl]; exact hj0 _
end Go.Proofs.YtdcaabjkklppjaaGreatFmt.A
