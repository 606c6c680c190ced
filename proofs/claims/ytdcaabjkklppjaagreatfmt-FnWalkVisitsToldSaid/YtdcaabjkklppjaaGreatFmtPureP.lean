/- The law of FnWalkVisits. -/
import Derived.Test.YtdcaabjkklppjaaGreatFmtPureK
import Derived.Test.YtdcaabjkklppjaaGreatFmtA12
namespace Go.Proofs.YtdcaabjkklppjaaGreatFmt.A
open Go.RowKit Go.Proofs.YtdcaabjkklppjaaGreatFmtW.PrintWords Go.Proofs.YtdcaabjkklppjaaGreatFmtW.PrintLast Go.Proofs.YtdcaabjkklppjaaGreatFmtW.PrintMore
set_option linter.unusedVariables false
set_option linter.unusedSimpArgs false

theorem insp_pos2 (skip : ByteArray) (D : Nat) (n : S24) (d : Int) : 0 < (inspL skip (D + 1) d n).length := by rw [inspL, List.length_cons]; omega
theorem fnWalkVisits_law (a0 a1 : ByteArray) (l2 : List S24) (a3 : ByteArray) (hT : TextOk 12 ⟨a0, a1, l2⟩) (hy : a3.size ≤ maxLen) : ∃ k, laws_FnWalkVisits.f k a0 a1 l2 a3 = some true := by
  obtain ⟨k, hk⟩ : ∃ k, k = 200000 := ⟨_, rfl⟩
  refine ⟨k + 2, ?_⟩
  obtain ⟨z, hz⟩ := fits_some a0 a1 l2
  obtain ⟨b, hb, hB⟩ := isTree a0 a1 l2 hT
  unfold laws_FnWalkVisits.f
  rw [hz]
  simp only [Option.bind_some]
  have hj1 : ∀ x, (x = false → b = true) → laws_FnWalkVisits.j1 (k + 1) a3 x a0 a1 l2 = some true := by
    intro x hx
    rw [laws_FnWalkVisits.j1]
    cases x with
    | true => rw [if_pos rfl]
    | false =>
      obtain ⟨hg, hd, hc⟩ := hB (hx rfl)
      have hl2 := insp_len a3 12 ⟨a0, a1, l2⟩ 0
      have hp : 0 < (inspL a3 12 0 ⟨a0, a1, l2⟩).length := insp_pos2 a3 11 ⟨a0, a1, l2⟩ 0
      have hwk : impl_Walked.f a0 a1 l2 a3 = some (inspL a3 12 0 ⟨a0, a1, l2⟩) := by
        unfold impl_Walked.f
        rw [if_pos ⟨hg, by omega⟩]
      rw [if_neg (by decide), hwk]
      simp only [Option.bind_some]
      rw [if_pos (show ((inspL a3 12 0 ⟨a0, a1, l2⟩).length : Int) > 0 by omega), inspected_some hg hc]
      simp only [Option.bind_some]
      rw [same_refl _ (by omega) k (by omega)]
      rfl
  have hj0 : ∀ x, laws_FnWalkVisits.j0 (k + 2) a3 x a0 a1 l2 = some true := by
    intro x
    rw [laws_FnWalkVisits.j0]
    cases x with
    | true => rw [if_pos rfl]
    | false =>
      rw [if_neg (by decide), hb (k + 1) (by omega)]
      simp only [Option.bind_some]
      cases hbb : b with
      | false =>
        rw [if_neg (by decide)]
        exact hj1 true (fun h => by cases h)
      | true =>
        rw [if_pos rfl]
        exact hj1 _ (fun _ => hbb)
  cases z with
  | false => rw [if_neg (by decide)]; exact hj0 _
  | true => rw [if_pos rfl]; exact hj0 _
end Go.Proofs.YtdcaabjkklppjaaGreatFmt.A
