/- The law of FnInspectVisits. -/
import Derived.Test.YtdcaabjkklppjaaGreatFmtPureK
import Derived.Test.YtdcaabjkklppjaaGreatFmtA7
namespace Go.Proofs.YtdcaabjkklppjaaGreatFmt.A
open Go.RowKit Go.Proofs.YtdcaabjkklppjaaGreatFmtW.PrintWords Go.Proofs.YtdcaabjkklppjaaGreatFmtW.PrintLast Go.Proofs.YtdcaabjkklppjaaGreatFmtW.PrintMore
set_option linter.unusedVariables false
set_option linter.unusedSimpArgs false

theorem fnInspectVisits_law (a0 a1 : ByteArray) (l2 : List S24) (hT : TextOk 12 ⟨a0, a1, l2⟩) : ∃ k, laws_FnInspectVisits.f k a0 a1 l2 = some true := by
  obtain ⟨k, hk⟩ : ∃ k, k = 100000 := ⟨_, rfl⟩
  refine ⟨k, ?_⟩
  obtain ⟨z, hz⟩ := fits_some a0 a1 l2
  obtain ⟨b, hb, hB⟩ := isTree a0 a1 l2 hT
  unfold laws_FnInspectVisits.f
  rw [hz]
  simp only [Option.bind_some]
  cases z with
  | false => rw [if_neg (by decide)]
  | true =>
    rw [if_pos rfl, hb k (by omega)]
    simp only [Option.bind_some]
    cases b with
    | false => rw [if_neg (by decide)]
    | true =>
      obtain ⟨hg, hd, hc⟩ := hB rfl
      have hv : spec_Visits.f a0 a1 l2 = some (visL 12 0 ⟨a0, a1, l2⟩) := by
        unfold spec_Visits.f
        rw [if_pos ⟨hd, by omega⟩]
      have hl := insp_len bNone 12 ⟨a0, a1, l2⟩ 0
      rw [if_pos rfl, inspected_some hg hc, hv]
      simp only [Option.bind_some]
      rw [insp_vis 0 hg hd] at hl ⊢
      rw [same_refl _ (by omega) k (by omega)]
      rfl
end Go.Proofs.YtdcaabjkklppjaaGreatFmt.A
