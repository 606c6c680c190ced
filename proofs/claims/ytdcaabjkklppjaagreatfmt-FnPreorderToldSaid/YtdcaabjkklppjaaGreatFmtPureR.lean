/- The law of FnPreorder. -/
import Derived.Test.YtdcaabjkklppjaaGreatFmtPureK
import Derived.Test.YtdcaabjkklppjaaGreatFmtA14
namespace Go.Proofs.YtdcaabjkklppjaaGreatFmt.A
open Go.RowKit Go.Proofs.YtdcaabjkklppjaaGreatFmtW.PrintWords Go.Proofs.YtdcaabjkklppjaaGreatFmtW.PrintLast Go.Proofs.YtdcaabjkklppjaaGreatFmtW.PrintMore
set_option linter.unusedVariables false
set_option linter.unusedSimpArgs false

theorem nodesL_posP (a1 : Int) (a2 : Bool) (l : List S29) (h : ¬ (rd_T29 l ((0 : Nat) : Int)).f0.toList = ([] : List UInt8)) : ∀ i, 0 < (nodesL a1 a2 l (i + 1)).length
  | 0 => by
    rw [nodesL, List.length_append]
    unfold nodeL
    rw [if_neg h]
    simp
  | i + 1 => by
    have := nodesL_posP a1 a2 l h i
    rw [nodesL, List.length_append]
    omega
theorem insp_headP {S : Nat → ByteArray} (skip : ByteArray) (D : Nat) (n : S24) (d : Int) (hg : Good S (D + 1) n) : ¬ (rd_T29 (inspL skip (D + 1) d n) ((0 : Nat) : Int)).f0.toList = ([] : List UInt8) ∧ 0 < (inspL skip (D + 1) d n).length := by
  rw [inspL]
  exact ⟨hg.kindB_ne.2, by rw [List.length_cons]; omega⟩
theorem fnPreorder_law (a0 a1 : ByteArray) (l2 : List S24) (a3 : Int) (hT : TextOk 12 ⟨a0, a1, l2⟩) (hw : (Lit.int .i64 a3).wf = true) : ∃ k, laws_FnPreorder.f k a0 a1 l2 a3 = some true := by
  obtain ⟨k, hk⟩ : ∃ k, k = 200000 := ⟨_, rfl⟩
  refine ⟨k + 1, ?_⟩
  obtain ⟨z, hz⟩ := fits_some a0 a1 l2
  obtain ⟨b, hb, hB⟩ := isTree a0 a1 l2 hT
  unfold laws_FnPreorder.f
  rw [hz]
  simp only [Option.bind_some]
  have hj0 : ∀ x, (x = false → b = true ∧ 0 ≤ a3) → laws_FnPreorder.j0 (k + 1) a3 x a0 a1 l2 = some true := by
    intro x hx
    rw [laws_FnPreorder.j0]
    cases x with
    | true => rw [if_pos rfl]
    | false =>
      obtain ⟨hbt, h0⟩ := hx rfl
      obtain ⟨hg, hd, hc⟩ := hB hbt
      have hl := insp_len ⟨#[110, 111, 110, 101]⟩ 12 ⟨a0, a1, l2⟩ 0
      obtain ⟨hh, hp⟩ := insp_headP ⟨#[110, 111, 110, 101]⟩ 11 ⟨a0, a1, l2⟩ 0 hg
      have hst : impl_Preordered.f a0 a1 l2 a3 = some ((preL ⟨a0, a1, l2⟩).take a3.toNat) := by
        unfold impl_Preordered.f
        rw [if_pos ⟨hg, by omega, h0⟩]
      have hn9 : laws_nodes9.f k (inspL ⟨#[110, 111, 110, 101]⟩ 12 0 ⟨a0, a1, l2⟩) 0 true = some (preL ⟨a0, a1, l2⟩) := by
        unfold laws_nodes9.f preL
        rw [if_pos (by omega)]
      have hsl : (preL ⟨a0, a1, l2⟩).length ≤ (inspL ⟨#[110, 111, 110, 101]⟩ 12 0 ⟨a0, a1, l2⟩).length := nodesL_len _ _ _ _
      have hsp : 0 < (preL ⟨a0, a1, l2⟩).length := by
        unfold preL
        obtain ⟨m, hm⟩ : ∃ m, (inspL ⟨#[110, 111, 110, 101]⟩ 12 0 ⟨a0, a1, l2⟩).length = m + 1 := ⟨(inspL ⟨#[110, 111, 110, 101]⟩ 12 0 ⟨a0, a1, l2⟩).length - 1, by
          have : 0 < (inspL ⟨#[110, 111, 110, 101]⟩ 12 0 ⟨a0, a1, l2⟩).length := hp
          omega⟩
        rw [hm]
        exact nodesL_posP 0 true _ hh m
      rw [if_neg (by decide), inspected_some hg hc]
      simp only [Option.bind_some]
      rw [hn9]
      simp only [Option.bind_some]
      rw [if_pos (show ((preL ⟨a0, a1, l2⟩).length : Int) > 0 by omega), hst]
      simp only [Option.bind_some]
      generalize preL ⟨a0, a1, l2⟩ = P at *
      have hmn : mn a3 (P.length : Int) = if a3 ≤ (P.length : Int) then a3 else (P.length : Int) := by
        unfold mn
        first | rfl | (split <;> split <;> omega)
      have htk : P.take ((mn a3 (P.length : Int)) : Int).toNat = P.take a3.toNat := by
        rw [hmn]
        split
        · rfl
        · rw [Int.toNat_natCast, List.take_length, List.take_of_length_le (by omega)]
      have hm0 : 0 ≤ mn a3 (P.length : Int) := by rw [hmn]; split <;> omega
      have hm1 : mn a3 (P.length : Int) ≤ (P.length : Int) := by rw [hmn]; split <;> omega
      have htl : (P.take a3.toNat).length ≤ P.length := by rw [List.length_take]; omega
      rw [if_pos hm0, if_pos hm1, htk, same_refl _ (by omega) k (by omega)]
      rfl
  cases z with
  | false => rw [if_neg (by decide)]
  | true =>
    rw [if_pos rfl, hb (k + 1) (by omega)]
    simp only [Option.bind_some]
    cases hbb : b with
    | false =>
      rw [if_neg (by decide)]
      exact hj0 true (fun h => by cases h)
    | true =>
      rw [if_pos rfl]
      split
      · exact hj0 true (fun h => by cases h)
      · exact hj0 _ (fun _ => ⟨hbb, by omega⟩)
end Go.Proofs.YtdcaabjkklppjaaGreatFmt.A
