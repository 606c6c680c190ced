import Derived.Test.YteaelkeiocogfaaA1
namespace Go.Proofs.Yteaelkeiocogfaa.Pure
open Go.RowKit Go.Proofs.Yteaelkeiocogfaa.A Go.Proofs.YteaelkeiocogfaaW.PrintWords Go.Proofs.YteaelkeiocogfaaW.PrintLast

theorem mx_one {n : Int} (h0 : 0 ≤ n) : mx n 1 = nm n := by
  unfold mx nm
  split <;> split <;> omega

theorem num_l0 (l : List Int) (hl : l.length ≤ 2147483647) (d : Nat) : ∀ (k : Nat) (s i : Int), 0 ≤ i → i ≤ (l.length : Int) → (l.length : Int) - i = d → d < k →
    (∀ x ∈ l.take i.toNat, 0 ≤ x ∧ x ≤ 20) → s = sumN (l.take i.toNat) → laws_FnNumFields.l0 k l s l (l.length : Int) i = some true := by
  induction d with
  | zero =>
    intro k s i h0 h1 hd hk hall hs
    obtain ⟨k, rfl⟩ : ∃ m, k = m + 1 := ⟨k - 1, by omega⟩
    rw [List.take_of_length_le (by omega)] at hall hs
    simp only [laws_FnNumFields.l0]
    rw [if_neg (by omega)]
    by_cases h50 : (l.length : Int) > 50
    · rw [if_pos h50]
    · rw [if_neg h50]
      have hf : impl_NumFields.f l = some (sumN l) := by unfold impl_NumFields.f; rw [if_pos ⟨by omega, hall⟩]
      rw [hf, hs]
      simp
  | succ d ih =>
    intro k s i h0 h1 hd hk hall hs
    obtain ⟨k, rfl⟩ : ∃ m, k = m + 1 := ⟨k - 1, by omega⟩
    simp only [laws_FnNumFields.l0]
    rw [if_pos (by omega), if_pos h0, if_pos (by omega)]
    by_cases hn : rd l i < 0
    · rw [if_pos hn]
    · rw [if_neg hn]
      by_cases hm : rd l i > 20
      · rw [if_pos hm]
      · rw [if_neg hm]
        have hb := sumN_bound _ hall
        have hlen : (l.take i.toNat).length ≤ 2147483647 := by simp; omega
        have hr : rd l i = l[i.toNat]'(by omega) := by unfold rd; rw [List.getD_eq_getElem?_getD, List.getElem?_eq_getElem (by omega)]; rfl
        have e : (i + 1).toNat = i.toNat + 1 := by omega
        have hw : wrap64 (i + 1) = i + 1 := by unfold wrap64; omega
        have hnm : 0 ≤ nm (rd l i) ∧ nm (rd l i) ≤ 20 := by unfold nm; split <;> omega
        have hw2 : wrap64 (s + mx (rd l i) 1) = s + nm (rd l i) := by rw [mx_one (by omega), hs]; unfold wrap64; omega
        rw [hw, hw2]
        refine ih k _ (i + 1) (by omega) (by omega) (by omega) (by omega) ?_ ?_
        · intro x hx
          rw [e, List.take_succ_eq_append_getElem (by omega)] at hx
          rcases List.mem_append.1 hx with hx | hx
          · exact hall x hx
          · rw [List.mem_singleton.1 hx, ← hr]
            omega
        · rw [e, List.take_succ_eq_append_getElem (by omega), sumN_append, ← hr, hs]
          simp [sumN]

theorem FnNumFields : laws_FnNumFields.Pure := by
  intro l hl hb hw
  refine ⟨l.length + 1, ?_⟩
  unfold laws_FnNumFields.f
  by_cases h : (l.length : Int) > 2147483647
  · rw [if_pos h]
  · rw [if_neg h]
    exact num_l0 l (by omega) l.length _ 0 0 (by omega) (by omega) (by omega) (by omega) (fun x hx => by simp at hx) rfl
end Go.Proofs.Yteaelkeiocogfaa.Pure
