import Derived.Test.YtdmeackaiamkcaaFmtA2
namespace Go.Proofs.YtdmeackaiamkcaaFmt.A
open Go.RowKit Go.Proofs.YtdmeackaiamkcaaFmtW.PrintWords Go.Proofs.YtdmeackaiamkcaaFmtW.PrintLast Go.Proofs.YtdmeackaiamkcaaFmtW.PrintMore
set_option linter.unusedVariables false

theorem wrap_next {i : Int} {n : Nat} (h0 : 0 ≤ i) (h : i < (n : Int)) (hn : n ≤ maxLen) : wrap64 (i + 1) = i + 1 := by
  unfold maxLen at hn
  unfold wrap64
  omega

theorem rd23_at {l : List S23} {i : Int} (h0 : 0 ≤ i) (h1 : i < (l.length : Int)) : rd_T23 l i = l[i.toNat]'(by omega) := by
  unfold rd_T23; rw [List.getD_eq_getElem?_getD, List.getElem?_eq_getElem (by omega)]; rfl

/-- What the bounds of a fault say. -/
def Few (l : List S23) : Prop := l.length ≤ 50 ∧ ∀ x ∈ l, 0 ≤ x.f1 ∧ x.f1 ≤ 1000000 ∧ 0 ≤ x.f2 ∧ x.f2 ≤ 1000000 ∧ wrap64 ((x.f0.size : Int) + (x.f3.size : Int)) ≤ 1000

theorem few_l0 (l : List S23) (hl : l.length ≤ maxLen) (d : Nat) : ∀ (k : Nat) (i : Int), 0 ≤ i → i ≤ (l.length : Int) → (l.length : Int) - i = d → d < k →
    (∀ x ∈ l.take i.toNat, 0 ≤ x.f1 ∧ x.f1 ≤ 1000000 ∧ 0 ≤ x.f2 ∧ x.f2 ≤ 1000000 ∧ wrap64 ((x.f0.size : Int) + (x.f3.size : Int)) ≤ 1000) →
    ∃ b, laws_fewFaults9.l0 k l l (l.length : Int) i = some b ∧ (b = true → Few l) := by
  induction d with
  | zero =>
    intro k i h0 h1 hd hk hall
    obtain ⟨k, rfl⟩ : ∃ m, k = m + 1 := ⟨k - 1, by omega⟩
    rw [List.take_of_length_le (by omega)] at hall
    refine ⟨_, by simp only [laws_fewFaults9.l0]; rw [if_neg (by omega)], fun hb => ⟨by have := of_decide_eq_true hb; omega, hall⟩⟩
  | succ d ih =>
    intro k i h0 h1 hd hk hall
    obtain ⟨k, rfl⟩ : ∃ m, k = m + 1 := ⟨k - 1, by omega⟩
    simp only [laws_fewFaults9.l0]
    rw [if_pos (by omega), if_pos h0, if_pos (by omega)]
    split
    · exact ⟨false, rfl, fun h => by cases h⟩
    · split
      · exact ⟨false, rfl, fun h => by cases h⟩
      · split
        · exact ⟨false, rfl, fun h => by cases h⟩
        · split
          · exact ⟨false, rfl, fun h => by cases h⟩
          · split
            · exact ⟨false, rfl, fun h => by cases h⟩
            · rw [wrap_next h0 (by omega) hl]
              refine ih k (i + 1) (by omega) (by omega) (by omega) (by omega) ?_
              intro x hx
              have e : (i + 1).toNat = i.toNat + 1 := by omega
              rw [e, List.take_succ_eq_append_getElem (by omega)] at hx
              rcases List.mem_append.1 hx with hx | hx
              · exact hall x hx
              · have hx := List.mem_singleton.1 hx
                rw [hx, ← rd23_at h0 (by omega)]
                refine ⟨?_, ?_, ?_, ?_, ?_⟩ <;> omega

theorem few_any (l : List S23) (hl : l.length ≤ maxLen) : ∃ b, (∀ k, l.length < k → laws_fewFaults9.f k l = some b) ∧ (b = true → Few l) := by
  obtain ⟨b, hb, h⟩ := few_l0 l hl l.length (l.length + 1) 0 (by omega) (by omega) (by omega) (by omega) (fun x hx => by simp at hx)
  exact ⟨b, fun k hk => at_rounds (fun k => laws_fewFaults9.mono_l k _ _ _ _) hk hb, h⟩


theorem j0_true (k : Nat) (a : ByteArray) (b c : Int) (d : ByteArray) : laws_FnFaultText.j0 (k + 1) true a b c d = some true := by
  simp [laws_FnFaultText.j0]

theorem zz5_true {a : ByteArray} {b c : Int} {d : ByteArray} (h : laws_zzFits5.f a b c d = some true) : a.size ≤ 2147483647 ∧ d.size ≤ 2147483647 := by
  unfold laws_zzFits5.f at h
  split at h
  · cases h
  · split at h
    · cases h
    · exact ⟨by omega, by omega⟩

theorem sizeOfList {s : ByteArray} (h : ¬ s.toList = []) : 0 < s.size := by
  rw [Go.Lib.toList_data] at h
  cases s with
  | mk d =>
    rcases Nat.eq_zero_or_pos d.size with h0 | h0
    · exact absurd (show d.toList = [] by
        have : d.toList.length = 0 := by simpa using h0
        exact List.eq_nil_of_length_eq_zero this) h
    · exact h0

theorem pure_FnFaultText (a : ByteArray) (b c : Int) (d : ByteArray) : ∃ k, laws_FnFaultText.f k a b c d = some true := by
  refine ⟨2, ?_⟩
  obtain ⟨z, hz⟩ : ∃ z, laws_zzFits5.f a b c d = some z := by
    unfold laws_zzFits5.f
    split
    · exact ⟨_, rfl⟩
    · split <;> exact ⟨_, rfl⟩
  unfold laws_FnFaultText.f
  rw [hz]
  simp only [Option.bind_some]
  cases z with
  | false => rfl
  | true =>
    rw [if_pos rfl]
    obtain ⟨hsa, hsd⟩ := zz5_true hz
    obtain ⟨q, hq, hfew⟩ := few_any [(⟨a, b, c, d⟩ : S23)] (by unfold maxLen; simp)
    rw [hq 2 (by simp)]
    simp only [Option.bind_some]
    cases q with
    | false => exact j0_true 1 a b c d
    | true =>
      rw [if_pos rfl]
      obtain ⟨_, hx⟩ := hfew rfl
      obtain ⟨h1, h2, h3, h4, h5⟩ := hx _ (List.mem_singleton.2 rfl)
      dsimp only at h1 h2 h3 h4 h5
      have hw : wrap64 ((a.size : Int) + (d.size : Int)) = (a.size : Int) + (d.size : Int) := by unfold wrap64; omega
      rw [hw] at h5
      by_cases ha : a.toList = ([] : List UInt8)
      · rw [if_pos ha]
        exact j0_true 1 a b c d
      · rw [if_neg ha]
        by_cases hb : b < 1
        · rw [decide_eq_true hb]
          exact j0_true 1 a b c d
        · rw [decide_eq_false hb]
          have hpos := sizeOfList ha
          have i1 : strconv_Itoa_6.f b = some (num b) := by unfold strconv_Itoa_6.f; rw [if_pos ⟨by omega, by omega⟩]
          have i2 : strconv_Itoa_6.f c = some (num c) := by unfold strconv_Itoa_6.f; rw [if_pos ⟨by omega, by omega⟩]
          have i3 : impl_FaultText.f a b c d = some ((posText a b c ++ ⟨#[58, 32]⟩) ++ d) := by unfold impl_FaultText.f; rw [if_pos ⟨by omega, by omega, by omega, by omega, by omega, by omega, by omega⟩]
          have n1 := num_size b (by omega) (by omega)
          have n2 := num_size c (by omega) (by omega)
          have e1 : (⟨#[58]⟩ : ByteArray).size = 1 := rfl
          have e2 : (⟨#[58, 32]⟩ : ByteArray).size = 2 := rfl
          simp only [laws_FnFaultText.j0, i1, i2, i3, Option.bind_some]
          rw [if_neg (by decide), if_pos (by omega), if_pos (by rw [app_size, e1]; omega)]
          by_cases hc : c > 0
          · have hp : posText a b c = ((a ++ ⟨#[58]⟩) ++ num b) ++ (⟨#[58]⟩ ++ num c) := if_neg (by omega)
            rw [if_pos hc, if_pos (by omega), if_pos (by simp only [app_size, e1]; omega), if_pos (by simp only [app_size, e1]; omega), if_pos (by simp only [app_size, e1, e2]; omega), hp]
            simp
          · have hc0 : c = 0 := by omega
            have hp : posText a b c = (a ++ ⟨#[58]⟩) ++ num b := if_pos hc0
            rw [if_neg hc, if_pos (by simp only [app_size, e1]; omega), if_pos (by simp only [app_size, e1, e2]; omega), hp]
            simp
end Go.Proofs.YtdmeackaiamkcaaFmt.A
