import Derived.Test.YtdmeackaiamkcaaA2
import Derived.Test.YtdmeackaiamkcaaGLess
namespace Go.Proofs.Ytdmeackaiamkcaa.A
open Go.RowKit Go.Proofs.YtdmeackaiamkcaaW.PrintWords Go.Proofs.YtdmeackaiamkcaaW.PrintLast Go.Proofs.YtdmeackaiamkcaaW.PrintMore
set_option linter.unusedVariables false

/-- A fault as it comes in. -/
def ok26 (x : S26) : Prop := x.f0.size ≤ maxLen ∧ (Lit.int .i64 x.f1).wf = true ∧ (Lit.int .i64 x.f2).wf = true ∧ x.f3.size ≤ maxLen

theorem wrap_next {i : Int} {n : Nat} (h0 : 0 ≤ i) (h : i < (n : Int)) (hn : n ≤ maxLen) : wrap64 (i + 1) = i + 1 := by
  unfold maxLen at hn
  unfold wrap64
  omega

theorem rd26_at {l : List S26} {i : Int} (h0 : 0 ≤ i) (h1 : i < (l.length : Int)) : rd_T26 l i = l[i.toNat]'(by omega) := by
  unfold rd_T26; rw [List.getD_eq_getElem?_getD, List.getElem?_eq_getElem (by omega)]; rfl

theorem zz5_any (a : ByteArray) (b c : Int) (d : ByteArray) : ∃ r, laws_zzFits5.f a b c d = some r := by
  unfold laws_zzFits5.f
  split
  · exact ⟨_, rfl⟩
  · split <;> exact ⟨_, rfl⟩

theorem zz4_l0 (l : List S26) (hl : l.length ≤ maxLen) (d : Nat) : ∀ (k : Nat) (i : Int), 0 ≤ i → i ≤ (l.length : Int) → (l.length : Int) - i = d → d < k → ∃ b, laws_zzFits4.l0 k l (l.length : Int) i = some b := by
  induction d with
  | zero =>
    intro k i h0 h1 hd hk
    obtain ⟨k, rfl⟩ : ∃ m, k = m + 1 := ⟨k - 1, by omega⟩
    exact ⟨true, by simp only [laws_zzFits4.l0]; rw [if_neg (by omega)]⟩
  | succ d ih =>
    intro k i h0 h1 hd hk
    obtain ⟨k, rfl⟩ : ∃ m, k = m + 1 := ⟨k - 1, by omega⟩
    obtain ⟨b, hb⟩ := zz5_any (rd_T26 l i).f0 (rd_T26 l i).f1 (rd_T26 l i).f2 (rd_T26 l i).f3
    simp only [laws_zzFits4.l0]
    rw [if_pos (by omega), if_pos h0, if_pos (by omega), hb]
    simp only [Option.bind_some]
    cases b with
    | true =>
      rw [if_pos rfl, wrap_next h0 (by omega) hl]
      exact ih k (i + 1) (by omega) (by omega) (by omega) (by omega)
    | false => exact ⟨false, rfl⟩

theorem zz4_any (l : List S26) (hl : l.length ≤ maxLen) : ∃ b, ∀ k, l.length < k → laws_zzFits4.f k l = some b := by
  by_cases h : (l.length : Int) > 2147483647
  · exact ⟨false, fun k _ => by unfold laws_zzFits4.f; rw [if_pos h]⟩
  · obtain ⟨b, hb⟩ := zz4_l0 l hl l.length (l.length + 1) 0 (by omega) (by omega) (by omega) (by omega)
    refine ⟨b, fun k hk => ?_⟩
    unfold laws_zzFits4.f
    rw [if_neg h]
    exact at_rounds (fun k => laws_zzFits4.mono_l k _ _ _) hk hb

/-- What the bounds of a fault say. -/
def Few (l : List S26) : Prop := l.length ≤ 50 ∧ ∀ x ∈ l, 0 ≤ x.f1 ∧ x.f1 ≤ 1000000 ∧ 0 ≤ x.f2 ∧ x.f2 ≤ 1000000 ∧ wrap64 ((x.f0.size : Int) + (x.f3.size : Int)) ≤ 1000

theorem few_l0 (l : List S26) (hl : l.length ≤ maxLen) (d : Nat) : ∀ (k : Nat) (i : Int), 0 ≤ i → i ≤ (l.length : Int) → (l.length : Int) - i = d → d < k →
    (∀ x ∈ l.take i.toNat, 0 ≤ x.f1 ∧ x.f1 ≤ 1000000 ∧ 0 ≤ x.f2 ∧ x.f2 ≤ 1000000 ∧ wrap64 ((x.f0.size : Int) + (x.f3.size : Int)) ≤ 1000) →
    ∃ b, laws_fewFaults9.l0 k l l (l.length : Int) i = some b ∧ (b = true → Few l) := by
  induction d with
  | zero =>
    intro k i h0 h1 hd hk hall
    obtain ⟨k, rfl⟩ : ∃ m, k = m + 1 := ⟨k - 1, by omega⟩
    rw [List.take_of_length_le (by omega)] at hall
    refine ⟨_, by simp only [laws_fewFaults9.l0]; rw [if_neg (by omega)], fun hb => ⟨by have := of_decide_eq_true hb; omega, hall⟩⟩
  | succ d ih =>
    intro k i h0 h1 hd hk hall
    obtain ⟨k, rfl⟩ : ∃ m, k = m + 1 := ⟨k - 1, by omega⟩
    simp only [laws_fewFaults9.l0]
    rw [if_pos (by omega), if_pos h0, if_pos (by omega)]
    split
    · exact ⟨false, rfl, fun h => by cases h⟩
    · split
      · exact ⟨false, rfl, fun h => by cases h⟩
      · split
        · exact ⟨false, rfl, fun h => by cases h⟩
        · split
          · exact ⟨false, rfl, fun h => by cases h⟩
          · split
            · exact ⟨false, rfl, fun h => by cases h⟩
            · rw [wrap_next h0 (by omega) hl]
              refine ih k (i + 1) (by omega) (by omega) (by omega) (by omega) ?_
              intro x hx
              have e : (i + 1).toNat = i.toNat + 1 := by omega
              rw [e, List.take_succ_eq_append_getElem (by omega)] at hx
              rcases List.mem_append.1 hx with hx | hx
              · exact hall x hx
              · have hx := List.mem_singleton.1 hx
                rw [hx, ← rd26_at h0 (by omega)]
                refine ⟨?_, ?_, ?_, ?_, ?_⟩ <;> omega

theorem few_any (l : List S26) (hl : l.length ≤ maxLen) : ∃ b, (∀ k, l.length < k → laws_fewFaults9.f k l = some b) ∧ (b = true → Few l) := by
  obtain ⟨b, hb, h⟩ := few_l0 l hl l.length (l.length + 1) 0 (by omega) (by omega) (by omega) (by omega) (fun x hx => by simp at hx)
  exact ⟨b, fun k hk => at_rounds (fun k => laws_fewFaults9.mono_l k _ _ _ _) hk hb, h⟩

/-- The order of positions. -/
def posB (x y : S26) : Bool :=
  if x.f0.toList = y.f0.toList then (if x.f1 = y.f1 then decide (x.f2 < y.f2) else decide (x.f1 < y.f1)) else Op.bytesLess x.f0.toList y.f0.toList

theorem before_pos (x y : S26) : laws_before9.f x.f0 x.f1 x.f2 x.f3 y.f0 y.f1 y.f2 y.f3 = some (posB x y) := by
  unfold laws_before9.f posB
  split
  · split <;> rfl
  · rfl

theorem less_pos {x y : S26} (h : ¬ (x.f0.toList = y.f0.toList ∧ x.f1 = y.f1 ∧ x.f2 = y.f2)) : lessB x y = posB x y := by
  unfold lessB posB
  by_cases h0 : x.f0.toList = y.f0.toList
  · rw [if_pos h0, if_pos h0]
    by_cases h1 : x.f1 = y.f1
    · rw [if_pos h1, if_pos h1]
      by_cases h2 : x.f2 = y.f2
      · exact absurd ⟨h0, h1, h2⟩ h
      · rw [if_neg h2]
    · rw [if_neg h1, if_neg h1]
  · rw [if_neg h0, if_neg h0]

theorem pos_same {x y : S26} (h : x.f0.toList = y.f0.toList ∧ x.f1 = y.f1 ∧ x.f2 = y.f2) : posB x y = false := by
  obtain ⟨h0, h1, h2⟩ := h
  unfold posB
  rw [if_pos h0, if_pos h1]
  simp [h2]
end Go.Proofs.Ytdmeackaiamkcaa.A
