import Derived.Test.YteaelkeiocogfaaA1
namespace Go.Proofs.Yteaelkeiocogfaa.A
open Go.RowKit Go.Proofs.YteaelkeiocogfaaW.PrintWords Go.Proofs.YteaelkeiocogfaaW.PrintLast Go.Proofs.YteaelkeiocogfaaW.PrintMore
set_option linter.unusedVariables false

/-- A comment as it comes in: its place is an int64, its text has a length. -/
def ok25 (x : S25) : Prop := (Lit.int .i64 x.f0).wf = true ∧ x.f1.size ≤ maxLen

theorem wrap_next {i : Int} {n : Nat} (h0 : 0 ≤ i) (h : i < (n : Int)) (hn : n ≤ maxLen) : wrap64 (i + 1) = i + 1 := by
  unfold maxLen at hn
  unfold wrap64
  omega

theorem at25 {l : List S25} {i : Int} (h0 : 0 ≤ i) (h1 : i < (l.length : Int)) : rd_T25 l i ∈ l := by
  have : rd_T25 l i = l[i.toNat]'(by omega) := by unfold rd_T25; rw [List.getD_eq_getElem?_getD, List.getElem?_eq_getElem (by omega)]; rfl
  rw [this]
  exact List.getElem_mem _

theorem zzFits3_any (a : Int) (s : ByteArray) : ∃ b, laws_zzFits3.f a s = some b := by
  unfold laws_zzFits3.f
  split <;> exact ⟨_, rfl⟩

theorem zzFits2_l0 (l : List S25) (hl : l.length ≤ maxLen) (d : Nat) : ∀ (k : Nat) (i : Int), 0 ≤ i → i ≤ (l.length : Int) → (l.length : Int) - i = d → d < k → ∃ b, laws_zzFits2.l0 k l (l.length : Int) i = some b := by
  induction d with
  | zero =>
    intro k i h0 h1 hd hk
    obtain ⟨k, rfl⟩ : ∃ m, k = m + 1 := ⟨k - 1, by omega⟩
    exact ⟨true, by simp only [laws_zzFits2.l0]; rw [if_neg (by omega)]⟩
  | succ d ih =>
    intro k i h0 h1 hd hk
    obtain ⟨k, rfl⟩ : ∃ m, k = m + 1 := ⟨k - 1, by omega⟩
    obtain ⟨b, hb⟩ := zzFits3_any (rd_T25 l i).f0 (rd_T25 l i).f1
    simp only [laws_zzFits2.l0]
    rw [if_pos (by omega), if_pos h0, if_pos (by omega), hb]
    simp only [Option.bind_some]
    cases b with
    | true =>
      rw [if_pos rfl, wrap_next h0 (by omega) hl]
      exact ih k (i + 1) (by omega) (by omega) (by omega) (by omega)
    | false => exact ⟨false, rfl⟩

theorem zzFits2_any (l : List S25) (hl : l.length ≤ maxLen) : ∃ b, ∀ k, l.length < k → laws_zzFits2.f k l = some b := by
  by_cases h : (l.length : Int) > 2147483647
  · exact ⟨false, fun k _ => by unfold laws_zzFits2.f; rw [if_pos h]⟩
  · obtain ⟨b, hb⟩ := zzFits2_l0 l hl l.length (l.length + 1) 0 (by omega) (by omega) (by omega) (by omega)
    refine ⟨b, fun k hk => ?_⟩
    unfold laws_zzFits2.f
    rw [if_neg h]
    exact at_rounds (fun k => laws_zzFits2.mono_l k _ _ _) hk hb

theorem span_l0 (l : List S25) (hl : l.length ≤ maxLen) (d : Nat) : ∀ (k : Nat) (i : Int), 0 ≤ i → i ≤ (l.length : Int) → (l.length : Int) - i = d → d < k →
    (∀ x ∈ l.take i.toNat, 1 ≤ x.f0 ∧ x.f0 ≤ 1000000 ∧ x.f1.size ≤ 1000) → laws_FnCommentSpan.l0 k l l (l.length : Int) i = some true := by
  induction d with
  | zero =>
    intro k i h0 h1 hd hk hall
    obtain ⟨k, rfl⟩ : ∃ m, k = m + 1 := ⟨k - 1, by omega⟩
    rw [List.take_of_length_le (by omega)] at hall
    simp only [laws_FnCommentSpan.l0]
    rw [if_neg (by omega)]
    by_cases hz : (l.length : Int) = 0
    · rw [if_pos hz]
    · rw [if_neg hz]
      by_cases h50 : (l.length : Int) > 50
      · rw [if_pos h50]
      · rw [if_neg h50]
        have hw : wrap64 ((l.length : Int) - 1) = ((l.length - 1 : Nat) : Int) := by unfold wrap64; omega
        have hlast := hall (rd_T25 l ((l.length - 1 : Nat) : Int)) (at25 (by omega) (by omega))
        have hf : impl_CommentSpan.f l = some ((rd_T25 l 0).f0, (rd_T25 l ((l.length - 1 : Nat) : Int)).f0 + (rd_T25 l ((l.length - 1 : Nat) : Int)).f1.size) := by
          unfold impl_CommentSpan.f
          rw [if_pos ⟨by omega, by omega, hall⟩]
        rw [hf]
        simp only [Option.bind_some]
        rw [hw, if_pos (by omega), if_pos (by omega), if_pos (by omega), if_pos trivial]
        have : wrap64 ((rd_T25 l ((l.length - 1 : Nat) : Int)).f0 + ((rd_T25 l ((l.length - 1 : Nat) : Int)).f1.size : Int)) = (rd_T25 l ((l.length - 1 : Nat) : Int)).f0 + ((rd_T25 l ((l.length - 1 : Nat) : Int)).f1.size : Int) := by unfold wrap64; omega
        rw [this]
        simp
  | succ d ih =>
    intro k i h0 h1 hd hk hall
    obtain ⟨k, rfl⟩ : ∃ m, k = m + 1 := ⟨k - 1, by omega⟩
    simp only [laws_FnCommentSpan.l0]
    rw [if_pos (by omega), if_pos h0, if_pos (by omega)]
    split
    · rfl
    · split
      · rfl
      · split
        · rfl
        · rw [wrap_next h0 (by omega) hl]
          refine ih k (i + 1) (by omega) (by omega) (by omega) (by omega) ?_
          intro x hx
          have e : (i + 1).toNat = i.toNat + 1 := by omega
          rw [e, List.take_succ_eq_append_getElem (by omega)] at hx
          rcases List.mem_append.1 hx with hx | hx
          · exact hall x hx
          · have hx := List.mem_singleton.1 hx
            have : rd_T25 l i = l[i.toNat]'(by omega) := by unfold rd_T25; rw [List.getD_eq_getElem?_getD, List.getElem?_eq_getElem (by omega)]; rfl
            rw [hx, ← this]
            omega

theorem pure_FnCommentSpan (l0 : List S25) (hl : l0.length ≤ maxLen) (_ : l0.length * 24 ≤ 140737488351232) (_ : ∀ x ∈ l0, ok25 x) : ∃ k, laws_FnCommentSpan.f k l0 = some true := by
  obtain ⟨b, hb⟩ := zzFits2_any l0 hl
  refine ⟨l0.length + 1, ?_⟩
  unfold laws_FnCommentSpan.f
  rw [hb _ (Nat.lt_succ_self _)]
  simp only [Option.bind_some]
  cases b with
  | false => rfl
  | true =>
    rw [if_pos rfl]
    exact span_l0 l0 hl l0.length _ 0 (by omega) (by omega) (by omega) (by omega) (fun x hx => by simp at hx)
end Go.Proofs.Yteaelkeiocogfaa.A
