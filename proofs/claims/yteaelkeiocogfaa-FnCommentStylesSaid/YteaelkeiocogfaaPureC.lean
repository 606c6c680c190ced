/- Plain facts on the printed helpers of comments: each returns, at texts of at most 1000 bytes; no condition besides. -/
import Derived.Test.YteaelkeiocogfaaA3
import Derived.Test.YteaelkeiocogfaaPureFnCommentSpan
namespace Go.Proofs.Yteaelkeiocogfaa.A
open Go.RowKit Go.Proofs.YteaelkeiocogfaaW.PrintWords Go.Proofs.YteaelkeiocogfaaW.PrintLast Go.Proofs.YteaelkeiocogfaaW.PrintMore
set_option linter.unusedVariables false

/-- p stands in s at place t. -/
def At (s p : ByteArray) (t : Nat) : Prop := (s.extract t (t + p.size)).toList = p.toList

/-- What a search gives: the first place from i on, or -1. -/
def FindR (s p : ByteArray) (i : Nat) (j : Int) : Prop :=
  (j = -1 ∧ ∀ t, i ≤ t → t + p.size ≤ s.size → ¬ At s p t) ∨ (∃ t : Nat, j = (t : Int) ∧ i ≤ t ∧ t + p.size ≤ s.size ∧ At s p t ∧ ∀ u, i ≤ u → u < t → ¬ At s p u)

theorem index_l0 (s p : ByteArray) (hs : s.size ≤ 1000000) (hp : p.size ≤ 1000000) (d : Nat) : ∀ (k i : Nat), s.size + 1 ≤ i + d → i ≤ s.size + 1 → d < k → ∃ j, goprinter_go_ast_zzIndex.l0 k s p (i : Int) = some j ∧ FindR s p i j := by
  induction d with
  | zero =>
    intro k i h0 h1 hk
    obtain ⟨k, rfl⟩ : ∃ m, k = m + 1 := ⟨k - 1, by omega⟩
    have hw : wrap64 ((i : Int) + (p.size : Int)) = (i : Int) + (p.size : Int) := by unfold wrap64; omega
    simp only [goprinter_go_ast_zzIndex.l0]
    rw [hw, if_neg (by omega)]
    exact ⟨-1, rfl, .inl ⟨rfl, fun t h2 h3 => by omega⟩⟩
  | succ d ih =>
    intro k i h0 h1 hk
    obtain ⟨k, rfl⟩ : ∃ m, k = m + 1 := ⟨k - 1, by omega⟩
    have hw : wrap64 ((i : Int) + (p.size : Int)) = (i : Int) + (p.size : Int) := by unfold wrap64; omega
    have hw1 : wrap64 ((i : Int) + 1) = ((i + 1 : Nat) : Int) := by unfold wrap64; omega
    simp only [goprinter_go_ast_zzIndex.l0]
    rw [hw]
    by_cases hle : (i : Int) + (p.size : Int) ≤ (s.size : Int)
    · rw [if_pos hle, if_pos (by omega), if_pos (by omega)]
      have e1 : ((i : Int) + (p.size : Int)).toNat = i + p.size := by omega
      have e2 : (i : Int).toNat = i := by omega
      rw [e1, e2]
      by_cases hm : (s.extract i (i + p.size)).toList = p.toList
      · rw [if_pos hm]
        exact ⟨_, rfl, .inr ⟨i, rfl, Nat.le_refl _, by omega, hm, fun u h2 h3 => by omega⟩⟩
      · rw [if_neg hm, hw1]
        obtain ⟨j, hj, hr⟩ := ih k (i + 1) (by omega) (by omega) (by omega)
        refine ⟨j, hj, ?_⟩
        rcases hr with ⟨rfl, hr⟩ | ⟨t, rfl, ht, hts, hat, hr⟩
        · refine .inl ⟨rfl, fun t h2 h3 => ?_⟩
          by_cases hti : t = i
          · subst hti; exact hm
          · exact hr t (by omega) h3
        · refine .inr ⟨t, rfl, by omega, hts, hat, fun u h2 h3 => ?_⟩
          by_cases hui : u = i
          · subst hui; exact hm
          · exact hr u (by omega) h3
    · rw [if_neg hle]
      exact ⟨-1, rfl, .inl ⟨rfl, fun t h2 h3 => by omega⟩⟩

theorem index_any (s p : ByteArray) (hs : s.size ≤ 1000000) (hp : p.size ≤ 1000000) : ∃ j, (∀ k, s.size + 1 < k → goprinter_go_ast_zzIndex.f k s p = some j) ∧ FindR s p 0 j := by
  obtain ⟨j, hj, hr⟩ := index_l0 s p hs hp (s.size + 1) (s.size + 2) 0 (by omega) (by omega) (by omega)
  exact ⟨j, fun k hk => at_rounds (fun k => goprinter_go_ast_zzIndex.mono_l k _ _ _) hk hj, hr⟩

theorem find_eq : ∀ k a b i, spec_find.l0 k a b i = goprinter_go_ast_zzIndex.l0 k a b i
  | 0, _, _, _ => rfl
  | k + 1, a, b, i => by simp only [spec_find.l0, goprinter_go_ast_zzIndex.l0, find_eq k]

theorem find_any (s p : ByteArray) (hs : s.size ≤ 1000000) (hp : p.size ≤ 1000000) : ∃ j, (∀ k, s.size + 1 < k → spec_find.f k s p = some j) ∧ FindR s p 0 j := by
  obtain ⟨j, hj, hr⟩ := index_any s p hs hp
  exact ⟨j, fun k hk => (find_eq k s p 0).trans (hj k hk), hr⟩

theorem lineEnd_l0 (s : ByteArray) (hs : s.size ≤ 1000000) (d : Nat) : ∀ (k i : Nat), s.size ≤ i + d → i ≤ s.size → d < k → ∃ j : Nat, spec_lineEnd.l0 k s (s.size : Int) (i : Int) = some (j : Int) ∧ j ≤ s.size := by
  induction d with
  | zero =>
    intro k i h0 h1 hk
    obtain ⟨k, rfl⟩ : ∃ m, k = m + 1 := ⟨k - 1, by omega⟩
    simp only [spec_lineEnd.l0]
    rw [if_neg (by omega)]
    exact ⟨_, rfl, Nat.le_refl _⟩
  | succ d ih =>
    intro k i h0 h1 hk
    obtain ⟨k, rfl⟩ : ∃ m, k = m + 1 := ⟨k - 1, by omega⟩
    have hw1 : wrap64 ((i : Int) + 1) = ((i + 1 : Nat) : Int) := by unfold wrap64; omega
    simp only [spec_lineEnd.l0]
    by_cases hi : (i : Int) < (s.size : Int)
    · rw [if_pos hi, if_pos (by omega), if_pos hi]
      split
      · exact ⟨i, rfl, by omega⟩
      · rw [hw1]
        exact ih k (i + 1) (by omega) (by omega) (by omega)
    · rw [if_neg hi]
      exact ⟨_, rfl, Nat.le_refl _⟩

theorem lineEnd_any (s : ByteArray) (hs : s.size ≤ 1000000) : ∃ j : Nat, (∀ k, s.size < k → spec_lineEnd.f k s = some (j : Int)) ∧ j ≤ s.size := by
  obtain ⟨j, hj, hr⟩ := lineEnd_l0 s hs s.size (s.size + 1) 0 (by omega) (by omega) (by omega)
  exact ⟨j, fun k hk => at_rounds (fun k => spec_lineEnd.mono_l k _ _ _) hk hj, hr⟩

theorem begins_any (s p : ByteArray) (hs : s.size ≤ 1000000) : ∃ b, spec_begins.f s p = some b := by
  unfold spec_begins.f
  split
  · rw [if_pos (by omega)]
    first | exact ⟨_, rfl⟩ | (rw [if_pos (by omega)]; exact ⟨_, rfl⟩)
  · exact ⟨_, rfl⟩

theorem isPlain_l0 (s : ByteArray) (hs : s.size ≤ 1000000) (d : Nat) : ∀ (k i : Nat), s.size ≤ i + d → i ≤ s.size → d < k → ∃ b, spec_isPlain.l0 k s (s.size : Int) (i : Int) = some b := by
  induction d with
  | zero =>
    intro k i h0 h1 hk
    obtain ⟨k, rfl⟩ : ∃ m, k = m + 1 := ⟨k - 1, by omega⟩
    simp only [spec_isPlain.l0]
    rw [if_neg (by omega)]
    exact ⟨_, rfl⟩
  | succ d ih =>
    intro k i h0 h1 hk
    obtain ⟨k, rfl⟩ : ∃ m, k = m + 1 := ⟨k - 1, by omega⟩
    have hw1 : wrap64 ((i : Int) + 1) = ((i + 1 : Nat) : Int) := by unfold wrap64; omega
    simp only [spec_isPlain.l0]
    by_cases hi : (i : Int) < (s.size : Int)
    · have := ih k (i + 1) (by omega) (by omega) (by omega)
      rw [if_pos hi, if_pos (by omega), if_pos hi, hw1]
      split
      · exact this
      · split
        · exact this
        · split
          · exact ⟨_, rfl⟩
          · split
            · exact ⟨_, rfl⟩
            · exact this
    · rw [if_neg hi]
      exact ⟨_, rfl⟩

theorem isPlain_any (s : ByteArray) (hs : s.size ≤ 1000000) : ∃ b, ∀ k, s.size < k → spec_isPlain.f k s = some b := by
  obtain ⟨b, hb⟩ := isPlain_l0 s hs s.size (s.size + 1) 0 (by omega) (by omega) (by omega)
  exact ⟨b, fun k hk => at_rounds (fun k => spec_isPlain.mono_l k _ _ _) hk hb⟩

theorem quoted_l0 (s : ByteArray) (hs : s.size ≤ 1000000) (d : Nat) : ∀ (k i : Nat), s.size ≤ i + d → i ≤ s.size + 1 → d < k → ∃ j : Nat, spec_quoted.l0 k s (i : Int) = some (j : Int) ∧ j ≤ s.size := by
  induction d with
  | zero =>
    intro k i h0 h1 hk
    obtain ⟨k, rfl⟩ : ∃ m, k = m + 1 := ⟨k - 1, by omega⟩
    simp only [spec_quoted.l0]
    rw [if_neg (by omega)]
    exact ⟨0, rfl, by omega⟩
  | succ d ih =>
    intro k i h0 h1 hk
    obtain ⟨k, rfl⟩ : ∃ m, k = m + 1 := ⟨k - 1, by omega⟩
    have hw1 : wrap64 ((i : Int) + 1) = ((i + 1 : Nat) : Int) := by unfold wrap64; omega
    have hw2 : wrap64 (((i + 1 : Nat) : Int) + 1) = ((i + 1 + 1 : Nat) : Int) := by unfold wrap64; omega
    simp only [spec_quoted.l0]
    by_cases hi : (i : Int) < (s.size : Int)
    · have a1 := ih k (i + 1) (by omega) (by omega) (by omega)
      have a2 := ih k (i + 1 + 1) (by omega) (by omega) (by omega)
      rw [if_pos hi, if_pos (by omega), if_pos (by omega), hw1, hw2]
      split
      · exact ⟨i + 1, rfl, by omega⟩
      · split
        · exact a1
        · split
          · exact ⟨0, rfl, by omega⟩
          · split
            · exact a2
            · exact a1
    · rw [if_neg hi]
      exact ⟨0, rfl, by omega⟩

theorem quoted_any (s : ByteArray) (hs : s.size ≤ 1000000) : ∃ j : Nat, (∀ k, s.size < k → spec_quoted.f k s = some (j : Int)) ∧ j ≤ s.size := by
  obtain ⟨j, hj, hr⟩ := quoted_l0 s hs s.size (s.size + 1) 1 (by omega) (by omega) (by omega)
  exact ⟨j, fun k hk => at_rounds (fun k => spec_quoted.mono_l k _ _) hk hj, hr⟩

theorem has_any (s p : ByteArray) (hs : s.size ≤ 1000000) (hp : p.size ≤ 1000000) : ∃ b, ∀ k, s.size + 1 < k → spec_has.f k s p = some b := by
  obtain ⟨j, hj, _⟩ := find_any s p hs hp
  exact ⟨_, fun k hk => by unfold spec_has.f; rw [hj k hk]; rfl⟩

theorem ext_size (s : ByteArray) (a b : Nat) (hb : b ≤ s.size) : (s.extract a b).size = b - a := by
  rw [ByteArray.size_extract, Nat.min_eq_left hb]

theorem ar1 {t n : Nat} (h : t + 2 ≤ n - 2) (h2 : 2 ≤ n) (hn : n ≤ 1000) : ¬ ((t : Int) < 0) ∧ wrap64 ((t : Int) + 4) = ((t + 4 : Nat) : Int) ∧ (0 : Int) ≤ ((t + 4 : Nat) : Int) ∧ ((t + 4 : Nat) : Int) ≤ (n : Int) ∧ ¬ (((t + 4 : Nat) : Int) = 0) := by
  refine ⟨by omega, by unfold wrap64; omega, by omega, by omega, by omega⟩

theorem ar2 {t n : Nat} (h : t + 2 ≤ n - 2) (h2 : 2 ≤ n) : t + 4 ≤ n := by omega
theorem ar3 {a b i : Nat} (h : a = b - i) (hb : b ≤ 1000) : a ≤ 1000 := by omega
theorem ar4 {a b i d k : Nat} (h : a = b - i) (hk : d + 1 + b + 10 < k + 1) : a - 2 + 1 < k := by omega
theorem ar5 {a b i : Nat} (h : a = b - i) (hb : b ≤ 1000) : a - 2 ≤ 1000000 := by omega
theorem len_ok {α : Type} {xs : List α} {i n : Nat} (h : xs.length ≤ i) (hi : i ≤ n) (hn : n ≤ 1000) : xs.length < 8796093022208 := by omega

theorem push_ok {α : Type} {xs : List α} {x : α} {i t : Nat} (h : xs.length ≤ i) (ht : 0 < t) : (xs ++ [x]).length ≤ i + t := by simp; omega

theorem text_l0 (s : ByteArray) (hs : s.size ≤ 1000) (d : Nat) : ∀ (k i : Nat) (xs : List ByteArray), s.size ≤ i + d → i ≤ s.size → xs.length ≤ i → d + s.size + 10 < k → ∃ r, spec_TextComments.l0 k s xs (i : Int) = some r := by
  induction d with
  | zero =>
    intro k i xs h0 h1 hx hk
    obtain ⟨k, rfl⟩ : ∃ m, k = m + 1 := ⟨k - 1, by omega⟩
    simp only [spec_TextComments.l0]
    rw [if_neg (by omega)]
    exact ⟨_, rfl⟩
  | succ d ih =>
    intro k i xs h0 h1 hx hk
    obtain ⟨k, rfl⟩ : ∃ m, k = m + 1 := ⟨k - 1, by omega⟩
    simp only [spec_TextComments.l0]
    by_cases hi : (i : Int) < (s.size : Int)
    · have e1 : (i : Int).toNat = i := by omega
      rw [if_pos hi, if_pos (by omega), if_pos (by omega), e1]
      obtain ⟨rs, hrs⟩ : ∃ rs, s.extract i s.size = rs := ⟨_, rfl⟩
      have hsz : rs.size = s.size - i := by rw [← hrs]; exact ext_size s i s.size (Nat.le_refl _)
      rw [hrs]
      have next : ∀ (t : Nat) (ys : List ByteArray), 0 < t → t ≤ rs.size → ys.length ≤ i + t → ∃ r, spec_TextComments.l0 k s ys (wrap64 ((i : Int) + (t : Int))) = some r := by
        intro t ys ht htr hys
        rw [show wrap64 ((i : Int) + (t : Int)) = ((i + t : Nat) : Int) by unfold wrap64; omega]
        exact ih k (i + t) ys (by omega) (by omega) hys (by omega)
      obtain ⟨b1, hb1⟩ := begins_any rs ⟨#[47, 47]⟩ (by omega)
      rw [hb1]
      simp only [Option.bind_some]
      cases b1 with
      | true =>
        rw [if_pos rfl]
        obtain ⟨j, hj, hjr⟩ := lineEnd_any rs (by omega)
        rw [hj k (by omega)]
        simp only [Option.bind_some]
        rw [if_pos (show (0 : Int) ≤ (j : Int) by omega), if_pos (show (j : Int) ≤ (rs.size : Int) by omega), if_pos (len_ok hx h1 hs)]
        by_cases hj0 : (j : Int) = 0
        · rw [if_pos hj0]; exact ⟨_, rfl⟩
        · rw [if_neg hj0]
          exact next j _ (by omega) hjr (push_ok hx (by omega))
      | false =>
        rw [if_neg (by decide)]
        obtain ⟨b2, hb2⟩ := begins_any rs ⟨#[47, 42]⟩ (by omega)
        rw [hb2]
        simp only [Option.bind_some]
        cases b2 with
        | true =>
          have h2 : 2 ≤ rs.size := by
            unfold spec_begins.f at hb2
            split at hb2
            · rename_i h
              have e : (⟨#[47, 42]⟩ : ByteArray).size = 2 := rfl
              rw [e] at h
              omega
            · cases hb2
          rw [if_pos rfl, if_pos (show (2 : Int) ≤ (rs.size : Int) by omega)]
          have hsz2 : (rs.extract 2 rs.size).size = rs.size - 2 := ext_size rs 2 rs.size (Nat.le_refl _)
          have hk2 : (rs.extract 2 rs.size).size + 1 < k := by rw [hsz2]; exact ar4 hsz hk
          obtain ⟨j, hj, hjr⟩ := find_any (rs.extract 2 rs.size) ⟨#[42, 47]⟩ (by rw [hsz2]; exact ar5 hsz hs) (by decide)
          rw [hj k hk2]
          clear hk2 hj
          simp only [Option.bind_some]
          rcases hjr with ⟨rfl, _⟩ | ⟨t, rfl, _, hts, _, _⟩
          · rw [if_pos (show (-1 : Int) < 0 by decide)]; exact ⟨_, rfl⟩
          · have hts' : t + 2 ≤ (rs.extract 2 rs.size).size := hts
            rw [hsz2] at hts'
            have hn1 : rs.size ≤ 1000 := ar3 hsz hs
            obtain ⟨c1, c2, c3, c4, c5⟩ := ar1 hts' h2 hn1
            have n1 : t + 4 ≤ rs.size := ar2 hts' h2
            clear hts hts' hsz2
            rw [if_neg c1, c2, if_pos c3, if_pos c4, if_pos (len_ok hx h1 hs), if_neg c5]
            exact next (t + 4) _ (Nat.succ_pos _) n1 (push_ok hx (Nat.succ_pos _))
        | false =>
          rw [if_neg (by decide)]
          have h1r : 1 ≤ rs.size := by omega
          have c1 : (1 : Int) ≤ (rs.size : Int) := by omega
          rw [if_pos (by decide), if_pos c1]
          obtain ⟨b3, hb3⟩ := has_any ⟨#[34, 39, 96]⟩ (rs.extract 0 1) (by decide) (by rw [ext_size rs 0 1 h1r]; decide)
          have e3 : (⟨#[34, 39, 96]⟩ : ByteArray).size = 3 := rfl
          rw [hb3 k (by rw [e3]; omega)]
          simp only [Option.bind_some]
          cases b3 with
          | true =>
            rw [if_pos rfl]
            obtain ⟨j, hj, hjr⟩ := quoted_any rs (by omega)
            rw [hj k (by omega)]
            simp only [Option.bind_some]
            by_cases hj0 : (j : Int) = 0
            · rw [if_pos hj0]; exact ⟨_, rfl⟩
            · rw [if_neg hj0]
              exact next j _ (by omega) hjr (by omega)
          | false =>
            rw [if_neg (by decide), if_neg (by decide)]
            exact next 1 _ (by omega) h1r (by omega)
    · rw [if_neg hi]
      exact ⟨_, rfl⟩

theorem text_any (s : ByteArray) (hs : s.size ≤ 1000) : ∃ r, ∀ k, 3000 < k → spec_TextComments.f k s = some r := by
  obtain ⟨r, hr⟩ := text_l0 s hs s.size 3000 0 [] (by omega) (by omega) (by simp) (by omega)
  exact ⟨r, fun k hk => at_rounds (fun k => spec_TextComments.mono_l k _ _ _) (show 3000 ≤ k by omega) hr⟩

theorem isComment_any (s : ByteArray) (hs : s.size ≤ 1000) : ∃ b, ∀ k, 3000 < k → spec_IsComment.f k s = some b := by
  obtain ⟨⟨xs, ok⟩, hr⟩ := text_any s hs
  obtain ⟨p, hp⟩ := isPlain_any s (by omega)
  by_cases h1 : ok = true
  · by_cases h2 : (xs.length : Int) = 1
    · by_cases h3 : (rdOf ByteArray.empty xs 0).toList = s.toList
      · exact ⟨p, fun k hk => by
          unfold spec_IsComment.f
          rw [hr k hk]
          simp only [Option.bind_some]
          rw [if_pos h1, if_pos h2, if_pos (by omega), if_pos h3, hp k (by omega)]
          rfl⟩
      · exact ⟨false, fun k hk => by
          unfold spec_IsComment.f
          rw [hr k hk]
          simp only [Option.bind_some]
          rw [if_pos h1, if_pos h2, if_pos (by omega), if_neg h3]⟩
    · exact ⟨false, fun k hk => by
        unfold spec_IsComment.f
        rw [hr k hk]
        simp only [Option.bind_some]
        rw [if_pos h1, if_neg h2]⟩
  · exact ⟨false, fun k hk => by
      unfold spec_IsComment.f
      rw [hr k hk]
      simp only [Option.bind_some]
      rw [if_neg h1]⟩
end Go.Proofs.Yteaelkeiocogfaa.A
