/- One comment: what the reference's test for comments tells of it, and its lines on both sides; at comments of at most 2000 bytes. -/
import Derived.Test.YteaelkeiocogfaaPureX
namespace Go.Proofs.Yteaelkeiocogfaa.A
open Go.RowKit Go.Proofs.YteaelkeiocogfaaW.PrintWords Go.Proofs.YteaelkeiocogfaaW.PrintLast Go.Proofs.YteaelkeiocogfaaW.PrintMore
set_option linter.unusedVariables false
set_option linter.unusedSimpArgs false

theorem ar1_2 {t n : Nat} (h : t + 2 ≤ n - 2) (h2 : 2 ≤ n) (hn : n ≤ 2000) : ¬ ((t : Int) < 0) ∧ wrap64 ((t : Int) + 4) = ((t + 4 : Nat) : Int) ∧ (0 : Int) ≤ ((t + 4 : Nat) : Int) ∧ ((t + 4 : Nat) : Int) ≤ (n : Int) ∧ ¬ (((t + 4 : Nat) : Int) = 0) := by
  refine ⟨by omega, by unfold wrap64; omega, by omega, by omega, by omega⟩

theorem ar2_2 {t n : Nat} (h : t + 2 ≤ n - 2) (h2 : 2 ≤ n) : t + 4 ≤ n := by omega
theorem ar3_2 {a b i : Nat} (h : a = b - i) (hb : b ≤ 2000) : a ≤ 2000 := by omega
theorem ar4_2 {a b i d k : Nat} (h : a = b - i) (hk : d + 1 + b + 10 < k + 1) : a - 2 + 1 < k := by omega
theorem ar5_2 {a b i : Nat} (h : a = b - i) (hb : b ≤ 2000) : a - 2 ≤ 1000000 := by omega
theorem len_ok_2 {α : Type} {xs : List α} {i n : Nat} (h : xs.length ≤ i) (hi : i ≤ n) (hn : n ≤ 2000) : xs.length < 8796093022208 := by omega

theorem push_ok_2 {α : Type} {xs : List α} {x : α} {i t : Nat} (h : xs.length ≤ i) (ht : 0 < t) : (xs ++ [x]).length ≤ i + t := by simp; omega

theorem text_l0_2 (s : ByteArray) (hs : s.size ≤ 2000) (d : Nat) : ∀ (k i : Nat) (xs : List ByteArray), s.size ≤ i + d → i ≤ s.size → xs.length ≤ i → d + s.size + 10 < k → ∃ r, spec_TextComments.l0 k s xs (i : Int) = some r := by
  induction d with
  | zero =>
    intro k i xs h0 h1 hx hk
    obtain ⟨k, rfl⟩ : ∃ m, k = m + 1 := ⟨k - 1, by omega⟩
    simp only [spec_TextComments.l0]
    rw [if_neg (by omega)]
    exact ⟨_, rfl⟩
  | succ d ih =>
    intro k i xs h0 h1 hx hk
    obtain ⟨k, rfl⟩ : ∃ m, k = m + 1 := ⟨k - 1, by omega⟩
    simp only [spec_TextComments.l0]
    by_cases hi : (i : Int) < (s.size : Int)
    · have e1 : (i : Int).toNat = i := by omega
      rw [if_pos hi, if_pos (by omega), if_pos (by omega), e1]
      obtain ⟨rs, hrs⟩ : ∃ rs, s.extract i s.size = rs := ⟨_, rfl⟩
      have hsz : rs.size = s.size - i := by rw [← hrs]; exact ext_size s i s.size (Nat.le_refl _)
      rw [hrs]
      have next : ∀ (t : Nat) (ys : List ByteArray), 0 < t → t ≤ rs.size → ys.length ≤ i + t → ∃ r, spec_TextComments.l0 k s ys (wrap64 ((i : Int) + (t : Int))) = some r := by
        intro t ys ht htr hys
        rw [show wrap64 ((i : Int) + (t : Int)) = ((i + t : Nat) : Int) by unfold wrap64; omega]
        exact ih k (i + t) ys (by omega) (by omega) hys (by omega)
      obtain ⟨b1, hb1⟩ := begins_any rs ⟨#[47, 47]⟩ (by omega)
      rw [hb1]
      simp only [Option.bind_some]
      cases b1 with
      | true =>
        rw [if_pos rfl]
        obtain ⟨j, hj, hjr⟩ := lineEnd_any rs (by omega)
        rw [hj k (by omega)]
        simp only [Option.bind_some]
        rw [if_pos (show (0 : Int) ≤ (j : Int) by omega), if_pos (show (j : Int) ≤ (rs.size : Int) by omega), if_pos (len_ok_2 hx h1 hs)]
        by_cases hj0 : (j : Int) = 0
        · rw [if_pos hj0]; exact ⟨_, rfl⟩
        · rw [if_neg hj0]
          exact next j _ (by omega) hjr (push_ok_2 hx (by omega))
      | false =>
        rw [if_neg (by decide)]
        obtain ⟨b2, hb2⟩ := begins_any rs ⟨#[47, 42]⟩ (by omega)
        rw [hb2]
        simp only [Option.bind_some]
        cases b2 with
        | true =>
          have h2 : 2 ≤ rs.size := by
            unfold spec_begins.f at hb2
            split at hb2
            · rename_i h
              have e : (⟨#[47, 42]⟩ : ByteArray).size = 2 := rfl
              rw [e] at h
              omega
            · cases hb2
          rw [if_pos rfl, if_pos (show (2 : Int) ≤ (rs.size : Int) by omega)]
          have hsz2 : (rs.extract 2 rs.size).size = rs.size - 2 := ext_size rs 2 rs.size (Nat.le_refl _)
          have hk2 : (rs.extract 2 rs.size).size + 1 < k := by rw [hsz2]; exact ar4_2 hsz hk
          obtain ⟨j, hj, hjr⟩ := find_any (rs.extract 2 rs.size) ⟨#[42, 47]⟩ (by rw [hsz2]; exact ar5_2 hsz hs) (by decide)
          rw [hj k hk2]
          clear hk2 hj
          simp only [Option.bind_some]
          rcases hjr with ⟨rfl, _⟩ | ⟨t, rfl, _, hts, _, _⟩
          · rw [if_pos (show (-1 : Int) < 0 by decide)]; exact ⟨_, rfl⟩
          · have hts' : t + 2 ≤ (rs.extract 2 rs.size).size := hts
            rw [hsz2] at hts'
            have hn1 : rs.size ≤ 2000 := ar3_2 hsz hs
            obtain ⟨c1, c2, c3, c4, c5⟩ := ar1_2 hts' h2 hn1
            have n1 : t + 4 ≤ rs.size := ar2_2 hts' h2
            clear hts hts' hsz2
            rw [if_neg c1, c2, if_pos c3, if_pos c4, if_pos (len_ok_2 hx h1 hs), if_neg c5]
            exact next (t + 4) _ (Nat.succ_pos _) n1 (push_ok_2 hx (Nat.succ_pos _))
        | false =>
          rw [if_neg (by decide)]
          have h1r : 1 ≤ rs.size := by omega
          have c1 : (1 : Int) ≤ (rs.size : Int) := by omega
          rw [if_pos (by decide), if_pos c1]
          obtain ⟨b3, hb3⟩ := has_any ⟨#[34, 39, 96]⟩ (rs.extract 0 1) (by decide) (by rw [ext_size rs 0 1 h1r]; decide)
          have e3 : (⟨#[34, 39, 96]⟩ : ByteArray).size = 3 := rfl
          rw [hb3 k (by rw [e3]; omega)]
          simp only [Option.bind_some]
          cases b3 with
          | true =>
            rw [if_pos rfl]
            obtain ⟨j, hj, hjr⟩ := quoted_any rs (by omega)
            rw [hj k (by omega)]
            simp only [Option.bind_some]
            by_cases hj0 : (j : Int) = 0
            · rw [if_pos hj0]; exact ⟨_, rfl⟩
            · rw [if_neg hj0]
              exact next j _ (by omega) hjr (by omega)
          | false =>
            rw [if_neg (by decide), if_neg (by decide)]
            exact next 1 _ (by omega) h1r (by omega)
    · rw [if_neg hi]
      exact ⟨_, rfl⟩

theorem text_any_2 (s : ByteArray) (hs : s.size ≤ 2000) : ∃ r, ∀ k, 9000 < k → spec_TextComments.f k s = some r := by
  obtain ⟨r, hr⟩ := text_l0_2 s hs s.size 9000 0 [] (by omega) (by omega) (by simp) (by omega)
  exact ⟨r, fun k hk => at_rounds (fun k => spec_TextComments.mono_l k _ _ _) (show 9000 ≤ k by omega) hr⟩

theorem isComment_any_2 (s : ByteArray) (hs : s.size ≤ 2000) : ∃ b, ∀ k, 9000 < k → spec_IsComment.f k s = some b := by
  obtain ⟨⟨xs, ok⟩, hr⟩ := text_any_2 s hs
  obtain ⟨p, hp⟩ := isPlain_any s (by omega)
  by_cases h1 : ok = true
  · by_cases h2 : (xs.length : Int) = 1
    · by_cases h3 : (rdOf ByteArray.empty xs 0).toList = s.toList
      · exact ⟨p, fun k hk => by
          unfold spec_IsComment.f
          rw [hr k hk]
          simp only [Option.bind_some]
          rw [if_pos h1, if_pos h2, if_pos (by omega), if_pos h3, hp k (by omega)]
          rfl⟩
      · exact ⟨false, fun k hk => by
          unfold spec_IsComment.f
          rw [hr k hk]
          simp only [Option.bind_some]
          rw [if_pos h1, if_pos h2, if_pos (by omega), if_neg h3]⟩
    · exact ⟨false, fun k hk => by
        unfold spec_IsComment.f
        rw [hr k hk]
        simp only [Option.bind_some]
        rw [if_pos h1, if_neg h2]⟩
  · exact ⟨false, fun k hk => by
      unfold spec_IsComment.f
      rw [hr k hk]
      simp only [Option.bind_some]
      rw [if_neg h1]⟩

/-- A byte that is a tab, a newline or one from blank to tilde. -/
def Plain (n : Int) : Prop := n = 9 ∨ n = 10 ∨ (32 ≤ n ∧ n ≤ 126)
theorem plain_l0 (s : ByteArray) (hs : s.size ≤ 1000000) : ∀ (k i : Nat), i ≤ s.size → spec_isPlain.l0 k s (s.size : Int) (i : Int) = some true → ∀ u, i ≤ u → u < s.size → Plain (bt s (u : Int))
  | 0, i, _, h => by simp [spec_isPlain.l0] at h
  | k + 1, i, hi, h => by
    intro u h1 h2
    simp only [spec_isPlain.l0] at h
    have hw1 : wrap64 ((i : Int) + 1) = ((i + 1 : Nat) : Int) := by unfold wrap64; omega
    rw [if_pos (by omega), if_pos (by omega), if_pos (by omega), hw1] at h
    have next : spec_isPlain.l0 k s (s.size : Int) ((i + 1 : Nat) : Int) = some true → Plain (bt s (i : Int)) → Plain (bt s (u : Int)) := by
      intro h3 h4
      by_cases hu : u = i
      · rw [hu]; exact h4
      · exact plain_l0 s hs k (i + 1) (by omega) h3 u (by omega) h2
    by_cases a : bt s (i : Int) = 9
    · rw [if_pos a] at h; exact next h (.inl a)
    · rw [if_neg a] at h
      by_cases b : bt s (i : Int) = 10
      · rw [if_pos b] at h; exact next h (.inr (.inl b))
      · rw [if_neg b] at h
        by_cases c : bt s (i : Int) < 32
        · rw [if_pos c] at h; cases h
        · rw [if_neg c] at h
          by_cases d : bt s (i : Int) > 126
          · rw [if_pos d] at h; cases h
          · rw [if_neg d] at h
            exact next h (.inr (.inr ⟨by omega, by omega⟩))

theorem lineEnd_no (s : ByteArray) (hs : s.size ≤ 1000000) : ∀ (k i : Nat) (j : Int), i ≤ s.size → spec_lineEnd.l0 k s (s.size : Int) (i : Int) = some j → (∃ m : Nat, j = (m : Int) ∧ i ≤ m ∧ m ≤ s.size ∧ ∀ u, i ≤ u → u < m → bt s (u : Int) ≠ 10)
  | 0, i, j, _, h => by simp [spec_lineEnd.l0] at h
  | k + 1, i, j, hi, h => by
    simp only [spec_lineEnd.l0] at h
    have hw1 : wrap64 ((i : Int) + 1) = ((i + 1 : Nat) : Int) := by unfold wrap64; omega
    by_cases c : (i : Int) < (s.size : Int)
    · rw [if_pos c, if_pos (by omega), if_pos c, hw1] at h
      by_cases a : bt s (i : Int) = 10
      · rw [if_pos a] at h
        exact ⟨i, (Option.some.inj h).symm, Nat.le_refl _, hi, fun u h1 h2 => by omega⟩
      · rw [if_neg a] at h
        obtain ⟨m, h1, h2, h3, h4⟩ := lineEnd_no s hs k (i + 1) j (by omega) h
        refine ⟨m, h1, by omega, h3, fun u h5 h6 => ?_⟩
        by_cases hu : u = i
        · rw [hu]; exact a
        · exact h4 u (by omega) h6
    · rw [if_neg c] at h
      exact ⟨s.size, (Option.some.inj h).symm, hi, Nat.le_refl _, fun u h1 h2 => by omega⟩

/-- What stood in the list stays ahead; what comes behind place 1 is shorter than the text. -/
theorem text_grows (s : ByteArray) (hs : s.size ≤ 2000) : ∀ (k i : Nat) (xs ys : List ByteArray), i ≤ s.size → spec_TextComments.l0 k s xs (i : Int) = some (ys, true) → ∃ zs, ys = xs ++ zs ∧ (1 ≤ i → ∀ z ∈ zs, z.size < s.size)
  | 0, i, xs, ys, _, h => by simp [spec_TextComments.l0] at h
  | k + 1, i, xs, ys, hi, h => by
    simp only [spec_TextComments.l0] at h
    by_cases c : (i : Int) < (s.size : Int)
    · have e1 : (i : Int).toNat = i := by omega
      rw [if_pos c, if_pos (by omega), if_pos (by omega), e1] at h
      obtain ⟨rs, hrs⟩ : ∃ rs, s.extract i s.size = rs := ⟨_, rfl⟩
      have hsz : rs.size = s.size - i := by rw [← hrs]; exact ext_size s i s.size (Nat.le_refl _)
      rw [hrs] at h
      have next : ∀ (t : Nat) (v : List ByteArray), t ≤ rs.size → (∀ z ∈ v, z.size ≤ t) → spec_TextComments.l0 k s (xs ++ v) (wrap64 ((i : Int) + (t : Int))) = some (ys, true) → 0 < t → ∃ zs, ys = xs ++ zs ∧ (1 ≤ i → ∀ z ∈ zs, z.size < s.size) := by
        intro t v ht hv h2 ht0
        rw [show wrap64 ((i : Int) + (t : Int)) = ((i + t : Nat) : Int) by unfold wrap64; omega] at h2
        obtain ⟨zs, h3, h4⟩ := text_grows s hs k (i + t) (xs ++ v) ys (by omega) h2
        refine ⟨v ++ zs, by rw [h3]; simp, fun h1 z hz => ?_⟩
        rcases List.mem_append.1 hz with hz | hz
        · have := hv z hz; omega
        · exact h4 (by omega) z hz
      obtain ⟨b1, hb1⟩ := begins_any rs ⟨#[47, 47]⟩ (by omega)
      rw [hb1] at h
      simp only [Option.bind_some] at h
      cases b1 with
      | true =>
        rw [if_pos rfl] at h
        obtain ⟨j, hj, h⟩ := Option.bind_eq_some_iff.1 h
        obtain ⟨m, rfl, _, hm, _⟩ := lineEnd_no rs (by omega) k 0 j (Nat.zero_le _) hj
        have em : (m : Int).toNat = m := by omega
        rw [if_pos (by omega), if_pos (by omega), em] at h
        by_cases hl : xs.length < 8796093022208
        · rw [if_pos hl] at h
          by_cases hm0 : (m : Int) = 0
          · rw [if_pos hm0] at h; simp at h
          · rw [if_neg hm0] at h
            exact next m [rs.extract 0 m] hm (fun z hz => by rw [List.mem_singleton.1 hz, ext_size rs 0 m hm]; omega) h (by omega)
        · rw [if_neg hl] at h; cases h
      | false =>
        rw [if_neg (by decide)] at h
        obtain ⟨b2, hb2⟩ := begins_any rs ⟨#[47, 42]⟩ (by omega)
        rw [hb2] at h
        simp only [Option.bind_some] at h
        cases b2 with
        | true =>
          rw [if_pos rfl] at h
          by_cases h2 : (2 : Int) ≤ (rs.size : Int)
          · rw [if_pos h2] at h
            obtain ⟨j, hj, h⟩ := Option.bind_eq_some_iff.1 h
            by_cases hj0 : j < 0
            · rw [if_pos hj0] at h; simp at h
            · rw [if_neg hj0] at h
              by_cases q1 : 0 ≤ wrap64 (j + 4)
              · rw [if_pos q1] at h
                by_cases q2 : wrap64 (j + 4) ≤ (rs.size : Int)
                · rw [if_pos q2] at h
                  by_cases hl : xs.length < 8796093022208
                  · rw [if_pos hl] at h
                    obtain ⟨m, hm⟩ : ∃ m : Nat, wrap64 (j + 4) = (m : Int) := ⟨(wrap64 (j + 4)).toNat, by omega⟩
                    rw [hm] at h q2
                    have em : (m : Int).toNat = m := by omega
                    rw [em] at h
                    by_cases hm0 : (m : Int) = 0
                    · rw [if_pos hm0] at h; simp at h
                    · rw [if_neg hm0] at h
                      exact next m [rs.extract 0 m] (by omega) (fun z hz => by rw [List.mem_singleton.1 hz, ext_size rs 0 m (by omega)]; omega) h (by omega)
                  · rw [if_neg hl] at h; cases h
                · rw [if_neg q2] at h; cases h
              · rw [if_neg q1] at h; cases h
          · rw [if_neg h2] at h; cases h
        | false =>
          rw [if_neg (by decide), if_pos (by decide), if_pos (by omega)] at h
          obtain ⟨b3, hb3, h⟩ := Option.bind_eq_some_iff.1 h
          by_cases hb : b3 = true
          · rw [if_pos hb] at h
            obtain ⟨j, hj, h⟩ := Option.bind_eq_some_iff.1 h
            obtain ⟨q, hq, hqs⟩ := quoted_any rs (by omega)
            have hk : spec_quoted.f (k + rs.size + 1) rs = some j := at_rounds (fun k => spec_quoted.mono_l k _ _) (show k ≤ k + rs.size + 1 by omega) hj
            have : j = (q : Int) := by
              have := hq (k + rs.size + 1) (by omega)
              rw [hk] at this
              exact Option.some.inj this
            subst this
            by_cases hj0 : (q : Int) = 0
            · rw [if_pos hj0] at h; simp at h
            · rw [if_neg hj0] at h
              exact next q [] hqs (fun z hz => by cases hz) (by rw [List.append_nil]; exact h) (by omega)
          · rw [if_neg hb, if_neg (by decide)] at h
            exact next 1 [] (by omega) (fun z hz => by cases hz) (by rw [List.append_nil]; exact h) (by omega)
    · rw [if_neg c] at h
      have := Option.some.inj h
      have e : xs = ys := (Prod.ext_iff.1 this).1
      exact ⟨[], by simp [e], fun _ z hz => by cases hz⟩

theorem begins_bs {s p : ByteArray} {b : Bool} (h : spec_begins.f s p = some b) : b = true ↔ ∃ r, bs s = bs p ++ r := by
  unfold spec_begins.f at h
  by_cases c : (s.size : Int) ≥ (p.size : Int)
  · rw [if_pos c, if_pos (by omega), if_pos c] at h
    have := Option.some.inj h
    rw [← this, beq_iff_eq, bs_list, bs_list, bs_ext, List.drop_zero, Nat.sub_zero, Int.toNat_natCast]
    constructor
    · intro e
      exact ⟨(bs s).drop p.size, by rw [← e, List.take_append_drop]⟩
    · rintro ⟨r, e⟩
      rw [e, ← bs_len p]
      exact List.take_left
  · rw [if_neg c] at h
    have := Option.some.inj h
    rw [← this]
    refine ⟨fun h => (by cases h), fun ⟨r, e⟩ => ?_⟩
    have := congrArg List.length e
    rw [List.length_append, bs_len, bs_len] at this
    omega

/-- A comment: between markers, or behind two slashes without a newline; of plain bytes. -/
def IsC (c : ByteArray) : Prop := ((∃ m a b, bs c = 47 :: 42 :: (m ++ [a, b])) ∨ ∃ r, bs c = 47 :: 47 :: r ∧ 10 ∉ r) ∧ ∀ u, u < c.size → Plain (bt c (u : Int))

theorem isComment_is (s : ByteArray) (hs : s.size ≤ 2000) (k : Nat) (h : spec_IsComment.f k s = some true) : IsC s := by
  unfold spec_IsComment.f at h
  obtain ⟨⟨ys, ok⟩, ht, h⟩ := Option.bind_eq_some_iff.1 h
  simp only at h
  by_cases h1 : ok = true
  · rw [if_pos h1] at h
    subst h1
    by_cases h2 : (ys.length : Int) = 1
    · rw [if_pos h2, if_pos (by omega)] at h
      by_cases h3 : (rdOf ByteArray.empty ys 0).toList = s.toList
      · rw [if_pos h3] at h
        obtain ⟨p, hp, h⟩ := Option.bind_eq_some_iff.1 h
        have hpt : p = true := Option.some.inj h
        subst hpt
        refine ⟨?_, fun u hu => plain_l0 s (by omega) k 0 (Nat.zero_le _) hp u (Nat.zero_le _) hu⟩
        obtain ⟨y, rfl⟩ : ∃ y, ys = [y] := by
          match ys, h2 with
          | [y], _ => exact ⟨y, rfl⟩
          | [], h2 => simp at h2
          | _ :: _ :: _, h2 => simp at h2; omega
        have hy : y = s := by
          rw [bs_list, bs_list] at h3
          exact bs_inj h3
        subst hy
        have ht' : spec_TextComments.l0 k y [] ((0 : Nat) : Int) = some ([y], true) := ht
        clear ht h h2 h3 hp
        obtain ⟨k, rfl⟩ : ∃ m, k = m + 1 := by
          cases k with
          | zero => simp [spec_TextComments.l0] at ht'
          | succ m => exact ⟨m, rfl⟩
        simp only [spec_TextComments.l0] at ht'
        by_cases c : (((0 : Nat) : Int)) < (y.size : Int)
        · have e0 : y.extract 0 y.size = y := ByteArray.extract_zero_size
          have et : ((0 : Nat) : Int).toNat = 0 := rfl
          rw [if_pos c, if_pos (by omega), if_pos (by omega), et, e0] at ht'
          have more : ∀ (t : Nat) (v : List ByteArray), t ≤ y.size → 0 < t → spec_TextComments.l0 k y v (wrap64 (((0 : Nat) : Int) + (t : Int))) = some ([y], true) → ∃ zs, [y] = v ++ zs ∧ ∀ z ∈ zs, z.size < y.size := by
            intro t v h1 h2 h3
            rw [show wrap64 (((0 : Nat) : Int) + (t : Int)) = ((t : Nat) : Int) by unfold wrap64; omega] at h3
            obtain ⟨zs, h4, h5⟩ := text_grows y hs k t v [y] h1 h3
            exact ⟨zs, h4, h5 h2⟩
          have none_ : ∀ t : Nat, t ≤ y.size → 0 < t → spec_TextComments.l0 k y [] (wrap64 (((0 : Nat) : Int) + (t : Int))) = some ([y], true) → False := by
            intro t h1 h2 h3
            obtain ⟨zs, h4, h5⟩ := more t [] h1 h2 h3
            rw [List.nil_append] at h4
            have := h5 y (by rw [← h4]; simp)
            omega
          have one_ : ∀ t : Nat, t ≤ y.size → 0 < t → spec_TextComments.l0 k y [y.extract 0 t] (wrap64 (((0 : Nat) : Int) + (t : Int))) = some ([y], true) → t = y.size := by
            intro t h1 h2 h3
            obtain ⟨zs, h4, h5⟩ := more t _ h1 h2 h3
            have : y = y.extract 0 t := by simpa using (List.cons.inj h4).1
            have hz := congrArg ByteArray.size this
            rw [ext_size y 0 t h1] at hz
            omega
          obtain ⟨b1, hb1⟩ := begins_any y ⟨#[47, 47]⟩ (by omega)
          rw [hb1] at ht'
          simp only [Option.bind_some] at ht'
          cases b1 with
          | true =>
            rw [if_pos rfl] at ht'
            obtain ⟨j, hj, ht'⟩ := Option.bind_eq_some_iff.1 ht'
            obtain ⟨m, rfl, _, hm, hno⟩ := lineEnd_no y (by omega) k 0 j (Nat.zero_le _) hj
            have em : (m : Int).toNat = m := by omega
            rw [if_pos (by omega), if_pos (by omega), em, if_pos (by simp)] at ht'
            by_cases hm0 : (m : Int) = 0
            · rw [if_pos hm0] at ht'; simp at ht'
            · rw [if_neg hm0] at ht'
              have hms := one_ m hm (by omega) ht'
              subst hms
              obtain ⟨r, hr⟩ := (begins_bs hb1).1 rfl
              refine .inr ⟨r, hr, fun hm10 => ?_⟩
              have hmem : (10 : UInt8) ∈ bs y := by rw [hr]; exact List.mem_append_right _ hm10
              obtain ⟨u, hu, he⟩ := List.getElem_of_mem hmem
              have hu2 : u < y.size := by rw [← bs_len]; exact hu
              exact hno u (Nat.zero_le _) hu2 (bt_get (i := u) (x := 10) (by rw [List.getElem?_eq_getElem hu, he]))
          | false =>
            rw [if_neg (by decide)] at ht'
            obtain ⟨b2, hb2⟩ := begins_any y ⟨#[47, 42]⟩ (by omega)
            rw [hb2] at ht'
            simp only [Option.bind_some] at ht'
            cases b2 with
            | true =>
              rw [if_pos rfl] at ht'
              obtain ⟨r, hr⟩ := (begins_bs hb2).1 rfl
              have hz : y.size = r.length + 2 := by rw [← bs_len, hr]; simp [bs]
              rw [if_pos (by omega)] at ht'
              obtain ⟨j, hj, ht'⟩ := Option.bind_eq_some_iff.1 ht'
              by_cases hj0 : j < 0
              · rw [if_pos hj0] at ht'; simp at ht'
              · rw [if_neg hj0] at ht'
                obtain ⟨q, hq, hqr⟩ := find_any (y.extract 2 y.size) ⟨#[42, 47]⟩ (by rw [ext_size y 2 y.size (Nat.le_refl _)]; omega) (by decide)
                have hz2 := ext_size y 2 y.size (Nat.le_refl _)
                have hk : spec_find.f (k + y.size + 10) (y.extract 2 y.size) ⟨#[42, 47]⟩ = some j := at_rounds (fun k => spec_find.mono_l k _ _ _) (show k ≤ k + y.size + 10 by omega) hj
                have hjq : j = q := by
                  have := hq (k + y.size + 10) (by rw [hz2]; omega)
                  rw [hk] at this
                  exact Option.some.inj this
                subst hjq
                rcases hqr with ⟨rfl, _⟩ | ⟨t, rfl, _, hts, _, _⟩
                · exact absurd (by decide) hj0
                · have hts' : t + 2 ≤ (y.extract 2 y.size).size := hts
                  rw [hz2] at hts'
                  have hw : wrap64 ((t : Int) + 4) = ((t + 4 : Nat) : Int) := by unfold wrap64; omega
                  have em : ((t + 4 : Nat) : Int).toNat = t + 4 := by omega
                  rw [hw, if_pos (by omega), if_pos (by omega), em, if_pos (by simp), if_neg (by omega)] at ht'
                  have hms := one_ (t + 4) (by omega) (by omega) ht'
                  have hrl : 2 ≤ r.length := by omega
                  refine .inl ?_
                  rcases List.eq_nil_or_concat r with rfl | ⟨r1, b, rfl⟩
                  · simp at hrl
                  · rcases List.eq_nil_or_concat r1 with rfl | ⟨r2, a, rfl⟩
                    · simp at hrl
                    · exact ⟨r2, a, b, by rw [hr]; simp [bs]⟩
            | false =>
              exfalso
              rw [if_neg (by decide), if_pos (by decide), if_pos (by omega)] at ht'
              obtain ⟨b3, hb3, ht'⟩ := Option.bind_eq_some_iff.1 ht'
              by_cases hb : b3 = true
              · rw [if_pos hb] at ht'
                obtain ⟨j, hj, ht'⟩ := Option.bind_eq_some_iff.1 ht'
                obtain ⟨q, hq, hqs⟩ := quoted_any y (by omega)
                have hk : spec_quoted.f (k + y.size + 1) y = some j := at_rounds (fun k => spec_quoted.mono_l k _ _) (show k ≤ k + y.size + 1 by omega) hj
                have hjq : j = (q : Int) := by
                  have := hq (k + y.size + 1) (by omega)
                  rw [hk] at this
                  exact Option.some.inj this
                subst hjq
                by_cases hj0 : (q : Int) = 0
                · rw [if_pos hj0] at ht'; simp at ht'
                · rw [if_neg hj0] at ht'
                  exact none_ q hqs (by omega) ht'
              · rw [if_neg hb, if_neg (by decide)] at ht'
                exact none_ 1 (by omega) (by omega) ht'
        · rw [if_neg c] at ht'
          simp at ht'
      · rw [if_neg h3] at h; cases h
    · rw [if_neg h2] at h; cases h
  · rw [if_neg h1] at h; cases h
end Go.Proofs.Yteaelkeiocogfaa.A
