/- The law of FnDirectiveText: the text of a directive's comment is empty. -/
import Derived.Test.YtcjiafjahfmdoaaDoorPureR
import Derived.Test.YtcjiafjahfmdoaaDoorA18
namespace Go.Proofs.YtcjiafjahfmdoaaDoor.A
open Go.RowKit Go.Proofs.YtcjiafjahfmdoaaDoorW.PrintWords Go.Proofs.YtcjiafjahfmdoaaDoorW.PrintLast Go.Proofs.YtcjiafjahfmdoaaDoorW.PrintMore
set_option linter.unusedVariables false
set_option linter.unusedSimpArgs false
theorem find_eq : ∀ k a b i, spec_find.l0 k a b i = goprinter_go_ast_zzIndex.l0 k a b i
  | 0, _, _, _ => rfl
  | k + 1, a, b, i => by simp only [spec_find.l0, goprinter_go_ast_zzIndex.l0, find_eq k]

theorem find_any (s p : ByteArray) (hs : s.size ≤ 1000000) (hp : p.size ≤ 1000000) : ∃ j, (∀ k, s.size + 1 < k → spec_find.f k s p = some j) ∧ FindR s p 0 j := by
  obtain ⟨j, hj, hr⟩ := index_any s p hs hp
  exact ⟨j, fun k hk => (find_eq k s p 0).trans (hj k hk), hr⟩

theorem lineEnd_l0 (s : ByteArray) (hs : s.size ≤ 1000000) (d : Nat) : ∀ (k i : Nat), s.size ≤ i + d → i ≤ s.size → d < k → ∃ j : Nat, spec_lineEnd.l0 k s (s.size : Int) (i : Int) = some (j : Int) ∧ j ≤ s.size := by
  induction d with
  | zero =>
    intro k i h0 h1 hk
    obtain ⟨k, rfl⟩ : ∃ m, k = m + 1 := ⟨k - 1, by omega⟩
    simp only [spec_lineEnd.l0]
    rw [if_neg (by omega)]
    exact ⟨_, rfl, Nat.le_refl _⟩
  | succ d ih =>
    intro k i h0 h1 hk
    obtain ⟨k, rfl⟩ : ∃ m, k = m + 1 := ⟨k - 1, by omega⟩
    have hw1 : wrap64 ((i : Int) + 1) = ((i + 1 : Nat) : Int) := by unfold wrap64; omega
    simp only [spec_lineEnd.l0]
    by_cases hi : (i : Int) < (s.size : Int)
    · rw [if_pos hi, if_pos (by omega), if_pos hi]
      split
      · exact ⟨i, rfl, by omega⟩
      · rw [hw1]
        exact ih k (i + 1) (by omega) (by omega) (by omega)
    · rw [if_neg hi]
      exact ⟨_, rfl, Nat.le_refl _⟩

theorem lineEnd_any (s : ByteArray) (hs : s.size ≤ 1000000) : ∃ j : Nat, (∀ k, s.size < k → spec_lineEnd.f k s = some (j : Int)) ∧ j ≤ s.size := by
  obtain ⟨j, hj, hr⟩ := lineEnd_l0 s hs s.size (s.size + 1) 0 (by omega) (by omega) (by omega)
  exact ⟨j, fun k hk => at_rounds (fun k => spec_lineEnd.mono_l k _ _ _) hk hj, hr⟩

theorem quoted_l0 (s : ByteArray) (hs : s.size ≤ 1000000) (d : Nat) : ∀ (k i : Nat), s.size ≤ i + d → i ≤ s.size + 1 → d < k → ∃ j : Nat, spec_quoted.l0 k s (i : Int) = some (j : Int) ∧ j ≤ s.size := by
  induction d with
  | zero =>
    intro k i h0 h1 hk
    obtain ⟨k, rfl⟩ : ∃ m, k = m + 1 := ⟨k - 1, by omega⟩
    simp only [spec_quoted.l0]
    rw [if_neg (by omega)]
    exact ⟨0, rfl, by omega⟩
  | succ d ih =>
    intro k i h0 h1 hk
    obtain ⟨k, rfl⟩ : ∃ m, k = m + 1 := ⟨k - 1, by omega⟩
    have hw1 : wrap64 ((i : Int) + 1) = ((i + 1 : Nat) : Int) := by unfold wrap64; omega
    have hw2 : wrap64 (((i + 1 : Nat) : Int) + 1) = ((i + 1 + 1 : Nat) : Int) := by unfold wrap64; omega
    simp only [spec_quoted.l0]
    by_cases hi : (i : Int) < (s.size : Int)
    · have a1 := ih k (i + 1) (by omega) (by omega) (by omega)
      have a2 := ih k (i + 1 + 1) (by omega) (by omega) (by omega)
      rw [if_pos hi, if_pos (by omega), if_pos (by omega), hw1, hw2]
      split
      · exact ⟨i + 1, rfl, by omega⟩
      · split
        · exact a1
        · split
          · exact ⟨0, rfl, by omega⟩
          · split
            · exact a2
            · exact a1
    · rw [if_neg hi]
      exact ⟨0, rfl, by omega⟩

theorem quoted_any (s : ByteArray) (hs : s.size ≤ 1000000) : ∃ j : Nat, (∀ k, s.size < k → spec_quoted.f k s = some (j : Int)) ∧ j ≤ s.size := by
  obtain ⟨j, hj, hr⟩ := quoted_l0 s hs s.size (s.size + 1) 1 (by omega) (by omega) (by omega)
  exact ⟨j, fun k hk => at_rounds (fun k => spec_quoted.mono_l k _ _) hk hj, hr⟩

theorem has_any (s p : ByteArray) (hs : s.size ≤ 1000000) (hp : p.size ≤ 1000000) : ∃ b, ∀ k, s.size + 1 < k → spec_has.f k s p = some b := by
  obtain ⟨j, hj, _⟩ := find_any s p hs hp
  exact ⟨_, fun k hk => by unfold spec_has.f; rw [hj k hk]; rfl⟩

theorem ar1 {t n : Nat} (h : t + 2 ≤ n - 2) (h2 : 2 ≤ n) (hn : n ≤ 1000) : ¬ ((t : Int) < 0) ∧ wrap64 ((t : Int) + 4) = ((t + 4 : Nat) : Int) ∧ (0 : Int) ≤ ((t + 4 : Nat) : Int) ∧ ((t + 4 : Nat) : Int) ≤ (n : Int) ∧ ¬ (((t + 4 : Nat) : Int) = 0) := by
  refine ⟨by omega, by unfold wrap64; omega, by omega, by omega, by omega⟩

theorem ar2 {t n : Nat} (h : t + 2 ≤ n - 2) (h2 : 2 ≤ n) : t + 4 ≤ n := by omega
theorem ar3 {a b i : Nat} (h : a = b - i) (hb : b ≤ 1000) : a ≤ 1000 := by omega
theorem ar4 {a b i d k : Nat} (h : a = b - i) (hk : d + 1 + b + 10 < k + 1) : a - 2 + 1 < k := by omega
theorem ar5 {a b i : Nat} (h : a = b - i) (hb : b ≤ 1000) : a - 2 ≤ 1000000 := by omega
theorem len_ok {α : Type} {xs : List α} {i n : Nat} (h : xs.length ≤ i) (hi : i ≤ n) (hn : n ≤ 1000) : xs.length < 8796093022208 := by omega

theorem push_ok {α : Type} {xs : List α} {x : α} {i t : Nat} (h : xs.length ≤ i) (ht : 0 < t) : (xs ++ [x]).length ≤ i + t := by simp; omega

theorem text_l0 (s : ByteArray) (hs : s.size ≤ 1000) (d : Nat) : ∀ (k i : Nat) (xs : List ByteArray), s.size ≤ i + d → i ≤ s.size → xs.length ≤ i → d + s.size + 10 < k → ∃ r, spec_TextComments.l0 k s xs (i : Int) = some r := by
  induction d with
  | zero =>
    intro k i xs h0 h1 hx hk
    obtain ⟨k, rfl⟩ : ∃ m, k = m + 1 := ⟨k - 1, by omega⟩
    simp only [spec_TextComments.l0]
    rw [if_neg (by omega)]
    exact ⟨_, rfl⟩
  | succ d ih =>
    intro k i xs h0 h1 hx hk
    obtain ⟨k, rfl⟩ : ∃ m, k = m + 1 := ⟨k - 1, by omega⟩
    simp only [spec_TextComments.l0]
    by_cases hi : (i : Int) < (s.size : Int)
    · have e1 : (i : Int).toNat = i := by omega
      rw [if_pos hi, if_pos (by omega), if_pos (by omega), e1]
      obtain ⟨rs, hrs⟩ : ∃ rs, s.extract i s.size = rs := ⟨_, rfl⟩
      have hsz : rs.size = s.size - i := by rw [← hrs]; exact ext_size s i s.size (Nat.le_refl _)
      rw [hrs]
      have next : ∀ (t : Nat) (ys : List ByteArray), 0 < t → t ≤ rs.size → ys.length ≤ i + t → ∃ r, spec_TextComments.l0 k s ys (wrap64 ((i : Int) + (t : Int))) = some r := by
        intro t ys ht htr hys
        rw [show wrap64 ((i : Int) + (t : Int)) = ((i + t : Nat) : Int) by unfold wrap64; omega]
        exact ih k (i + t) ys (by omega) (by omega) hys (by omega)
      obtain ⟨b1, hb1⟩ := begins_any rs ⟨#[47, 47]⟩ (by omega)
      rw [hb1]
      simp only [Option.bind_some]
      cases b1 with
      | true =>
        rw [if_pos rfl]
        obtain ⟨j, hj, hjr⟩ := lineEnd_any rs (by omega)
        rw [hj k (by omega)]
        simp only [Option.bind_some]
        rw [if_pos (show (0 : Int) ≤ (j : Int) by omega), if_pos (show (j : Int) ≤ (rs.size : Int) by omega), if_pos (len_ok hx h1 hs)]
        by_cases hj0 : (j : Int) = 0
        · rw [if_pos hj0]; exact ⟨_, rfl⟩
        · rw [if_neg hj0]
          exact next j _ (by omega) hjr (push_ok hx (by omega))
      | false =>
        rw [if_neg (by decide)]
        obtain ⟨b2, hb2⟩ := begins_any rs ⟨#[47, 42]⟩ (by omega)
        rw [hb2]
        simp only [Option.bind_some]
        cases b2 with
        | true =>
          have h2 : 2 ≤ rs.size := by
            unfold spec_begins.f at hb2
            split at hb2
            · rename_i h
              have e : (⟨#[47, 42]⟩ : ByteArray).size = 2 := rfl
              rw [e] at h
              omega
            · cases hb2
          rw [if_pos rfl, if_pos (show (2 : Int) ≤ (rs.size : Int) by omega)]
          have hsz2 : (rs.extract 2 rs.size).size = rs.size - 2 := ext_size rs 2 rs.size (Nat.le_refl _)
          have hk2 : (rs.extract 2 rs.size).size + 1 < k := by rw [hsz2]; exact ar4 hsz hk
          obtain ⟨j, hj, hjr⟩ := find_any (rs.extract 2 rs.size) ⟨#[42, 47]⟩ (by rw [hsz2]; exact ar5 hsz hs) (by decide)
          rw [hj k hk2]
          clear hk2 hj
          simp only [Option.bind_some]
          rcases hjr with ⟨rfl, _⟩ | ⟨t, rfl, _, hts, _, _⟩
          · rw [if_pos (show (-1 : Int) < 0 by decide)]; exact ⟨_, rfl⟩
          · have hts' : t + 2 ≤ (rs.extract 2 rs.size).size := hts
            rw [hsz2] at hts'
            have hn1 : rs.size ≤ 1000 := ar3 hsz hs
            obtain ⟨c1, c2, c3, c4, c5⟩ := ar1 hts' h2 hn1
            have n1 : t + 4 ≤ rs.size := ar2 hts' h2
            clear hts hts' hsz2
            rw [if_neg c1, c2, if_pos c3, if_pos c4, if_pos (len_ok hx h1 hs), if_neg c5]
            exact next (t + 4) _ (Nat.succ_pos _) n1 (push_ok hx (Nat.succ_pos _))
        | false =>
          rw [if_neg (by decide)]
          have h1r : 1 ≤ rs.size := by omega
          have c1 : (1 : Int) ≤ (rs.size : Int) := by omega
          rw [if_pos (by decide), if_pos c1]
          obtain ⟨b3, hb3⟩ := has_any ⟨#[34, 39, 96]⟩ (rs.extract 0 1) (by decide) (by rw [ext_size rs 0 1 h1r]; decide)
          have e3 : (⟨#[34, 39, 96]⟩ : ByteArray).size = 3 := rfl
          rw [hb3 k (by rw [e3]; omega)]
          simp only [Option.bind_some]
          cases b3 with
          | true =>
            rw [if_pos rfl]
            obtain ⟨j, hj, hjr⟩ := quoted_any rs (by omega)
            rw [hj k (by omega)]
            simp only [Option.bind_some]
            by_cases hj0 : (j : Int) = 0
            · rw [if_pos hj0]; exact ⟨_, rfl⟩
            · rw [if_neg hj0]
              exact next j _ (by omega) hjr (by omega)
          | false =>
            rw [if_neg (by decide), if_neg (by decide)]
            exact next 1 _ (by omega) h1r (by omega)
    · rw [if_neg hi]
      exact ⟨_, rfl⟩

theorem text_any (s : ByteArray) (hs : s.size ≤ 1000) : ∃ r, ∀ k, 3000 < k → spec_TextComments.f k s = some r := by
  obtain ⟨r, hr⟩ := text_l0 s hs s.size 3000 0 [] (by omega) (by omega) (by simp) (by omega)
  exact ⟨r, fun k hk => at_rounds (fun k => spec_TextComments.mono_l k _ _ _) (show 3000 ≤ k by omega) hr⟩

theorem isComment_any (s : ByteArray) (hs : s.size ≤ 1000) : ∃ b, ∀ k, 3000 < k → spec_IsComment.f k s = some b := by
  obtain ⟨⟨xs, ok⟩, hr⟩ := text_any s hs
  obtain ⟨p, hp⟩ := isPlain_any s (by omega)
  by_cases h1 : ok = true
  · by_cases h2 : (xs.length : Int) = 1
    · by_cases h3 : (rdOf ByteArray.empty xs 0).toList = s.toList
      · exact ⟨p, fun k hk => by
          unfold spec_IsComment.f
          rw [hr k hk]
          simp only [Option.bind_some]
          rw [if_pos h1, if_pos h2, if_pos (by omega), if_pos h3, hp k (by omega)]
          rfl⟩
      · exact ⟨false, fun k hk => by
          unfold spec_IsComment.f
          rw [hr k hk]
          simp only [Option.bind_some]
          rw [if_pos h1, if_pos h2, if_pos (by omega), if_neg h3]⟩
    · exact ⟨false, fun k hk => by
        unfold spec_IsComment.f
        rw [hr k hk]
        simp only [Option.bind_some]
        rw [if_pos h1, if_neg h2]⟩
  · exact ⟨false, fun k hk => by
      unfold spec_IsComment.f
      rw [hr k hk]
      simp only [Option.bind_some]
      rw [if_neg h1]⟩

theorem dir_l0 (s : ByteArray) (hs : s.size ≤ 1000000) (j : Nat) (hj : j + 1 < s.size) (d : Nat) : ∀ (k i : Nat), j + 2 ≤ i + d → d < k →
    ∃ b, goprinter_go_ast_isDirective.l0 k s (j : Int) (i : Int) = some b ∧ (b = true ↔ ∀ u, i ≤ u → u ≤ j + 1 → u ≠ j → Sm (bt s (u : Int))) := by
  have hw0 : wrap64 ((j : Int) + 1) = ((j + 1 : Nat) : Int) := by unfold wrap64; omega
  have stop : ∀ k i : Nat, ¬ (i ≤ j + 1) → ∃ b, goprinter_go_ast_isDirective.l0 (k + 1) s (j : Int) (i : Int) = some b ∧ (b = true ↔ ∀ u, i ≤ u → u ≤ j + 1 → u ≠ j → Sm (bt s (u : Int))) := by
    intro k i hi
    refine ⟨true, ?_, ⟨fun _ u h1 h2 => by omega, fun _ => rfl⟩⟩
    simp only [goprinter_go_ast_isDirective.l0]
    rw [hw0, if_neg (by omega)]
  induction d with
  | zero =>
    intro k i h0 hk
    obtain ⟨k, rfl⟩ : ∃ m, k = m + 1 := ⟨k - 1, by omega⟩
    exact stop k i (by omega)
  | succ d ih =>
    intro k i h0 hk
    obtain ⟨k, rfl⟩ : ∃ m, k = m + 1 := ⟨k - 1, by omega⟩
    by_cases hi : i ≤ j + 1
    · have hw1 : wrap64 ((i : Int) + 1) = ((i + 1 : Nat) : Int) := by unfold wrap64; omega
      obtain ⟨b, hb, hiff⟩ := ih k (i + 1) (by omega) (by omega)
      simp only [goprinter_go_ast_isDirective.l0]
      rw [hw0, if_pos (by omega), hw1]
      by_cases hij : i = j
      · subst hij
        rw [if_pos rfl]
        refine ⟨b, hb, hiff.trans ⟨fun h u h1 h2 h3 => h u (by omega) h2 h3, fun h u h1 h2 h3 => h u (by omega) h2 h3⟩⟩
      · rw [if_neg (by omega), if_pos (by omega), if_pos (by omega)]
        obtain ⟨n, hn⟩ : ∃ n, bt s (i : Int) = n := ⟨_, rfl⟩
        rw [hn]
        by_cases hsm : Sm n
        · refine ⟨b, ?_, ?_⟩
          · unfold Sm at hsm
            rcases hsm with ⟨h1, h2⟩ | ⟨h1, h2⟩
            · rw [if_pos h1, if_pos h2]; exact hb
            · rw [if_neg (by omega), if_pos h1, if_pos h2]; exact hb
          · refine hiff.trans ⟨fun h u h1 h2 h3 => ?_, fun h u h1 h2 h3 => h u (by omega) h2 h3⟩
            by_cases hu : u = i
            · rw [hu, hn]; exact hsm
            · exact h u (by omega) h2 h3
        · refine ⟨false, ?_, ⟨fun h => (by cases h), fun h => absurd (by have := h i (Nat.le_refl _) hi hij; rwa [hn] at this) hsm⟩⟩
          unfold Sm at hsm
          by_cases h1 : 97 ≤ n
          · rw [if_pos h1, if_neg (by omega)]
            by_cases h2 : 48 ≤ n
            · rw [if_pos h2, if_neg (by omega)]
            · rw [if_neg h2]
          · rw [if_neg h1]
            by_cases h2 : 48 ≤ n
            · rw [if_pos h2, if_neg (by omega)]
            · rw [if_neg h2]
    · exact stop k i hi

theorem prefix_eq (a b : ByteArray) : strings_HasPrefix.f a b = spec_begins.f a b := by
  unfold strings_HasPrefix.f
  show (spec_begins.f a b).bind (fun t => some t) = _
  cases spec_begins.f a b <;> rfl

theorem dir_yes (s : ByteArray) (hs : s.size ≤ 200000) (t : Nat) (ht : Colon s t) (k : Nat) (hk : 500000 < k) : goprinter_go_ast_isDirective.f k s = some true := by
  obtain ⟨b1, h1⟩ := begins_any s ⟨#[108, 105, 110, 101, 32]⟩ (by omega)
  obtain ⟨b2, h2⟩ := begins_any s ⟨#[101, 120, 116, 101, 114, 110, 32]⟩ (by omega)
  obtain ⟨b3, h3⟩ := begins_any s ⟨#[101, 120, 112, 111, 114, 116, 32]⟩ (by omega)
  have yes : ∀ k, 500000 < k → goprinter_go_ast_isDirective.j0 k s true = some true := by
    intro k hk
    obtain ⟨k, rfl⟩ : ∃ m, k = m + 1 := ⟨k - 1, by omega⟩
    simp [goprinter_go_ast_isDirective.j0]
  have no : ∀ k, 500000 < k → goprinter_go_ast_isDirective.j0 k s false = some true := by
    intro k hk
    obtain ⟨k, rfl⟩ : ∃ m, k = m + 1 := ⟨k - 1, by omega⟩
    obtain ⟨j, hj, hjc⟩ := colon_index s (by omega)
    have hts := ht.2.2.1
    simp only [goprinter_go_ast_isDirective.j0]
    rw [if_neg (by decide), hj k (by omega)]
    simp only [Option.bind_some]
    rcases hjc with ⟨rfl, hno⟩ | ⟨u, rfl, hf⟩
    · exact absurd ht.1 (hno t)
    · have hut : u = t := hf.uniq ht.1
      subst hut
      have ht0 := ht.2.1
      have hw : wrap64 ((u : Int) + 1) = ((u + 1 : Nat) : Int) := by unfold wrap64; omega
      rw [if_neg (by omega), hw, decide_eq_false (by omega)]
      obtain ⟨k, rfl⟩ : ∃ m, k = m + 1 := ⟨k - 1, by omega⟩
      simp only [goprinter_go_ast_isDirective.j1]
      rw [if_neg (by decide)]
      obtain ⟨b, hb, hiff⟩ := dir_l0 s (by omega) u (by omega) (u + 2) k 0 (by omega) (by omega)
      have hb' : goprinter_go_ast_isDirective.l0 k s (u : Int) 0 = some b := hb
      rw [hb', hiff.2 fun v _ h1 h2 => ht.2.2.2 v h1 h2]
  unfold goprinter_go_ast_isDirective.f
  rw [prefix_eq, h1]
  simp only [Option.bind_some]
  cases b1 with
  | true => rw [if_pos rfl, yes k hk]
  | false =>
    rw [if_neg (by decide), prefix_eq, h2]
    simp only [Option.bind_some]
    cases b2 with
    | true => rw [if_pos rfl, yes k hk]
    | false =>
      rw [if_neg (by decide), prefix_eq, h3]
      simp only [Option.bind_some]
      cases b3 with
      | true => exact yes k hk
      | false => exact no k hk

theorem dir_lines (c : ByteArray) (hc : c.size ≤ 1000) (r : Bs) (hr : bs c = 47 :: 47 :: r) (t : Nat) (ht : Colon (c.extract 2 c.size) t) (k : Nat) (hk : 600000 < k) : textLines.f k [c] = some [] := by
  obtain ⟨k, rfl⟩ : ∃ m, k = m + 1 := ⟨k - 1, by omega⟩
  have hz : c.size = r.length + 2 := by rw [← bs_len, hr]; simp
  have b1 : bt c 1 = 47 := bt_get (i := 1) (x := 47) (by rw [hr]; rfl)
  obtain ⟨s, hs⟩ : ∃ s, c.extract 2 c.size = s := ⟨_, rfl⟩
  rw [hs] at ht
  have hsz : s.size = c.size - 2 := by rw [← hs]; exact ext_size c 2 c.size (Nat.le_refl _)
  have hts := ht.2.2.1
  have b32 : ¬ (bt s 0 = 32) := fun e => by
    have := ht.2.2.2 0 (Nat.zero_le _) (by have := ht.2.1; omega)
    have e' : bt s ((0 : Nat) : Int) = 32 := e
    rw [e'] at this
    unfold Sm at this
    omega
  have hd := dir_yes s (by omega) t ht k (by omega)
  have hw : wrap64 ((0 : Int) + 1) = 1 := by unfold wrap64; omega
  have hlen : (([c] : List ByteArray).length : Int) = 1 := rfl
  have hrd : rdOf ByteArray.empty [c] 0 = c := rfl
  have hend : textLines.l0 k [] [c] 1 1 = some [] := by
    obtain ⟨k, rfl⟩ : ∃ m, k = m + 1 := ⟨k - 1, by omega⟩
    simp only [textLines.l0]
    rw [if_neg (by decide)]
  clear ht hr
  unfold textLines.f
  simp only [textLines.l0]
  rw [hlen, hrd, if_pos (by decide), if_pos (by decide), if_pos (by decide), if_pos (by omega), if_pos b1, if_pos (by omega), hs, if_neg (by omega), if_pos (by omega), if_neg b32, hd]
  simp only [Option.bind_some]
  rw [if_pos trivial, hw]
  exact hend
theorem dir_text (c : ByteArray) (hc : c.size ≤ 1000) (r : Bs) (hr : bs c = 47 :: 47 :: r) (t : Nat) (ht : Colon (c.extract 2 c.size) t) : impl_CommentText.f [c] = some ⟨#[]⟩ := by
  unfold impl_CommentText.f
  rw [if_pos (by show 1 ≤ 1000000; decide)]
  unfold textF
  rw [dir_lines c hc r hr t ht _ (by decide)]
  simp only [Option.bind_some]
  rw [if_pos (by show 0 ≤ 1000000000; decide)]
  rfl

theorem fnDirectiveText_law (a0 : ByteArray) (a1 : Int) : ∃ k, laws_FnDirectiveText.f k a0 a1 = some true := by
  refine ⟨20002, ?_⟩
  have jt : ∀ k, laws_FnDirectiveText.j0 (k + 1) a0 a1 true = some true := fun k => by simp only [laws_FnDirectiveText.j0]; rw [if_pos trivial]
  unfold laws_FnDirectiveText.f
  by_cases c1 : (a0.size : Int) > 2147483647
  · rw [if_pos c1]
  rw [if_neg c1]
  by_cases c2 : (a0.size : Int) > 1000
  · rw [if_pos c2]; exact jt _
  rw [if_neg c2]
  have hs : a0.size ≤ 1000 := by omega
  obtain ⟨bc, hbc⟩ := isComment_any a0 hs
  rw [hbc 20002 (by decide)]
  simp only [Option.bind_some]
  cases bc with
  | false => rw [if_neg (by decide)]; exact jt _
  | true =>
  rw [if_pos rfl]
  obtain ⟨b, hb, hline⟩ := line_any a0 hs 20002 (by decide)
  rw [hb]
  simp only [Option.bind_some]
  cases b with
  | false => rw [if_neg (by decide)]; exact jt _
  | true =>
    rw [if_pos rfl]
    have hp := hline rfl
    by_cases c3 : a1 < 0
    · rw [if_pos c3]; exact jt _
    rw [if_neg c3]
    by_cases c4 : a1 > 1000000
    · rw [decide_eq_true c4]; exact jt _
    rw [decide_eq_false c4]
    have e : laws_FnDirectiveText.j0 20002 a0 a1 false = ((spec_Directive.f 20001 a1 a0).bind fun bt186 => ((impl_ParseDirective.f a1 a0).bind fun bt193 => (if (bt193.2.2.2.2.2 == bt186.2.2.2.2.2) = true then (if bt193.2.2.2.2.2 = true then ((impl_CommentText.f (([a0] : List ByteArray))).bind fun t203 => (some (t203.toList == ([] : List UInt8)))) else (some true)) else (some false)))) := by
      show laws_FnDirectiveText.j0 (20001 + 1) a0 a1 false = _
      rw [laws_FnDirectiveText.j0]
      rw [if_neg (by decide)]
    rw [e]
    by_cases hx : ∃ r, bs a0 = 47 :: 47 :: r ∧ ∃ t, Colon (a0.extract 2 a0.size) t
    · obtain ⟨r, hr, t, ht⟩ := hx
      rw [spec_yes a1 a0 hs (by omega) (by omega) ⟨r, hr⟩ t ht 20001 (by decide), impl_yes a1 a0 hs hp (by omega) (by omega) ⟨r, hr⟩ t ht, dir_text a0 hs r hr t ht]
      simp only [Option.bind_some]
      rw [bs_list]
      rfl
    · have hno : ∀ r, bs a0 = 47 :: 47 :: r → ∀ t, ¬ Colon (a0.extract 2 a0.size) t := fun r hr t ht => hx ⟨r, hr, t, ht⟩
      rw [spec_no a1 a0 hs hno 20001 (by decide), impl_no a1 a0 hs hno]
      rfl
end Go.Proofs.YtcjiafjahfmdoaaDoor.A
