/- What counts as a directive: the package's answer and the reference's are the same, at texts of at most 200000 bytes. -/
import Derived.Test.YteaelkeiocogfaaPureU
namespace Go.Proofs.Yteaelkeiocogfaa.A
open Go.RowKit Go.Proofs.YteaelkeiocogfaaW.PrintWords Go.Proofs.YteaelkeiocogfaaW.PrintLast Go.Proofs.YteaelkeiocogfaaW.PrintMore
set_option linter.unusedVariables false
set_option linter.unusedSimpArgs false

/-- A small letter or a digit. -/
def Sm (n : Int) : Prop := (97 ≤ n ∧ n ≤ 122) ∨ (48 ≤ n ∧ n ≤ 57)
instance (n : Int) : Decidable (Sm n) := by unfold Sm; infer_instance
theorem small_any (n : Int) : spec_isSmall.f n = some (decide (Sm n)) := by
  unfold spec_isSmall.f
  by_cases a : n ≥ 97
  · rw [if_pos a]
    by_cases b : n ≤ 122
    · rw [if_pos b, decide_eq_true (show Sm n from .inl ⟨a, b⟩)]
    · rw [if_neg b]
      by_cases c : n ≥ 48
      · have h : ¬ n ≤ 57 := by omega
        have h2 : ¬ Sm n := by unfold Sm; omega
        rw [if_pos c, decide_eq_false h, decide_eq_false h2]
      · omega
  · rw [if_neg a]
    by_cases c : n ≥ 48
    · rw [if_pos c]
      by_cases d : n ≤ 57
      · rw [decide_eq_true d, decide_eq_true (show Sm n from .inr ⟨c, d⟩)]
      · have h2 : ¬ Sm n := by unfold Sm; omega
        rw [decide_eq_false d, decide_eq_false h2]
    · have h2 : ¬ Sm n := by unfold Sm; omega
      rw [if_neg c, decide_eq_false h2]

abbrev colonB : ByteArray := ⟨#[58]⟩
/-- The first colon stands at t. -/
def First (s : ByteArray) (t : Nat) : Prop := t < s.size ∧ bt s (t : Int) = 58 ∧ ∀ u, u < t → bt s (u : Int) ≠ 58
/-- .. behind small letters and digits, at least one, and ahead of one. -/
def Colon (s : ByteArray) (t : Nat) : Prop := First s t ∧ 0 < t ∧ t + 1 < s.size ∧ ∀ u, u ≤ t + 1 → u ≠ t → Sm (bt s (u : Int))
theorem First.uniq {s : ByteArray} {t u : Nat} (h : First s t) (h' : First s u) : t = u := by
  rcases Nat.lt_trichotomy t u with hl | hl | hl
  · exact absurd h.2.1 (h'.2.2 t hl)
  · exact hl
  · exact absurd h'.2.1 (h.2.2 u hl)
theorem at_colon {s : ByteArray} {t : Nat} (h : t < s.size) : At s colonB t ↔ bt s (t : Int) = 58 := by
  have h2 : t < (bs s).length := by rw [bs_len]; exact h
  have e : (s.extract t (t + colonB.size)).toList = [(bs s)[t]] := by
    rw [bs_list, bs_ext, List.drop_eq_getElem_cons h2]
    have : t + colonB.size - t = 1 := by show t + 1 - t = 1; omega
    rw [this]
    rfl
  have en : colonB.toList = [58] := by rw [bs_list]; rfl
  unfold At
  rw [e, en, bt_bs h]
  constructor
  · intro hx
    have := List.head_eq_of_cons_eq hx
    rw [this]; rfl
  · intro hx
    rw [(nat_byte (a := (bs s)[t]) (n := 58) (by omega)).1 hx]; rfl
theorem colon_index (s : ByteArray) (hs : s.size ≤ 1000000) : ∃ j : Int, (∀ k, s.size + 1 < k → goprinter_go_ast_zzIndex.f k s colonB = some j) ∧ ((j = -1 ∧ ∀ t, ¬ First s t) ∨ ∃ t : Nat, j = (t : Int) ∧ First s t) := by
  obtain ⟨j, hj, hr⟩ := index_any s colonB hs (by decide)
  refine ⟨j, hj, ?_⟩
  rcases hr with ⟨rfl, hr⟩ | ⟨t, rfl, _, hts, hat, hno⟩
  · exact .inl ⟨rfl, fun t ht => hr t (Nat.zero_le _) ht.1 ((at_colon ht.1).2 ht.2.1)⟩
  · have h1 : t < s.size := hts
    exact .inr ⟨t, rfl, h1, (at_colon h1).1 hat, fun u hu h => hno u (Nat.zero_le _) hu ((at_colon (show u < s.size by omega)).2 h)⟩

theorem dir_l0 (s : ByteArray) (hs : s.size ≤ 1000000) (j : Nat) (hj : j + 1 < s.size) (d : Nat) : ∀ (k i : Nat), j + 2 ≤ i + d → d < k →
    ∃ b, goprinter_go_ast_isDirective.l0 k s (j : Int) (i : Int) = some b ∧ (b = true ↔ ∀ u, i ≤ u → u ≤ j + 1 → u ≠ j → Sm (bt s (u : Int))) := by
  have hw0 : wrap64 ((j : Int) + 1) = ((j + 1 : Nat) : Int) := by unfold wrap64; omega
  have stop : ∀ k i : Nat, ¬ (i ≤ j + 1) → ∃ b, goprinter_go_ast_isDirective.l0 (k + 1) s (j : Int) (i : Int) = some b ∧ (b = true ↔ ∀ u, i ≤ u → u ≤ j + 1 → u ≠ j → Sm (bt s (u : Int))) := by
    intro k i hi
    refine ⟨true, ?_, ⟨fun _ u h1 h2 => by omega, fun _ => rfl⟩⟩
    simp only [goprinter_go_ast_isDirective.l0]
    rw [hw0, if_neg (by omega)]
  induction d with
  | zero =>
    intro k i h0 hk
    obtain ⟨k, rfl⟩ : ∃ m, k = m + 1 := ⟨k - 1, by omega⟩
    exact stop k i (by omega)
  | succ d ih =>
    intro k i h0 hk
    obtain ⟨k, rfl⟩ : ∃ m, k = m + 1 := ⟨k - 1, by omega⟩
    by_cases hi : i ≤ j + 1
    · have hw1 : wrap64 ((i : Int) + 1) = ((i + 1 : Nat) : Int) := by unfold wrap64; omega
      obtain ⟨b, hb, hiff⟩ := ih k (i + 1) (by omega) (by omega)
      simp only [goprinter_go_ast_isDirective.l0]
      rw [hw0, if_pos (by omega), hw1]
      by_cases hij : i = j
      · subst hij
        rw [if_pos rfl]
        refine ⟨b, hb, hiff.trans ⟨fun h u h1 h2 h3 => h u (by omega) h2 h3, fun h u h1 h2 h3 => h u (by omega) h2 h3⟩⟩
      · rw [if_neg (by omega), if_pos (by omega), if_pos (by omega)]
        obtain ⟨n, hn⟩ : ∃ n, bt s (i : Int) = n := ⟨_, rfl⟩
        rw [hn]
        by_cases hsm : Sm n
        · refine ⟨b, ?_, ?_⟩
          · unfold Sm at hsm
            rcases hsm with ⟨h1, h2⟩ | ⟨h1, h2⟩
            · rw [if_pos h1, if_pos h2]; exact hb
            · rw [if_neg (by omega), if_pos h1, if_pos h2]; exact hb
          · refine hiff.trans ⟨fun h u h1 h2 h3 => ?_, fun h u h1 h2 h3 => h u (by omega) h2 h3⟩
            by_cases hu : u = i
            · rw [hu, hn]; exact hsm
            · exact h u (by omega) h2 h3
        · refine ⟨false, ?_, ⟨fun h => (by cases h), fun h => absurd (by have := h i (Nat.le_refl _) hi hij; rwa [hn] at this) hsm⟩⟩
          unfold Sm at hsm
          by_cases h1 : 97 ≤ n
          · rw [if_pos h1, if_neg (by omega)]
            by_cases h2 : 48 ≤ n
            · rw [if_pos h2, if_neg (by omega)]
            · rw [if_neg h2]
          · rw [if_neg h1]
            by_cases h2 : 48 ≤ n
            · rw [if_pos h2, if_neg (by omega)]
            · rw [if_neg h2]
    · exact stop k i hi

theorem colon_l0 (s : ByteArray) (hs : s.size ≤ 1000000) (d : Nat) : ∀ (k i : Nat), s.size ≤ i + d → i ≤ s.size → 2 * d + 1 < k → (∀ u, u < i → Sm (bt s (u : Int)) ∧ bt s (u : Int) ≠ 58) →
    ∃ r : Int, spec_colonOf.l0 k s (s.size : Int) (i : Int) = some r ∧ ((r = -1 ∧ ∀ t, ¬ Colon s t) ∨ ∃ t : Nat, r = (t : Int) ∧ Colon s t) := by
  have stop : ∀ k i : Nat, ¬ (i < s.size) → (∀ u, u < i → Sm (bt s (u : Int)) ∧ bt s (u : Int) ≠ 58) → ∃ r : Int, spec_colonOf.l0 (k + 1) s (s.size : Int) (i : Int) = some r ∧ ((r = -1 ∧ ∀ t, ¬ Colon s t) ∨ ∃ t : Nat, r = (t : Int) ∧ Colon s t) := by
    intro k i hi hall
    refine ⟨-1, ?_, .inl ⟨rfl, fun t ht => (hall t (by have := ht.1.1; omega)).2 ht.1.2.1⟩⟩
    simp only [spec_colonOf.l0]
    rw [if_neg (by omega)]
  induction d with
  | zero =>
    intro k i h0 h1 hk hall
    obtain ⟨k, rfl⟩ : ∃ m, k = m + 1 := ⟨k - 1, by omega⟩
    exact stop k i (by omega) hall
  | succ d ih =>
    intro k i h0 h1 hk hall
    obtain ⟨k, rfl⟩ : ∃ m, k = m + 1 := ⟨k - 1, by omega⟩
    by_cases hi : i < s.size
    · have hw1 : wrap64 ((i : Int) + 1) = ((i + 1 : Nat) : Int) := by unfold wrap64; omega
      have c0 : (i : Int) < (s.size : Int) := by omega
      have c1 : (0 : Int) ≤ (i : Int) := by omega
      simp only [spec_colonOf.l0]
      rw [if_pos c0, if_pos c1, if_pos c0, hw1]
      obtain ⟨k, rfl⟩ : ∃ m, k = m + 1 := ⟨k - 1, by omega⟩
      by_cases h58 : bt s (i : Int) = 58
      · have hf : First s i := ⟨hi, h58, fun u hu => (hall u hu).2⟩
        have hns : ¬ Sm 58 := by unfold Sm; omega
        have no : (¬ Colon s i) → ∃ r : Int, spec_colonOf.j1 (k + 1) s (i : Int) (s.size : Int) (i : Int) false = some r ∧ ((r = -1 ∧ ∀ t, ¬ Colon s t) ∨ ∃ t : Nat, r = (t : Int) ∧ Colon s t) := by
          intro hc
          refine ⟨-1, ?_, .inl ⟨rfl, fun t ht => hc (by have := hf.uniq ht.1; rw [this]; exact ht)⟩⟩
          simp only [spec_colonOf.j1]
          rw [if_neg (by decide), if_pos c1, if_pos c0, small_any, h58, decide_eq_false hns]
          rfl
        rw [if_pos h58]
        by_cases hp : (i : Int) > 0
        · rw [if_pos hp]
          by_cases hq : ((i + 1 : Nat) : Int) < (s.size : Int)
          · rw [if_pos hq, if_pos (by omega), small_any]
            simp only [Option.bind_some]
            by_cases hsm : Sm (bt s ((i + 1 : Nat) : Int))
            · rw [decide_eq_true hsm]
              refine ⟨(i : Int), by simp [spec_colonOf.j1], .inr ⟨i, rfl, hf, by omega, by omega, fun u h2 h3 => ?_⟩⟩
              by_cases hu : u = i + 1
              · rw [hu]; exact hsm
              · exact (hall u (by omega)).1
            · rw [decide_eq_false hsm]
              exact no fun hc => hsm (hc.2.2.2 (i + 1) (Nat.le_refl _) (by omega))
          · rw [if_neg hq]
            exact no fun hc => by have := hc.2.2.1; omega
        · rw [if_neg hp]
          exact no fun hc => by have := hc.2.1; omega
      · rw [if_neg h58]
        simp only [spec_colonOf.j1]
        rw [if_neg (by decide), if_pos c1, if_pos c0, small_any]
        simp only [Option.bind_some]
        by_cases hsm : Sm (bt s (i : Int))
        · rw [decide_eq_true hsm, if_pos rfl, hw1]
          refine ih k (i + 1) (by omega) (by omega) (by omega) fun u hu => ?_
          by_cases hui : u = i
          · rw [hui]; exact ⟨hsm, h58⟩
          · exact hall u (by omega)
        · rw [decide_eq_false hsm, if_neg (by decide)]
          refine ⟨-1, rfl, .inl ⟨rfl, fun t ht => ?_⟩⟩
          have hti : i ≤ t := by
            by_cases h : i ≤ t
            · exact h
            · exact absurd ht.1.2.1 (hall t (by omega)).2
          exact hsm (ht.2.2.2 i (by omega) (fun e => h58 (by rw [e]; exact ht.1.2.1)))
    · exact stop k i hi hall

theorem colonOf_any (s : ByteArray) (hs : s.size ≤ 1000000) : ∃ r : Int, (∀ k, 2 * s.size + 1 < k → spec_colonOf.f k s = some r) ∧ ((r = -1 ∧ ∀ t, ¬ Colon s t) ∨ ∃ t : Nat, r = (t : Int) ∧ Colon s t) := by
  obtain ⟨r, hr, h⟩ := colon_l0 s hs s.size (2 * s.size + 2) 0 (by omega) (by omega) (by omega) (fun u hu => by omega)
  exact ⟨r, fun k hk => at_rounds (fun k => (spec_colonOf.mono_l k).1 _ _ _) (show 2 * s.size + 2 ≤ k by omega) hr, h⟩

theorem prefix_eq (a b : ByteArray) : strings_HasPrefix.f a b = spec_begins.f a b := by
  unfold strings_HasPrefix.f
  show (spec_begins.f a b).bind (fun t => some t) = _
  cases spec_begins.f a b <;> rfl

/-- Both tell the same of a directive. -/
theorem dir_any (s : ByteArray) (hs : s.size ≤ 200000) : ∃ b, (∀ k, 500000 < k → goprinter_go_ast_isDirective.f k s = some b) ∧ (∀ k, 500000 < k → spec_isDirective.f k s = some b) := by
  obtain ⟨b1, h1⟩ := begins_any s ⟨#[108, 105, 110, 101, 32]⟩ (by omega)
  obtain ⟨b2, h2⟩ := begins_any s ⟨#[101, 120, 116, 101, 114, 110, 32]⟩ (by omega)
  obtain ⟨b3, h3⟩ := begins_any s ⟨#[101, 120, 112, 111, 114, 116, 32]⟩ (by omega)
  have yes : ∀ k, 500000 < k → goprinter_go_ast_isDirective.j0 k s true = some true := by
    intro k hk
    obtain ⟨k, rfl⟩ : ∃ m, k = m + 1 := ⟨k - 1, by omega⟩
    simp [goprinter_go_ast_isDirective.j0]
  cases b1 with
  | true =>
    refine ⟨true, fun k hk => ?_, fun k hk => ?_⟩
    · unfold goprinter_go_ast_isDirective.f
      rw [prefix_eq, h1]
      simp only [Option.bind_some]
      rw [if_pos trivial, yes k hk]
    · unfold spec_isDirective.f
      rw [h1]
      simp only [Option.bind_some]
      rw [if_pos trivial]
  | false =>
    cases b2 with
    | true =>
      refine ⟨true, fun k hk => ?_, fun k hk => ?_⟩
      · unfold goprinter_go_ast_isDirective.f
        rw [prefix_eq, h1]
        simp only [Option.bind_some]
        rw [if_neg (by decide), prefix_eq, h2]
        simp only [Option.bind_some]
        rw [if_pos trivial, yes k hk]
      · unfold spec_isDirective.f
        rw [h1]
        simp only [Option.bind_some]
        rw [if_neg (by decide), h2]
        simp only [Option.bind_some]
        rw [if_pos trivial]
    | false =>
      cases b3 with
      | true =>
        refine ⟨true, fun k hk => ?_, fun k hk => ?_⟩
        · unfold goprinter_go_ast_isDirective.f
          rw [prefix_eq, h1]
          simp only [Option.bind_some]
          rw [if_neg (by decide), prefix_eq, h2]
          simp only [Option.bind_some]
          rw [if_neg (by decide), prefix_eq, h3]
          simp only [Option.bind_some]
          rw [yes k hk]
        · unfold spec_isDirective.f
          rw [h1]
          simp only [Option.bind_some]
          rw [if_neg (by decide), h2]
          simp only [Option.bind_some]
          rw [if_neg (by decide), h3]
          simp only [Option.bind_some]
          rw [if_pos trivial]
      | false =>
        obtain ⟨r, hr, hrc⟩ := colonOf_any s (by omega)
        obtain ⟨j, hj, hjc⟩ := colon_index s (by omega)
        have hspec : ∀ k, 500000 < k → spec_isDirective.f k s = some (decide (r > 0)) := by
          intro k hk
          unfold spec_isDirective.f
          rw [h1]
          simp only [Option.bind_some]
          rw [if_neg (by decide), h2]
          simp only [Option.bind_some]
          rw [if_neg (by decide), h3]
          simp only [Option.bind_some]
          rw [if_neg (by decide), hr k (by omega)]
          rfl
        refine ⟨decide (r > 0), fun k hk => ?_, hspec⟩
        unfold goprinter_go_ast_isDirective.f
        rw [prefix_eq, h1]
        simp only [Option.bind_some]
        rw [if_neg (by decide), prefix_eq, h2]
        simp only [Option.bind_some]
        rw [if_neg (by decide), prefix_eq, h3]
        simp only [Option.bind_some]
        obtain ⟨k, rfl⟩ : ∃ m, k = m + 1 := ⟨k - 1, by omega⟩
        simp only [goprinter_go_ast_isDirective.j0]
        rw [if_neg (by decide), hj k (by omega)]
        simp only [Option.bind_some]
        have j1t : ∀ x, goprinter_go_ast_isDirective.j1 k s x true = some false := by
          intro x
          obtain ⟨k, rfl⟩ : ∃ m, k = m + 1 := ⟨k - 1, by omega⟩
          simp [goprinter_go_ast_isDirective.j1]
        rcases hjc with ⟨rfl, hno⟩ | ⟨t, rfl, hf⟩
        · rw [if_pos (by decide), j1t]
          rcases hrc with ⟨rfl, _⟩ | ⟨t, _, hc⟩
          · rfl
          · exact absurd hc.1 (hno t)
        · have neg : (¬ Colon s t) → decide (r > 0) = false := by
            intro hc
            rcases hrc with ⟨rfl, _⟩ | ⟨u, _, hu⟩
            · rfl
            · exact absurd (by rw [hf.uniq hu.1]; exact hu) hc
          by_cases ht0 : (t : Int) ≤ 0
          · rw [if_pos ht0, j1t, neg fun hc => by have := hc.2.1; omega]
          · rw [if_neg ht0]
            have hts := hf.1
            have hw : wrap64 ((t : Int) + 1) = ((t + 1 : Nat) : Int) := by unfold wrap64; omega
            rw [hw]
            by_cases hge : ((t + 1 : Nat) : Int) ≥ (s.size : Int)
            · rw [decide_eq_true hge, j1t, neg fun hc => by have := hc.2.2.1; omega]
            · rw [decide_eq_false hge]
              obtain ⟨k, rfl⟩ : ∃ m, k = m + 1 := ⟨k - 1, by omega⟩
              simp only [goprinter_go_ast_isDirective.j1]
              rw [if_neg (by decide)]
              obtain ⟨b, hb, hiff⟩ := dir_l0 s (by omega) t (by omega) (t + 2) k 0 (by omega) (by omega)
              have hb' : goprinter_go_ast_isDirective.l0 k s (t : Int) 0 = some b := hb
              rw [hb']
              congr 1
              cases b with
              | true =>
                have hall := hiff.1 rfl
                have hc : Colon s t := ⟨hf, by omega, by omega, fun u h1 h2 => hall u (Nat.zero_le _) h1 h2⟩
                rcases hrc with ⟨_, hno⟩ | ⟨u, rfl, hu⟩
                · exact absurd hc (hno t)
                · have := hu.2.1
                  rw [decide_eq_true (by omega)]
              | false =>
                rw [neg fun hc => by have := hiff.2 (fun u _ h1 h2 => hc.2.2.2 u h1 h2); cases this]
end Go.Proofs.Yteaelkeiocogfaa.A
