/- spec.isPlaced ends, and says of a true answer that the tree is one of expressions; where a tree begins and ends; the law. -/
import Derived.Test.YtbojpbfckgjgbaaGreatPureA
namespace Go.Proofs.YtbojpbfckgjgbaaGreat.A
open Go.RowKit Go.Proofs.YtbojpbfckgjgbaaGreatW.PrintWords Go.Proofs.YtbojpbfckgjgbaaGreatW.PrintLast Go.Proofs.YtbojpbfckgjgbaaGreatW.PrintMore
set_option linter.unusedVariables false
set_option linter.unusedSimpArgs false

theorem form_facts {k : ByteArray} {t l : Nat} {m f e : Bool} (h : formB k = some (t, l, m, f, e)) : 1 ≤ t ∧ t ≤ 2 ∧ l ≤ 3 ∧ (f = false → 1 ≤ l) ∧ (e = false → 1 ≤ l) := by
  rcases form_kinds h with rfl | rfl | rfl | rfl | rfl | rfl | rfl | rfl | rfl | rfl | rfl | rfl | rfl | rfl | rfl | rfl | rfl | rfl
  · rw [form_name] at h; have h := Option.some.inj h; simp only [Prod.mk.injEq] at h; obtain ⟨rfl, rfl, rfl, rfl, rfl⟩ := h; decide
  · rw [form_int] at h; have h := Option.some.inj h; simp only [Prod.mk.injEq] at h; obtain ⟨rfl, rfl, rfl, rfl, rfl⟩ := h; decide
  · rw [form_points] at h; have h := Option.some.inj h; simp only [Prod.mk.injEq] at h; obtain ⟨rfl, rfl, rfl, rfl, rfl⟩ := h; decide
  · rw [form_paren] at h; have h := Option.some.inj h; simp only [Prod.mk.injEq] at h; obtain ⟨rfl, rfl, rfl, rfl, rfl⟩ := h; decide
  · rw [form_selector] at h; have h := Option.some.inj h; simp only [Prod.mk.injEq] at h; obtain ⟨rfl, rfl, rfl, rfl, rfl⟩ := h; decide
  · rw [form_index] at h; have h := Option.some.inj h; simp only [Prod.mk.injEq] at h; obtain ⟨rfl, rfl, rfl, rfl, rfl⟩ := h; decide
  · rw [form_assert] at h; have h := Option.some.inj h; simp only [Prod.mk.injEq] at h; obtain ⟨rfl, rfl, rfl, rfl, rfl⟩ := h; decide
  · rw [form_slice] at h; have h := Option.some.inj h; simp only [Prod.mk.injEq] at h; obtain ⟨rfl, rfl, rfl, rfl, rfl⟩ := h; decide
  · rw [form_call] at h; have h := Option.some.inj h; simp only [Prod.mk.injEq] at h; obtain ⟨rfl, rfl, rfl, rfl, rfl⟩ := h; decide
  · rw [form_composite] at h; have h := Option.some.inj h; simp only [Prod.mk.injEq] at h; obtain ⟨rfl, rfl, rfl, rfl, rfl⟩ := h; decide
  · rw [form_braces] at h; have h := Option.some.inj h; simp only [Prod.mk.injEq] at h; obtain ⟨rfl, rfl, rfl, rfl, rfl⟩ := h; decide
  · rw [form_star] at h; have h := Option.some.inj h; simp only [Prod.mk.injEq] at h; obtain ⟨rfl, rfl, rfl, rfl, rfl⟩ := h; decide
  · rw [form_not] at h; have h := Option.some.inj h; simp only [Prod.mk.injEq] at h; obtain ⟨rfl, rfl, rfl, rfl, rfl⟩ := h; decide
  · rw [form_slicetype] at h; have h := Option.some.inj h; simp only [Prod.mk.injEq] at h; obtain ⟨rfl, rfl, rfl, rfl, rfl⟩ := h; decide
  · rw [form_chantype] at h; have h := Option.some.inj h; simp only [Prod.mk.injEq] at h; obtain ⟨rfl, rfl, rfl, rfl, rfl⟩ := h; decide
  · rw [form_maptype] at h; have h := Option.some.inj h; simp only [Prod.mk.injEq] at h; obtain ⟨rfl, rfl, rfl, rfl, rfl⟩ := h; decide
  · rw [form_add] at h; have h := Option.some.inj h; simp only [Prod.mk.injEq] at h; obtain ⟨rfl, rfl, rfl, rfl, rfl⟩ := h; decide
  · rw [form_keyvalue] at h; have h := Option.some.inj h; simp only [Prod.mk.injEq] at h; obtain ⟨rfl, rfl, rfl, rfl, rfl⟩ := h; decide

theorem is_l1 (D K : Nat) (hD : D ≤ 1000) (kids : List S25) (h20 : kids.length ≤ 20)
    (hf : ∀ (n : S25) (k : Nat), K ≤ k → ∃ b, spec_isPlaced.f k n.f0 n.f1 n.f2 n.f3 (D : Int) = some b ∧ (b = true → GoodP D n)) (d : Nat) :
    ∀ (i k : Nat), i + d = kids.length → K + d + 1 ≤ k → ∃ b, spec_isPlaced.l1 k ((D + 1 : Nat) : Int) kids (kids.length : Int) (i : Int) = some b ∧ (b = true → ∀ j : Nat, i ≤ j → j < kids.length → GoodP D (rd_T25 kids (j : Int))) := by
  induction d with
  | zero =>
    intro i k hi hk
    obtain ⟨k, rfl⟩ : ∃ m, k = m + 1 := ⟨k - 1, by omega⟩
    simp only [spec_isPlaced.l1]
    rw [if_neg (by omega)]
    exact ⟨_, rfl, fun _ j h1 h2 => absurd h2 (by omega)⟩
  | succ d ih =>
    intro i k hi hk
    obtain ⟨k, rfl⟩ : ∃ m, k = m + 1 := ⟨k - 1, by omega⟩
    simp only [spec_isPlaced.l1]
    have hw : wrap64 (((D + 1 : Nat) : Int) - 1) = (D : Int) := by unfold wrap64; omega
    have hw1 : wrap64 ((i : Int) + 1) = ((i + 1 : Nat) : Int) := by unfold wrap64; omega
    obtain ⟨b, hb, hb1⟩ := hf (rd_T25 kids (i : Int)) k (by omega)
    rw [if_pos (by omega), if_pos (by omega), if_pos (by omega), hw, hb]
    simp only [Option.bind_some]
    rw [hw1]
    cases b with
    | false => rw [if_neg (by decide)]; exact ⟨_, rfl, fun h => by cases h⟩
    | true =>
      rw [if_pos rfl]
      obtain ⟨b', h4, h5⟩ := ih (i + 1) k (by omega) (by omega)
      refine ⟨b', h4, fun h j h1 h2 => ?_⟩
      by_cases c : j = i
      · subst c; exact hb1 rfl
      · exact h5 h j (by omega) h2

theorem is_l0 (x1 : Int) (K : Nat) (P : Prop) (xs : List Int) (h2 : xs.length ≤ 2) (f0 f1 : ByteArray) (f2 : List Int) (kids : List S25)
    (hf : ∀ (k : Nat), K ≤ k → ∃ b, spec_isPlaced.l1 k x1 kids (kids.length : Int) 0 = some b ∧ (b = true → P)) (d : Nat) :
    ∀ (i k : Nat), i + d = xs.length → K + d + 1 ≤ k → ∃ b, spec_isPlaced.l0 k x1 xs (xs.length : Int) (i : Int) f0 f1 f2 kids = some b ∧ (b = true → (∀ j : Nat, i ≤ j → j < xs.length → 1 ≤ rd xs (j : Int) ∧ rd xs (j : Int) ≤ 1000000) ∧ P) := by
  induction d with
  | zero =>
    intro i k hi hk
    obtain ⟨k, rfl⟩ : ∃ m, k = m + 1 := ⟨k - 1, by omega⟩
    simp only [spec_isPlaced.l0]
    rw [if_neg (by omega)]
    obtain ⟨b, hb, hb1⟩ := hf k (by omega)
    exact ⟨b, hb, fun h => ⟨fun j h1 h2 => absurd h2 (by omega), hb1 h⟩⟩
  | succ d ih =>
    intro i k hi hk
    obtain ⟨k, rfl⟩ : ∃ m, k = m + 1 := ⟨k - 1, by omega⟩
    simp only [spec_isPlaced.l0]
    have hw1 : wrap64 ((i : Int) + 1) = ((i + 1 : Nat) : Int) := by unfold wrap64; omega
    rw [if_pos (by omega), if_pos (by omega), if_pos (by omega), hw1]
    by_cases c1 : rd xs (i : Int) < 1
    · rw [if_pos c1]; exact ⟨_, rfl, fun h => by cases h⟩
    · rw [if_neg c1]
      by_cases c2 : rd xs (i : Int) > 1000000
      · rw [if_pos c2]; exact ⟨_, rfl, fun h => by cases h⟩
      · rw [if_neg c2]
        obtain ⟨b', h4, h5⟩ := ih (i + 1) k (by omega) (by omega)
        refine ⟨b', h4, fun h => ⟨fun j h1 h2 => ?_, (h5 h).2⟩⟩
        by_cases c : j = i
        · subst c; exact ⟨by omega, by omega⟩
        · exact (h5 h).1 j (by omega) h2

theorem is_j2 (x1 : Int) (K : Nat) (P : Prop) (f0 f1 : ByteArray) (f2 : List Int) (kids : List S25)
    (hf : ∀ (k : Nat), K ≤ k → ∃ b, spec_isPlaced.l0 k x1 f2 (f2.length : Int) 0 f0 f1 f2 kids = some b ∧ (b = true → P)) (x : Bool) (k : Nat) (hk : K + 1 ≤ k) :
    ∃ b, spec_isPlaced.j2 k x1 x f0 f1 f2 kids = some b ∧ (b = true → x = false ∧ P) := by
  obtain ⟨k, rfl⟩ : ∃ m, k = m + 1 := ⟨k - 1, by omega⟩
  simp only [spec_isPlaced.j2]
  cases x with
  | true => rw [if_pos rfl]; exact ⟨_, rfl, fun h => by cases h⟩
  | false =>
    rw [if_neg (by decide)]
    obtain ⟨b, hb, hb1⟩ := hf k (by omega)
    exact ⟨b, hb, fun h => ⟨rfl, hb1 h⟩⟩

theorem is_j1 (x1 : Int) (K : Nat) (P : Prop) (f0 f1 : ByteArray) (f2 : List Int) (kids : List S25)
    (hf : ∀ (k : Nat), K ≤ k → ∃ b, spec_isPlaced.l0 k x1 f2 (f2.length : Int) 0 f0 f1 f2 kids = some b ∧ (b = true → P)) (x : Bool) (k : Nat) (hk : K + 2 ≤ k) :
    ∃ b, spec_isPlaced.j1 k x1 x f0 f1 f2 kids = some b ∧ (b = true → f1.size ≤ 1000 ∧ P) := by
  obtain ⟨k, rfl⟩ : ∃ m, k = m + 1 := ⟨k - 1, by omega⟩
  simp only [spec_isPlaced.j1]
  split
  · obtain ⟨b, hb, hb1⟩ := is_j2 x1 K P f0 f1 f2 kids hf true k (by omega)
    exact ⟨b, hb, fun h => absurd (hb1 h).1 (by decide)⟩
  · obtain ⟨b, hb, hb1⟩ := is_j2 x1 K P f0 f1 f2 kids hf (decide ((f1.size : Int) > 1000)) k (by omega)
    refine ⟨b, hb, fun h => ⟨?_, (hb1 h).2⟩⟩
    have := of_decide_eq_false (hb1 h).1
    omega

theorem is_j0 (x1 : Int) (K : Nat) (P : Prop) (f0 f1 : ByteArray) (f2 : List Int) (kids : List S25)
    (hf : ∀ (k : Nat), K ≤ k → ∃ b, spec_isPlaced.l0 k x1 f2 (f2.length : Int) 0 f0 f1 f2 kids = some b ∧ (b = true → P)) (k : Nat) (hk : K + 3 ≤ k) :
    ∃ b, spec_isPlaced.j0 k x1 false f0 f1 f2 kids = some b ∧ (b = true → f1.size ≤ 1000 ∧ P) := by
  obtain ⟨k, rfl⟩ : ∃ m, k = m + 1 := ⟨k - 1, by omega⟩
  simp only [spec_isPlaced.j0]
  rw [if_neg (by decide)]
  split
  · exact is_j1 x1 K P f0 f1 f2 kids hf _ k (by omega)
  · split
    · exact is_j1 x1 K P f0 f1 f2 kids hf _ k (by omega)
    · exact is_j1 x1 K P f0 f1 f2 kids hf _ k (by omega)

theorem is_no (x1 : Int) (f0 f1 : ByteArray) (f2 : List Int) (kids : List S25) (Q : Prop) (k : Nat) (hk : 1 ≤ k) :
    ∃ b, spec_isPlaced.j0 k x1 true f0 f1 f2 kids = some b ∧ (b = true → Q) := by
  obtain ⟨k, rfl⟩ : ∃ m, k = m + 1 := ⟨k - 1, by omega⟩
  simp only [spec_isPlaced.j0]
  rw [if_pos trivial]
  exact ⟨_, rfl, fun h => by cases h⟩

theorem form_step (k : Nat) (h : 5 ≤ k) : ∃ K, k = K + 1 ∧ 4 ≤ K ∧ ∀ b, spec_formOf.f K b = some (formT b) := by
  obtain ⟨k, rfl⟩ : ∃ m, k = (m + 4) + 1 := ⟨k - 5, by omega⟩
  exact ⟨k + 4, rfl, by omega, form_said k⟩

theorem placed_total (D : Nat) : D ≤ 1000 → ∀ (n : S25) (k : Nat), D * 40 + 10 ≤ k → ∃ b, spec_isPlaced.f k n.f0 n.f1 n.f2 n.f3 (D : Int) = some b ∧ (b = true → GoodP D n) := by
  induction D with
  | zero =>
    intro hD n k hk
    obtain ⟨k, rfl, h4k, form_said⟩ := form_step k (by omega)
    simp only [spec_isPlaced.f]
    rw [form_said]
    simp only [Option.bind_some]
    split
    · rw [if_pos (by omega)]; exact is_no _ _ _ _ _ _ _ (by omega)
    · exact is_no _ _ _ _ _ _ _ (by omega)
  | succ D ih =>
    intro hD n k hk
    have ih' := ih (by omega)
    obtain ⟨K, hK⟩ : ∃ K, K = D * 40 + 10 := ⟨_, rfl⟩
    have hk2 : K + 40 ≤ k := by omega
    rw [← hK] at ih'
    clear ih hK hk
    obtain ⟨k, rfl, h4k, form_said⟩ := form_step k (by omega)
    simp only [spec_isPlaced.f]
    rw [form_said]
    simp only [Option.bind_some]
    cases hf : formB n.f0 with
    | none =>
      have hT : formT n.f0 = (0, 0, false, false, false, false) := by unfold formT; rw [hf]
      rw [hT]
      simp only
      rw [if_neg (by decide)]
      exact is_no _ _ _ _ _ _ _ (by omega)
    | some x =>
      obtain ⟨t, l, m, f, e⟩ := x
      have hT : formT n.f0 = ((t : Int), (l : Int), m, f, e, true) := by unfold formT; rw [hf]
      rw [hT]
      simp only
      rw [if_pos trivial, if_neg (by omega)]
      obtain ⟨ht1, ht2, hl3, -, -⟩ := form_facts hf
      by_cases c1 : (n.f2.length : Int) = (t : Int)
      · rw [if_pos c1]
        by_cases c2 : (n.f3.length : Int) < (l : Int)
        · rw [if_pos c2]; exact is_no _ _ _ _ _ _ _ (by omega)
        · rw [if_neg c2]
          have hfin : (m = false → n.f3.length = l) → ∃ b, spec_isPlaced.j0 k ((D + 1 : Nat) : Int) (decide ((n.f3.length : Int) > 20)) n.f0 n.f1 n.f2 n.f3 = some b ∧ (b = true → GoodP (D + 1) n) := by
            intro hm
            by_cases c4 : (n.f3.length : Int) > 20
            · rw [decide_eq_true c4]; exact is_no _ _ _ _ _ _ _ (by omega)
            · rw [decide_eq_false c4]
              have h1 := is_l1 D K (by omega) n.f3 (by omega) ih' n.f3.length
              have h0 := is_l0 ((D + 1 : Nat) : Int) (K + 21) _ n.f2 (by omega) n.f0 n.f1 n.f2 n.f3 (fun k' hk' => h1 0 k' (by omega) (by omega)) n.f2.length
              obtain ⟨b, hb, hb1⟩ := is_j0 ((D + 1 : Nat) : Int) (K + 24) _ n.f0 n.f1 n.f2 n.f3 (fun k' hk' => h0 0 k' (by omega) (by omega)) k (by omega)
              refine ⟨b, hb, fun h => ?_⟩
              obtain ⟨g1, g2, g3⟩ := hb1 h
              exact ⟨⟨t, l, m, f, e, hf, by omega, by omega, hm⟩, g1, by omega, fun i hi => g2 i (Nat.zero_le _) hi, fun i hi => g3 i (Nat.zero_le _) hi⟩
          by_cases c3 : (n.f3.length : Int) > (l : Int)
          · rw [if_pos c3]
            cases m with
            | true => rw [if_pos rfl]; exact hfin (fun h => by cases h)
            | false => rw [if_neg (by decide)]; exact is_no _ _ _ _ _ _ _ (by omega)
          · rw [if_neg c3]; exact hfin (fun _ => by omega)
      · rw [if_neg c1]; exact is_no _ _ _ _ _ _ _ (by omega)

theorem first_is (D : Nat) : ∀ (n : S25) (k : Nat), GoodP D n → D + 5 ≤ k → spec_FirstOf.f k n.f0 n.f1 n.f2 n.f3 = some (firstP D n) := by
  induction D with
  | zero => intro n k h; exact h.elim
  | succ D ih =>
    intro n k h hk
    obtain ⟨k, rfl, h4k, form_said⟩ := form_step k (by omega)
    obtain ⟨⟨t, l, m, f, e, hf, h1, h2, h3⟩, h4, h5, h6, h7⟩ := h
    obtain ⟨ht1, ht2, hl3, hfl, hel⟩ := form_facts hf
    have hT : formT n.f0 = ((t : Int), (l : Int), m, f, e, true) := by unfold formT; rw [hf]
    simp only [spec_FirstOf.f, firstP]
    rw [form_said, hT]
    simp only [Option.bind_some]
    rw [hf]
    cases f with
    | true => rw [if_pos rfl, if_pos (by omega)]
    | false =>
      have := hfl rfl
      rw [if_neg (by decide), if_pos (by omega)]
      have hr := ih (rd_T25 n.f3 ((0 : Nat) : Int)) k (h7 0 (by omega)) (by omega)
      have e0 : ((0 : Nat) : Int) = 0 := rfl
      rw [e0] at hr ⊢
      rw [hr]
      rfl

theorem behind_is (D : Nat) : ∀ (n : S25) (k : Nat), GoodP D n → D + 5 ≤ k → spec_BehindOf.f k n.f0 n.f1 n.f2 n.f3 = some (behindP D n) := by
  induction D with
  | zero => intro n k h; exact h.elim
  | succ D ih =>
    intro n k h hk
    obtain ⟨k, rfl, h4k, form_said⟩ := form_step k (by omega)
    obtain ⟨⟨t, l, m, f, e, hf, h1, h2, h3⟩, h4, h5, h6, h7⟩ := h
    obtain ⟨ht1, ht2, hl3, hfl, hel⟩ := form_facts hf
    have hT : formT n.f0 = ((t : Int), (l : Int), m, f, e, true) := by unfold formT; rw [hf]
    simp only [spec_BehindOf.f, behindP]
    rw [form_said, hT]
    simp only [Option.bind_some]
    rw [hf]
    cases e with
    | true =>
      obtain ⟨k, rfl⟩ : ∃ m, k = m + 1 := ⟨k - 1, by omega⟩
      have hw : wrap64 ((t : Int) - 1) = ((t - 1 : Nat) : Int) := by unfold wrap64; omega
      have ht : (t : Int) - 1 = ((t - 1 : Nat) : Int) := by omega
      have hr := h6 (t - 1) (by omega)
      have w1 : wrap64 (rd n.f2 ((t - 1 : Nat) : Int) + (n.f1.size : Int)) = rd n.f2 ((t - 1 : Nat) : Int) + (n.f1.size : Int) := by unfold wrap64; omega
      have w2 : wrap64 (rd n.f2 ((t - 1 : Nat) : Int) + 3) = rd n.f2 ((t - 1 : Nat) : Int) + 3 := by unfold wrap64; omega
      have w3 : wrap64 (rd n.f2 ((t - 1 : Nat) : Int) + 1) = rd n.f2 ((t - 1 : Nat) : Int) + 1 := by unfold wrap64; omega
      have hj : ∀ x, spec_BehindOf.j0 (k + 1) 1 n.f0 x n.f0 n.f1 n.f2 n.f3 (t : Int) (l : Int) m f true = some (rd n.f2 ((t - 1 : Nat) : Int) + (if x = true then (n.f1.size : Int) else if n.f0 = b_points then 3 else 1)) := by
        intro x
        simp only [spec_BehindOf.j0]
        rw [hw, w1, w2, w3]
        simp only [is_points, if_pos (show (0 : Int) ≤ ((t - 1 : Nat) : Int) by omega), if_pos (show ((t - 1 : Nat) : Int) < (n.f2.length : Int) by omega)]
        cases x
        · simp only [Bool.false_eq_true, if_false]; split <;> rfl
        · simp only [if_true]
      rw [if_pos rfl, hj, hj, hj]
      show _ = some (rd n.f2 ((t : Int) - 1) + sizeP n)
      rw [ht]
      simp only [is_name, is_int, beq_dec, is_selector, decide_eq_true_eq, sizeP]
      by_cases c1 : n.f0 = b_name
      · rw [if_pos c1, if_pos c1, if_pos (Or.inl c1)]
      · by_cases c2 : n.f0 = b_int
        · rw [if_neg c1, if_pos c2, if_pos c2, if_pos (Or.inr (Or.inl c2))]
        · by_cases c3 : n.f0 = b_selector
          · rw [if_neg c1, if_neg c2, if_pos c3, if_pos (Or.inr (Or.inr c3))]
          · rw [if_neg c1, if_neg c2, if_neg c3, if_neg (show ¬ (n.f0 = b_name ∨ n.f0 = b_int ∨ n.f0 = b_selector) from fun h => h.elim c1 (fun h => h.elim c2 c3))]
    | false =>
      have := hel rfl
      have hw : wrap64 ((n.f3.length : Int) - 1) = ((n.f3.length - 1 : Nat) : Int) := by unfold wrap64; omega
      rw [if_neg (by decide), hw, if_pos (by omega), if_pos (by omega)]
      rw [ih (rd_T25 n.f3 ((n.f3.length - 1 : Nat) : Int)) k (h7 (n.f3.length - 1) (by omega)) (by omega)]
      rfl

/-- The law. -/
theorem fnSpan_law (a0 a1 : ByteArray) (l2 : List Int) (l3 : List S25) : ∃ k, laws_FnSpan.f k a0 a1 l2 l3 = some true := by
  refine ⟨30000, ?_⟩
  unfold laws_FnSpan.f
  have hz : ∃ b, laws_zzFits9.f a0 a1 l2 l3 = some b := by
    unfold laws_zzFits9.f
    repeat' split
    all_goals exact ⟨_, rfl⟩
  obtain ⟨z, hz⟩ := hz
  rw [hz]
  simp only [Option.bind_some]
  cases z with
  | false => rw [if_neg (by decide)]
  | true =>
    rw [if_pos rfl]
    obtain ⟨r, hr, -, -⟩ := few_total 10 (by omega) ⟨a0, a1, l2, l3⟩ 2000 30000 (by omega) (by omega) (by omega)
    obtain ⟨b, hb, hb1⟩ := placed_total 10 (by omega) ⟨a0, a1, l2, l3⟩ 30000 (by omega)
    have hr' : spec_fewPlaced.f 30000 a0 a1 l2 l3 10 2000 = some r := hr
    have hb' : spec_isPlaced.f 30000 a0 a1 l2 l3 10 = some b := hb
    unfold spec_IsPlaced.f
    rw [hr']
    simp only [Option.bind_some]
    by_cases c : r ≥ 0
    · rw [if_pos c, hb']
      simp only [Option.bind_some]
      cases b with
      | false => rw [if_neg (by decide)]
      | true =>
        have hG := hb1 rfl
        have h1 : spec_FirstOf.f 30000 a0 a1 l2 l3 = some (firstP 10 ⟨a0, a1, l2, l3⟩) := first_is 10 ⟨a0, a1, l2, l3⟩ 30000 hG (by omega)
        have h2 : spec_BehindOf.f 30000 a0 a1 l2 l3 = some (behindP 10 ⟨a0, a1, l2, l3⟩) := behind_is 10 ⟨a0, a1, l2, l3⟩ 30000 hG (by omega)
        have h3 : impl_Span.f a0 a1 l2 l3 = some (firstP 10 ⟨a0, a1, l2, l3⟩, behindP 10 ⟨a0, a1, l2, l3⟩) := by unfold impl_Span.f; rw [if_pos hG]
        rw [if_pos rfl, h3, h1, h2]
        simp only [Option.bind_some, if_true, beq_self_eq_true]
    · rw [if_neg c]
      simp only [Option.bind_some]
      rw [if_neg (by decide)]
end Go.Proofs.YtbojpbfckgjgbaaGreat.A
