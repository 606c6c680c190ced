/- FnCommentText's, FnCommentAgain's and FnCommentStyles' plain laws: the printed laws answer true at every list; no condition besides the list's length. -/
import Derived.Test.YteaelkeiocogfaaPureZ
import Derived.Test.YteaelkeiocogfaaA8
namespace Go.Proofs.Yteaelkeiocogfaa.A
open Go.RowKit Go.Proofs.YteaelkeiocogfaaW.PrintWords Go.Proofs.YteaelkeiocogfaaW.PrintLast Go.Proofs.YteaelkeiocogfaaW.PrintMore
set_option linter.unusedVariables false
set_option linter.unusedSimpArgs false

theorem rdOf_get {l : List ByteArray} {i : Nat} (h : i < l.length) : rdOf ByteArray.empty l (i : Int) = l[i] := by simp [rdOf, h]

theorem fits1_l0 (l : List ByteArray) (hl : l.length ≤ 2147483647) (d : Nat) : ∀ (k i : Nat), l.length - i = d → i ≤ l.length → d < k → ∃ b, laws_zzFits1.l0 k l (l.length : Int) (i : Int) = some b := by
  induction d with
  | zero =>
    intro k i hd hi hk
    obtain ⟨k, rfl⟩ : ∃ m, k = m + 1 := ⟨k - 1, by omega⟩
    simp only [laws_zzFits1.l0]
    rw [if_neg (by omega)]
    exact ⟨_, rfl⟩
  | succ d ih =>
    intro k i hd hi hk
    obtain ⟨k, rfl⟩ : ∃ m, k = m + 1 := ⟨k - 1, by omega⟩
    have hw : wrap64 ((i : Int) + 1) = ((i + 1 : Nat) : Int) := by unfold wrap64; omega
    simp only [laws_zzFits1.l0]
    rw [if_pos (by omega), if_pos (by omega), if_pos (by omega), hw]
    split
    · exact ⟨_, rfl⟩
    · exact ih k (i + 1) (by omega) (by omega) (by omega)
theorem fits1_any (l : List ByteArray) : ∃ b, (∀ k, l.length < k → laws_zzFits1.f k l = some b) ∧ (b = true → l.length ≤ 2147483647) := by
  by_cases h : (l.length : Int) > 2147483647
  · exact ⟨false, fun k hk => by unfold laws_zzFits1.f; rw [if_pos h], fun h => (by cases h)⟩
  · obtain ⟨b, hb⟩ := fits1_l0 l (by omega) l.length (l.length + 1) 0 (by omega) (Nat.zero_le _) (by omega)
    refine ⟨b, fun k hk => ?_, fun _ => by omega⟩
    unfold laws_zzFits1.f
    rw [if_neg h]
    exact at_rounds (fun k => laws_zzFits1.mono_l k _ _ _) (show l.length + 1 ≤ k by omega) hb

theorem are_l0 (l : List ByteArray) (hl : l.length ≤ 2147483647) (d : Nat) : ∀ (k i : Nat), l.length - i = d → i ≤ l.length → d + 3001 < k → (∀ c ∈ l.take i, c.size ≤ 1000 ∧ IsC c) →
    ∃ b, laws_areComments9.l0 k l l (l.length : Int) (i : Int) = some b ∧ (b = true → (∀ c ∈ l, c.size ≤ 1000 ∧ IsC c) ∧ 0 < l.length ∧ l.length ≤ 50) := by
  induction d with
  | zero =>
    intro k i hd hi hk hall
    obtain ⟨k, rfl⟩ : ∃ m, k = m + 1 := ⟨k - 1, by omega⟩
    rw [List.take_of_length_le (by omega)] at hall
    simp only [laws_areComments9.l0]
    rw [if_neg (by omega)]
    by_cases h0 : (l.length : Int) > 0
    · rw [if_pos h0]
      exact ⟨_, rfl, fun h => ⟨hall, by omega, by have := of_decide_eq_true h; omega⟩⟩
    · rw [if_neg h0]
      exact ⟨false, rfl, fun h => (by cases h)⟩
  | succ d ih =>
    intro k i hd hi hk hall
    obtain ⟨k, rfl⟩ : ∃ m, k = m + 1 := ⟨k - 1, by omega⟩
    have hlt : i < l.length := by omega
    have hw : wrap64 ((i : Int) + 1) = ((i + 1 : Nat) : Int) := by unfold wrap64; omega
    simp only [laws_areComments9.l0]
    rw [if_pos (by omega), if_pos (by omega), if_pos (by omega), hw, rdOf_get hlt]
    by_cases hs : (l[i].size : Int) > 1000
    · rw [if_pos hs]
      exact ⟨false, rfl, fun h => (by cases h)⟩
    · rw [if_neg hs]
      obtain ⟨b, hb⟩ := isComment_any l[i] (by omega)
      rw [hb k (by omega)]
      simp only [Option.bind_some]
      cases b with
      | false => exact ⟨false, rfl, fun h => (by cases h)⟩
      | true =>
        rw [if_pos rfl]
        refine ih k (i + 1) (by omega) (by omega) (by omega) fun c hc => ?_
        rw [List.take_succ_eq_append_getElem hlt] at hc
        rcases List.mem_append.1 hc with hc | hc
        · exact hall c hc
        · rw [List.mem_singleton.1 hc]
          exact ⟨by omega, isComment_is l[i] (by omega) k (hb k (by omega))⟩
theorem are_any (l : List ByteArray) (hl : l.length ≤ 2147483647) : ∃ b, (∀ k, l.length + 3001 < k → laws_areComments9.f k l = some b) ∧ (b = true → (∀ c ∈ l, c.size ≤ 1000 ∧ IsC c) ∧ 0 < l.length ∧ l.length ≤ 50) := by
  obtain ⟨b, hb, hb2⟩ := are_l0 l hl l.length (l.length + 3002) 0 (by omega) (Nat.zero_le _) (by omega) (fun c hc => by simp at hc)
  exact ⟨b, fun k hk => at_rounds (fun k => laws_areComments9.mono_l k _ _ _ _) (show l.length + 3002 ≤ k by omega) hb, hb2⟩

/-- The lines of a comment. -/
noncomputable def linesC (c : ByteArray) : List Bs := open Classical in if h : c.size ≤ 1000 ∧ IsC c then Classical.choose (comment_both c h.1 h.2) else []
theorem linesC_spec {c : ByteArray} (h : c.size ≤ 1000 ∧ IsC c) : Both c (linesC c) := by
  unfold linesC
  rw [dif_pos h]
  exact Classical.choose_spec (comment_both c h.1 h.2)

theorem wt_flatMap (l : List ByteArray) (F : ByteArray → List Bs) (n : Nat) (h : ∀ c ∈ l, (flat (F c)).length ≤ n) : (flat (l.flatMap F)).length ≤ l.length * n := by
  induction l with
  | nil => simp [flat]
  | cons c l ih =>
    rw [List.flatMap_cons, flat_app, List.length_append, List.length_cons, Nat.succ_mul]
    have h1 := h c List.mem_cons_self
    have h2 := ih fun c hc => h c (List.mem_cons_of_mem _ hc)
    omega
theorem len_wt (L : List Bs) : L.length ≤ (flat L).length := by
  induction L with
  | nil => simp
  | cons x L ih =>
    show _ ≤ (x ++ [10] ++ flat L).length
    simp at ih ⊢
    omega
theorem textB_wt (L : List Bs) : (textB L).length ≤ (flat L).length := by
  obtain ⟨p, _, _, hp, hw, _⟩ := compB_lines (L.map (trimP isW))
  unfold textB
  rw [← hp]
  exact Nat.le_trans hw (flat_trim isW L)

/-- The package's text of few comments, whose lines are told. -/
theorem impl_text (l : List ByteArray) (F : ByteArray → List Bs) (n : Nat) (hl : l.length ≤ 100000) (hn : l.length * n ≤ 200000) (hF : ∀ c ∈ l, ImplC c (F c) ∧ (flat (F c)).length ≤ n) (hn2 : n ≤ 200000) : impl_CommentText.f l = some (mkB (textB (l.flatMap F))) := by
  have hw := wt_flatMap l F n (fun c hc => (hF c hc).2)
  refine text_of l F (by omega) (fun c hc => ⟨(hF c hc).1, ?_⟩) ?_ ?_
  · have h1 := len_wt (F c)
    have h2 := (hF c hc).2
    omega
  · have := len_wt (l.flatMap F)
    omega
  · have := textB_wt (l.flatMap F)
    omega

theorem isW_isS {d : UInt8} (h : Plain (d.toNat : Int)) (h10 : d ≠ 10) : isW d = isS d := by
  have h13 : (d == 13) = false := beq_eq_false_iff_ne.2 fun e => by
    subst e
    rcases h with h | h | h
    · exact absurd h (by decide)
    · exact absurd h (by decide)
    · exact absurd h.1 (by decide)
  have h10' : (d == 10) = false := beq_eq_false_iff_ne.2 h10
  unfold isW isS
  rw [h13, h10']
  simp
theorem plain_mem {c : ByteArray} (h : ∀ u, u < c.size → Plain (bt c (u : Int))) {d : UInt8} (hd : d ∈ bs c) : Plain (d.toNat : Int) := by
  obtain ⟨u, hu, he⟩ := List.getElem_of_mem hd
  have := h u (by rw [← bs_len]; exact hu)
  rw [bt_bs (by rw [← bs_len]; exact hu), he] at this
  exact this

/-- Both texts of comments. -/
theorem both_texts (l : List ByteArray) (hall : ∀ c ∈ l, c.size ≤ 1000 ∧ IsC c) (hl : l.length ≤ 50) : ∃ T : Bs, impl_CommentText.f l = some (mkB T) ∧ (∀ k, 60000000 ≤ k → spec_CommentText.f k l = some (mkB T)) ∧ T = textB (l.flatMap linesC) := by
  refine ⟨textB (l.flatMap linesC), impl_text l linesC 1001 (by omega) (by omega) (fun c hc => ⟨(linesC_spec (hall c hc)).impl, (linesC_spec (hall c hc)).wt⟩) (by omega), fun k hk => ?_, rfl⟩
  unfold spec_CommentText.f
  have := spec_l0_all l linesC hl (fun c hc => linesC_spec (hall c hc)) l.length 0 (by omega) (Nat.zero_le _) k (by omega) ⟨#[]⟩ false (Nat.zero_le _)
  rw [show ((0 : Nat) : Int) = 0 from rfl] at this
  rw [this, List.drop_zero]
  congr 1
  have ht : (l.flatMap linesC).map (trimP isS) = (l.flatMap linesC).map (trimP isW) := by
    refine List.map_congr_left fun x hx => ?_
    obtain ⟨c, hc, hxc⟩ := List.mem_flatMap.1 hx
    obtain ⟨_, h10, hsub⟩ := (linesC_spec (hall c hc)).each x hxc
    exact (trimP_congr fun d hd => isW_isS (plain_mem (hall c hc).2.2 (hsub d hd)) (fun e => h10 (by rw [← e]; exact hd))).symm
  rw [ht, bs_nil]
  unfold textB
  rw [(joined _ [] (.inl rfl)).1 rfl false]

theorem pure_FnCommentText (l0 : List ByteArray) (hl : l0.length ≤ maxLen) (_ : l0.length * 16 ≤ 140737488351232) (_ : ∀ x ∈ l0, x.size ≤ maxLen) : ∃ k, laws_FnCommentText.f k l0 = some true := by
  obtain ⟨b, hb, hb2⟩ := fits1_any l0
  refine ⟨l0.length + 100000000, ?_⟩
  unfold laws_FnCommentText.f
  rw [hb _ (by omega)]
  simp only [Option.bind_some]
  cases b with
  | false => rfl
  | true =>
    rw [if_pos rfl]
    obtain ⟨c, hc, hc2⟩ := are_any l0 (hb2 rfl)
    rw [hc _ (by omega)]
    simp only [Option.bind_some]
    cases c with
    | false => rfl
    | true =>
      rw [if_pos rfl]
      obtain ⟨hall, _, h50⟩ := hc2 rfl
      obtain ⟨T, h1, h2, _⟩ := both_texts l0 hall h50
      rw [h1, h2 _ (by omega)]
      simp

/-- What the law makes of lines: each behind a marker and a blank. -/
def led (x : Bs) : ByteArray := (⟨#[47, 47, 32]⟩ : ByteArray) ++ mkB x
theorem bs_led (x : Bs) : bs (led x) = 47 :: 47 :: 32 :: x := by
  unfold led
  rw [bs_app, bs_mk]
  rfl
theorem led_size (x : Bs) : (led x).size = x.length + 3 := by rw [← bs_len, bs_led]; simp
theorem linec_l0 (L : List Bs) (hL : L.length ≤ 300000) (hx : ∀ x ∈ L, x.length ≤ 300000) (d : Nat) : ∀ (k i : Nat) (acc : List ByteArray), L.length - i = d → i ≤ L.length → d < k → acc.length ≤ i →
    laws_lineComments9.l0 k acc (L.map mkB) ((L.map mkB).length : Int) (i : Int) = some (acc ++ (L.drop i).map led) := by
  induction d with
  | zero =>
    intro k i acc hd hi hk ha
    obtain ⟨k, rfl⟩ : ∃ m, k = m + 1 := ⟨k - 1, by omega⟩
    simp only [laws_lineComments9.l0]
    rw [List.length_map, if_neg (by omega), List.drop_eq_nil_of_le (by omega)]
    simp
  | succ d ih =>
    intro k i acc hd hi hk ha
    obtain ⟨k, rfl⟩ : ∃ m, k = m + 1 := ⟨k - 1, by omega⟩
    have hlt : i < L.length := by omega
    have hw : wrap64 ((i : Int) + 1) = ((i + 1 : Nat) : Int) := by unfold wrap64; omega
    have hxl := hx _ (List.getElem_mem hlt)
    have hr : rdOf ByteArray.empty (L.map mkB) (i : Int) = mkB L[i] := by simp [rdOf, hlt]
    simp only [laws_lineComments9.l0]
    rw [List.length_map, if_pos (by omega), if_pos (by omega), if_pos (by omega), hr, if_pos (by rw [mk_size]; omega), if_pos (by omega), hw]
    have := ih k (i + 1) (acc ++ [led L[i]]) (by omega) (by omega) (by omega) (by simp; omega)
    rw [List.length_map] at this
    rw [List.drop_eq_getElem_cons hlt, List.map_cons]
    rw [List.append_assoc] at this
    exact this

/-- Lines that stand behind markers and blanks: their text. -/
theorem led_text (L : List Bs) (hL : (flat L).length ≤ 100000) (h10 : ∀ x ∈ L, 10 ∉ x) : impl_CommentText.f (L.map led) = some (mkB (textB L)) := by
  have hlen := len_wt L
  have hx : ∀ x ∈ L, x.length ≤ 100000 := by
    intro x hx
    have : x.length ≤ (flat L).length := by
      clear hL hlen h10
      induction L with
      | nil => cases hx
      | cons y L ih =>
        show _ ≤ (y ++ [10] ++ flat L).length
        rcases List.mem_cons.1 hx with rfl | hx
        · simp
        · have := ih hx; simp; omega
    omega
  have hF : ∀ c ∈ L.map led, ImplC c (splitNL ((bs c).drop 3)) ∧ (splitNL ((bs c).drop 3)).length ≤ 300000 := by
    intro c hc
    obtain ⟨x, hx', rfl⟩ := List.mem_map.1 hc
    have e : (bs (led x)).drop 3 = x := by rw [bs_led]; rfl
    rw [e]
    have := hx x hx'
    exact ⟨implC_blank (bs_led x) (by rw [led_size]; omega), by rw [splitNL_none x (h10 x hx')]; simp⟩
  have hfm : (L.map led).flatMap (fun c => splitNL ((bs c).drop 3)) = L := by
    clear hF hx hlen hL
    induction L with
    | nil => rfl
    | cons x L ih =>
      rw [List.map_cons, List.flatMap_cons, ih (fun y hy => h10 y (List.mem_cons_of_mem _ hy))]
      have e : (bs (led x)).drop 3 = x := by rw [bs_led]; rfl
      rw [e, splitNL_none x (h10 x List.mem_cons_self)]
      rfl
  have := text_of (L.map led) (fun c => splitNL ((bs c).drop 3)) (by rw [List.length_map]; omega) hF (by rw [hfm]; omega) (by rw [hfm]; have := textB_wt L; omega)
  rw [hfm] at this
  exact this

theorem pure_FnCommentAgain (l0 : List ByteArray) (hl : l0.length ≤ maxLen) (_ : l0.length * 16 ≤ 140737488351232) (_ : ∀ x ∈ l0, x.size ≤ maxLen) : ∃ k, laws_FnCommentAgain.f k l0 = some true := by
  obtain ⟨b, hb, hb2⟩ := fits1_any l0
  refine ⟨l0.length + 100000000, ?_⟩
  unfold laws_FnCommentAgain.f
  rw [hb _ (by omega)]
  simp only [Option.bind_some]
  cases b with
  | false => rfl
  | true =>
    rw [if_pos rfl]
    obtain ⟨c, hc, hc2⟩ := are_any l0 (hb2 rfl)
    rw [hc _ (by omega)]
    simp only [Option.bind_some]
    cases c with
    | false => rfl
    | true =>
      rw [if_pos rfl]
      obtain ⟨hall, _, h50⟩ := hc2 rfl
      obtain ⟨T, h1, h2, hT⟩ := both_texts l0 hall h50
      rw [h1, h2 _ (by omega)]
      simp only [Option.bind_some]
      rw [if_pos trivial]
      by_cases h0 : (mkB T).toList = ([] : List UInt8)
      · rw [if_pos h0]
      · rw [if_neg h0]
        obtain ⟨p, hp1, hp2, hp3, hp4, hp5, hp6⟩ := compB_lines ((l0.flatMap linesC).map (trimP isW))
        have hTp : T = flat p := by rw [hT, hp3]; rfl
        have hwt : (flat (l0.flatMap linesC)).length ≤ 50 * 1001 := Nat.le_trans (wt_flatMap l0 linesC 1001 fun c hc => (linesC_spec (hall c hc)).wt) (Nat.mul_le_mul_right _ h50)
        have hpw : (flat p).length ≤ 50050 := Nat.le_trans hp4 (Nat.le_trans (flat_trim isW _) hwt)
        have hp10 : ∀ x ∈ p, 10 ∉ x ∧ trimP isW x = x := by
          intro x hx
          obtain ⟨y, hy, rfl⟩ := List.mem_map.1 (hp6 x hx)
          obtain ⟨c, hc, hyc⟩ := List.mem_flatMap.1 hy
          exact ⟨fun h => ((linesC_spec (hall c hc)).each y hyc).2.1 (trimP_sub isW y _ h), trimP_idem isW y⟩
        have hlenp := len_wt p
        have hlin : ∀ k, 500000 < k → laws_lineComments9.f k (mkB T) = some (p.map led) := by
          intro k hk
          have hsp : splitNL (bs (mkB T)) = p ++ [[]] := by
            rw [bs_mk, hTp]
            exact splitNL_flat p (fun x hx => (hp10 x hx).1)
          have hof : spec_LinesOf.f k (mkB T) = some (p.map mkB) := by
            unfold spec_LinesOf.f
            rw [lines_big (mkB T) (by rw [mk_size, hTp]; omega) k hk, hsp]
            simp only [Option.bind_some]
            have e : (((p ++ [[]]).map mkB).length : Int) = ((p.length + 1 : Nat) : Int) := by simp
            have hw : wrap64 (((p.length + 1 : Nat) : Int) - 1) = (p.length : Int) := by unfold wrap64; omega
            rw [e, hw, if_pos (by omega), if_pos (by omega), Int.toNat_natCast, List.map_append]
            congr 1
            rw [List.take_append_of_le_length (by simp), List.take_of_length_le (by simp)]
          unfold laws_lineComments9.f
          rw [hof]
          simp only [Option.bind_some]
          have hxp : ∀ x ∈ p, x.length ≤ 300000 := by
            intro x hx
            have : x.length ≤ (flat p).length := by
              clear hp1 hp2 hp3 hp4 hp5 hp6 hTp hpw hp10 hlenp hsp hof
              induction p with
              | nil => cases hx
              | cons y L ih =>
                show _ ≤ (y ++ [10] ++ flat L).length
                rcases List.mem_cons.1 hx with rfl | hx
                · simp
                · have := ih hx; simp; omega
            omega
          have := linec_l0 p (by omega) hxp p.length k 0 [] (by omega) (Nat.zero_le _) (by omega) (Nat.le_refl _)
          rw [List.drop_zero, List.nil_append] at this
          exact this
        rw [hlin _ (by omega)]
        simp only [Option.bind_some]
        rw [led_text p (by omega) (fun x hx => (hp10 x hx).1)]
        simp only [Option.bind_some]
        have e : textB p = T := by
          have em : p.map (trimP isW) = p := by
            conv => rhs; rw [← List.map_id p]
            exact List.map_congr_left fun x hx => (hp10 x hx).2
          unfold textB
          rw [em, hp2, hTp]
          rcases hp1 with rfl | hp1
          · simp [endedB, flat, Go.Lib.join_nil]
          · have hpn : p ≠ [] := fun e => hp1 (by rw [e]; rfl)
            rw [endedB, if_neg hpn, if_neg hp1, join_flat]
        rw [e]
        simp

/-! FnCommentStyles -/
theorem no10_led {s : ByteArray} (h : IsC ((⟨#[47, 47, 32]⟩ : ByteArray) ++ s)) : 10 ∉ bs s := by
  have e : bs ((⟨#[47, 47, 32]⟩ : ByteArray) ++ s) = 47 :: 47 :: 32 :: bs s := by rw [bs_app]; rfl
  rcases h.1 with ⟨m, a, b, hb⟩ | ⟨r, hr, h10⟩
  · rw [e] at hb
    have := (List.cons.inj (List.cons.inj hb).2).1
    cases this
  · rw [e] at hr
    have := (List.cons.inj (List.cons.inj hr).2).2
    rw [← this] at h10
    exact fun h => h10 (List.mem_cons_of_mem _ h)

theorem one_text : impl_CommentText.f [(⟨#[47, 47, 32, 97]⟩ : ByteArray)] = some (mkB [97, 10]) := by
  have h := led_text [[97]] (by decide) (by decide)
  have e1 : ([[97]] : List Bs).map led = [(⟨#[47, 47, 32, 97]⟩ : ByteArray)] := by
    rw [List.map_cons, List.map_nil]
    congr 1
  rw [e1] at h
  rw [h]
  rfl

theorem styles_j1 (l : List ByteArray) (hl : l.length ≤ 50) (hs : ∀ s ∈ l, s.size ≤ 1000 ∧ 10 ∉ bs s) (x4 : ByteArray) (h4 : bs x4 = (l.map bs).flatMap (10 :: ·)) (k : Nat) :
    laws_FnCommentStyles.j1 (k + 1) (l.map fun s => (⟨#[47, 47, 32]⟩ : ByteArray) ++ s) x4 false = some true := by
  have hn : ∀ x ∈ l.map bs, 10 ∉ x := by
    intro x hx
    obtain ⟨s, hs', rfl⟩ := List.mem_map.1 hx
    exact (hs s hs').2
  have hwt : (flat (l.map bs)).length ≤ 50050 := by
    have : (flat (l.flatMap fun s => [bs s])).length ≤ l.length * 1001 := wt_flatMap l _ 1001 fun s hs' => by
      have := (hs s hs').1
      rw [← bs_len] at this
      simp [flat]
      omega
    have e : (l.flatMap fun s => [bs s]) = l.map bs := by
      clear hl hs h4 hn this
      induction l with
      | nil => rfl
      | cons s l ih => rw [List.flatMap_cons, ih]; rfl
    rw [e] at this
    omega
  have hled : (l.map fun s => (⟨#[47, 47, 32]⟩ : ByteArray) ++ s) = (l.map bs).map led := by
    rw [List.map_map]
    exact List.map_congr_left fun s _ => by
      show _ = led (bs s)
      unfold led
      rw [mk_bs]
  have h1 : impl_CommentText.f (l.map fun s => (⟨#[47, 47, 32]⟩ : ByteArray) ++ s) = some (mkB (textB (l.map bs))) := by
    rw [hled]
    exact led_text (l.map bs) (by omega) hn
  obtain ⟨c, hc⟩ : ∃ c, ((⟨#[47, 42]⟩ : ByteArray) ++ x4) ++ (⟨#[10, 42, 47]⟩ : ByteArray) = c := ⟨_, rfl⟩
  have hcb : bs c = 47 :: 42 :: ((10 :: flat (l.map bs)) ++ [42, 47]) := by
    rw [← hc, bs_app, bs_app, ← flat_led, ← h4]
    show [47, 42] ++ bs x4 ++ [10, 42, 47] = _
    simp
  have hcz : c.size = (flat (l.map bs)).length + 5 := by rw [← bs_len, hcb]; simp
  have hxz : x4.size + 1 = (flat (l.map bs)).length + 1 := by
    have := congrArg List.length (flat_led (l.map bs))
    rw [← h4] at this
    simp [bs_len] at this
    omega
  have hsp : splitNL (10 :: flat (l.map bs)) = [[]] ++ l.map bs ++ [[]] := by
    rw [splitNL, if_pos rfl]
    show [] :: splitNL ((l.map bs).flatMap (· ++ [10])) = _
    rw [splitNL_flat _ hn]
    rfl
  have hwt2 : (flat ([[]] ++ l.map bs ++ [[]])).length ≤ 50052 := by
    rw [flat_app, flat_app]
    simp [flat] at hwt ⊢
    omega
  have h2 : impl_CommentText.f [c] = some (mkB (textB (l.map bs))) := by
    have := text_of [c] (fun _ => [[]] ++ l.map bs ++ [[]]) (by simp) (fun c' hc' => by
      rw [List.mem_singleton.1 hc']
      refine ⟨?_, ?_⟩
      · rw [← hsp]
        exact implC_block hcb (by omega)
      · have := len_wt ([[]] ++ l.map bs ++ [[]])
        omega) (by
      rw [List.flatMap_cons, List.flatMap_nil, List.append_nil]
      have := len_wt ([[]] ++ l.map bs ++ [[]])
      omega) (by
      rw [List.flatMap_cons, List.flatMap_nil, List.append_nil]
      have := textB_wt ([[]] ++ l.map bs ++ [[]])
      omega)
    rw [this, List.flatMap_cons, List.flatMap_nil, List.append_nil]
    congr 2
    unfold textB
    rw [List.map_append, List.map_append]
    exact compB_led ((l.map bs).map (trimP isW))
  have s2 : ((⟨#[47, 42]⟩ : ByteArray) ++ x4).size = 2 + x4.size := by rw [ByteArray.size_append]; rfl
  simp only [laws_FnCommentStyles.j1]
  rw [if_neg (by decide), h1]
  simp only [Option.bind_some]
  rw [if_pos (by omega), if_pos (by rw [s2]; omega), hc, h2]
  simp only [Option.bind_some]
  rw [if_pos trivial, one_text]
  simp only [Option.bind_some]
  rw [bs_list, bs_mk]
  rfl

theorem styles_l0 (l : List ByteArray) (hl : l.length ≤ 2147483647) (d : Nat) : ∀ (k i : Nat) (x4 : ByteArray), l.length - i = d → i ≤ l.length → d + 9100 < k → (∀ s ∈ l.take i, s.size ≤ 1000 ∧ 10 ∉ bs s) → x4.size ≤ i * 1001 → bs x4 = ((l.take i).map bs).flatMap (10 :: ·) →
    laws_FnCommentStyles.l0 k l ((l.take i).map fun s => (⟨#[47, 47, 32]⟩ : ByteArray) ++ s) x4 l (l.length : Int) (i : Int) = some true := by
  induction d with
  | zero =>
    intro k i x4 hd hi hk hall hz h4
    obtain ⟨k, rfl⟩ : ∃ m, k = m + 1 := ⟨k - 1, by omega⟩
    obtain ⟨k, rfl⟩ : ∃ m, k = m + 1 := ⟨k - 1, by omega⟩
    rw [List.take_of_length_le (by omega)] at hall h4 ⊢
    rw [laws_FnCommentStyles.l0, if_neg (by omega)]
    by_cases h1 : (l.length : Int) < 1
    · rw [if_pos h1]
      simp [laws_FnCommentStyles.j1]
    · rw [if_neg h1]
      by_cases h50 : (l.length : Int) > 50
      · rw [decide_eq_true h50]
        simp [laws_FnCommentStyles.j1]
      · rw [decide_eq_false h50]
        exact styles_j1 l (by omega) hall x4 h4 k
  | succ d ih =>
    intro k i x4 hd hi hk hall hz h4
    obtain ⟨k, rfl⟩ : ∃ m, k = m + 1 := ⟨k - 1, by omega⟩
    have hlt : i < l.length := by omega
    have hw : wrap64 ((i : Int) + 1) = ((i + 1 : Nat) : Int) := by unfold wrap64; omega
    rw [laws_FnCommentStyles.l0, if_pos (by omega), if_pos (by omega), if_pos (by omega), rdOf_get hlt]
    obtain ⟨s, hs⟩ : ∃ s, l[i] = s := ⟨_, rfl⟩
    rw [hs]
    by_cases h1000 : (s.size : Int) > 1000
    · rw [if_pos h1000]
    · have hsz : s.size ≤ 1000 := by omega
      have z1 : ((⟨#[47, 42]⟩ : ByteArray) ++ s).size = 2 + s.size := by rw [ByteArray.size_append]; rfl
      have z2 : (((⟨#[47, 42]⟩ : ByteArray) ++ s) ++ (⟨#[42, 47]⟩ : ByteArray)).size = 2 + s.size + 2 := by rw [ByteArray.size_append, z1]; rfl
      have z3 : ((⟨#[47, 47, 32]⟩ : ByteArray) ++ s).size = 3 + s.size := by rw [ByteArray.size_append]; rfl
      have z4 : (x4 ++ (⟨#[10]⟩ : ByteArray)).size = x4.size + 1 := by rw [ByteArray.size_append]; rfl
      have z5 : ((x4 ++ (⟨#[10]⟩ : ByteArray)) ++ s).size = x4.size + 1 + s.size := by rw [ByteArray.size_append, z4]
      obtain ⟨b, hb⟩ := isComment_any_2 (((⟨#[47, 42]⟩ : ByteArray) ++ s) ++ (⟨#[42, 47]⟩ : ByteArray)) (by rw [z2]; omega)
      rw [if_neg h1000, if_pos (by omega), if_pos (by rw [z1]; omega), hb k (by omega)]
      simp only [Option.bind_some]
      cases b with
      | false => rfl
      | true =>
        obtain ⟨b2, hb2⟩ := isComment_any_2 ((⟨#[47, 47, 32]⟩ : ByteArray) ++ s) (by rw [z3]; omega)
        rw [if_pos rfl, if_pos (by omega), hb2 k (by omega)]
        simp only [Option.bind_some]
        cases b2 with
        | false => rfl
        | true =>
          have h10 := no10_led (isComment_is _ (by rw [z3]; omega) k (hb2 k (by omega)))
          rw [if_pos rfl, if_pos (by rw [List.length_map, List.length_take]; omega), if_pos (by omega), if_pos (by rw [z4]; omega), hw]
          have et : l.take (i + 1) = l.take i ++ [s] := by rw [List.take_succ_eq_append_getElem hlt, hs]
          have := ih k (i + 1) ((x4 ++ (⟨#[10]⟩ : ByteArray)) ++ s) (by omega) (by omega) (by omega) (fun c hc => by
            rw [et] at hc
            rcases List.mem_append.1 hc with hc | hc
            · exact hall c hc
            · rw [List.mem_singleton.1 hc]
              exact ⟨hsz, h10⟩) (by rw [z5]; omega) (by
            rw [et, List.map_append, List.flatMap_append, ← h4, bs_app, bs_app]
            show bs x4 ++ [10] ++ bs s = _
            simp)
          rw [et, List.map_append] at this
          exact this

theorem pure_FnCommentStyles (l0 : List ByteArray) (hl : l0.length ≤ maxLen) (_ : l0.length * 16 ≤ 140737488351232) (_ : ∀ x ∈ l0, x.size ≤ maxLen) : ∃ k, laws_FnCommentStyles.f k l0 = some true := by
  obtain ⟨b, hb, hb2⟩ := fits1_any l0
  refine ⟨l0.length + 9200, ?_⟩
  unfold laws_FnCommentStyles.f
  rw [hb _ (by omega)]
  simp only [Option.bind_some]
  cases b with
  | false => rfl
  | true =>
    rw [if_pos rfl]
    exact styles_l0 l0 (hb2 rfl) l0.length (l0.length + 9200) 0 ⟨#[]⟩ (by omega) (Nat.zero_le _) (by omega) (fun s hs => by simp at hs) (Nat.zero_le _) rfl
end Go.Proofs.Yteaelkeiocogfaa.A
