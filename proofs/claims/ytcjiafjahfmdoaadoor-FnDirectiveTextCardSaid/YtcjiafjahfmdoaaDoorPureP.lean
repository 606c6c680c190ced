/- Plain facts on texts and bytes (carried over from the seat of comments). -/
import Derived.Test.YtcjiafjahfmdoaaDoorA11
import Derived.Lib.Strings
namespace Go.Proofs.YtcjiafjahfmdoaaDoor.A
open Go.RowKit Go.Proofs.YtcjiafjahfmdoaaDoorW.PrintWords Go.Proofs.YtcjiafjahfmdoaaDoorW.PrintLast Go.Proofs.YtcjiafjahfmdoaaDoorW.PrintMore
set_option linter.unusedVariables false
set_option linter.unusedSimpArgs false
/-- p stands in s at place t. -/
def At (s p : ByteArray) (t : Nat) : Prop := (s.extract t (t + p.size)).toList = p.toList

/-- What a search gives: the first place from i on, or -1. -/
def FindR (s p : ByteArray) (i : Nat) (j : Int) : Prop :=
  (j = -1 ∧ ∀ t, i ≤ t → t + p.size ≤ s.size → ¬ At s p t) ∨ (∃ t : Nat, j = (t : Int) ∧ i ≤ t ∧ t + p.size ≤ s.size ∧ At s p t ∧ ∀ u, i ≤ u → u < t → ¬ At s p u)

theorem index_l0 (s p : ByteArray) (hs : s.size ≤ 1000000) (hp : p.size ≤ 1000000) (d : Nat) : ∀ (k i : Nat), s.size + 1 ≤ i + d → i ≤ s.size + 1 → d < k → ∃ j, goprinter_go_ast_zzIndex.l0 k s p (i : Int) = some j ∧ FindR s p i j := by
  induction d with
  | zero =>
    intro k i h0 h1 hk
    obtain ⟨k, rfl⟩ : ∃ m, k = m + 1 := ⟨k - 1, by omega⟩
    have hw : wrap64 ((i : Int) + (p.size : Int)) = (i : Int) + (p.size : Int) := by unfold wrap64; omega
    simp only [goprinter_go_ast_zzIndex.l0]
    rw [hw, if_neg (by omega)]
    exact ⟨-1, rfl, .inl ⟨rfl, fun t h2 h3 => by omega⟩⟩
  | succ d ih =>
    intro k i h0 h1 hk
    obtain ⟨k, rfl⟩ : ∃ m, k = m + 1 := ⟨k - 1, by omega⟩
    have hw : wrap64 ((i : Int) + (p.size : Int)) = (i : Int) + (p.size : Int) := by unfold wrap64; omega
    have hw1 : wrap64 ((i : Int) + 1) = ((i + 1 : Nat) : Int) := by unfold wrap64; omega
    simp only [goprinter_go_ast_zzIndex.l0]
    rw [hw]
    by_cases hle : (i : Int) + (p.size : Int) ≤ (s.size : Int)
    · rw [if_pos hle, if_pos (by omega), if_pos (by omega)]
      have e1 : ((i : Int) + (p.size : Int)).toNat = i + p.size := by omega
      have e2 : (i : Int).toNat = i := by omega
      rw [e1, e2]
      by_cases hm : (s.extract i (i + p.size)).toList = p.toList
      · rw [if_pos hm]
        exact ⟨_, rfl, .inr ⟨i, rfl, Nat.le_refl _, by omega, hm, fun u h2 h3 => by omega⟩⟩
      · rw [if_neg hm, hw1]
        obtain ⟨j, hj, hr⟩ := ih k (i + 1) (by omega) (by omega) (by omega)
        refine ⟨j, hj, ?_⟩
        rcases hr with ⟨rfl, hr⟩ | ⟨t, rfl, ht, hts, hat, hr⟩
        · refine .inl ⟨rfl, fun t h2 h3 => ?_⟩
          by_cases hti : t = i
          · subst hti; exact hm
          · exact hr t (by omega) h3
        · refine .inr ⟨t, rfl, by omega, hts, hat, fun u h2 h3 => ?_⟩
          by_cases hui : u = i
          · subst hui; exact hm
          · exact hr u (by omega) h3
    · rw [if_neg hle]
      exact ⟨-1, rfl, .inl ⟨rfl, fun t h2 h3 => by omega⟩⟩

theorem index_any (s p : ByteArray) (hs : s.size ≤ 1000000) (hp : p.size ≤ 1000000) : ∃ j, (∀ k, s.size + 1 < k → goprinter_go_ast_zzIndex.f k s p = some j) ∧ FindR s p 0 j := by
  obtain ⟨j, hj, hr⟩ := index_l0 s p hs hp (s.size + 1) (s.size + 2) 0 (by omega) (by omega) (by omega)
  exact ⟨j, fun k hk => at_rounds (fun k => goprinter_go_ast_zzIndex.mono_l k _ _ _) hk hj, hr⟩

theorem begins_any (s p : ByteArray) (hs : s.size ≤ 1000000) : ∃ b, spec_begins.f s p = some b := by
  unfold spec_begins.f
  split
  · rw [if_pos (by omega)]
    first | exact ⟨_, rfl⟩ | (rw [if_pos (by omega)]; exact ⟨_, rfl⟩)
  · exact ⟨_, rfl⟩

theorem isPlain_l0 (s : ByteArray) (hs : s.size ≤ 1000000) (d : Nat) : ∀ (k i : Nat), s.size ≤ i + d → i ≤ s.size → d < k → ∃ b, spec_isPlain.l0 k s (s.size : Int) (i : Int) = some b := by
  induction d with
  | zero =>
    intro k i h0 h1 hk
    obtain ⟨k, rfl⟩ : ∃ m, k = m + 1 := ⟨k - 1, by omega⟩
    simp only [spec_isPlain.l0]
    rw [if_neg (by omega)]
    exact ⟨_, rfl⟩
  | succ d ih =>
    intro k i h0 h1 hk
    obtain ⟨k, rfl⟩ : ∃ m, k = m + 1 := ⟨k - 1, by omega⟩
    have hw1 : wrap64 ((i : Int) + 1) = ((i + 1 : Nat) : Int) := by unfold wrap64; omega
    simp only [spec_isPlain.l0]
    by_cases hi : (i : Int) < (s.size : Int)
    · have := ih k (i + 1) (by omega) (by omega) (by omega)
      rw [if_pos hi, if_pos (by omega), if_pos hi, hw1]
      split
      · exact this
      · split
        · exact this
        · split
          · exact ⟨_, rfl⟩
          · split
            · exact ⟨_, rfl⟩
            · exact this
    · rw [if_neg hi]
      exact ⟨_, rfl⟩

theorem isPlain_any (s : ByteArray) (hs : s.size ≤ 1000000) : ∃ b, ∀ k, s.size < k → spec_isPlain.f k s = some b := by
  obtain ⟨b, hb⟩ := isPlain_l0 s hs s.size (s.size + 1) 0 (by omega) (by omega) (by omega)
  exact ⟨b, fun k hk => at_rounds (fun k => spec_isPlain.mono_l k _ _ _) hk hb⟩

theorem ext_size (s : ByteArray) (a b : Nat) (hb : b ≤ s.size) : (s.extract a b).size = b - a := by
  rw [ByteArray.size_extract, Nat.min_eq_left hb]

abbrev Bs := List UInt8
def bs (s : ByteArray) : Bs := s.data.toList
def mkB (l : Bs) : ByteArray := ⟨l.toArray⟩
theorem bs_mk (l : Bs) : bs (mkB l) = l := by simp [bs, mkB]
theorem mk_bs (s : ByteArray) : mkB (bs s) = s := by simp [bs, mkB]
theorem bs_inj {s t : ByteArray} (h : bs s = bs t) : s = t := by rw [← mk_bs s, h, mk_bs]
theorem bs_len (s : ByteArray) : (bs s).length = s.size := (Go.Lib.size_eq s).symm
theorem bs_list (s : ByteArray) : s.toList = bs s := Go.Lib.toList_data s
theorem mk_size (l : Bs) : (mkB l).size = l.length := by rw [← bs_len, bs_mk]
theorem bs_ext (s : ByteArray) (a b : Nat) : bs (s.extract a b) = ((bs s).drop a).take (b - a) := Go.Lib.extract_data s a b
theorem bs_app (s t : ByteArray) : bs (s ++ t) = bs s ++ bs t := by simp [bs]
theorem bs_nil : bs (⟨#[]⟩ : ByteArray) = [] := rfl
theorem bs_empty : bs ByteArray.empty = [] := rfl
theorem map_bs_mk (L : List Bs) : (L.map mkB).map bs = L := by
  rw [List.map_map]
  conv => rhs; rw [← List.map_id L]
  exact List.map_congr_left fun x _ => bs_mk x
theorem map_mk_bs (L : List ByteArray) : (L.map bs).map mkB = L := by
  rw [List.map_map]
  conv => rhs; rw [← List.map_id L]
  exact List.map_congr_left fun x _ => mk_bs x
theorem bt_bs {s : ByteArray} {i : Nat} (h : i < s.size) : bt s (i : Int) = (((bs s)[i]'(by rw [bs_len]; exact h)).toNat : Int) := by
  unfold bt
  have e : (i : Int).toNat = i := by omega
  rw [dif_pos (by rw [e]; exact h)]
  simp only [e]
  rfl
theorem nat_byte {a : UInt8} {n : Nat} (hn : n < 256) : ((a.toNat : Int) = (n : Int)) ↔ a = UInt8.ofNat n := by
  constructor
  · intro h
    have : a.toNat = n := by omega
    rw [← this]; simp
  · intro h
    rw [h]
    simp only [UInt8.toNat_ofNat']
    omega

def trimP (p : UInt8 → Bool) : Bs → Bs
  | [] => []
  | c :: r => match trimP p r with
    | [] => if p c then [] else [c]
    | x :: l => c :: x :: l
theorem trimP_snoc (p : UInt8 → Bool) : ∀ (l : Bs) (c : UInt8), trimP p (l ++ [c]) = if p c then trimP p l else l ++ [c]
  | [], c => by simp [trimP]
  | d :: l, c => by
    rw [List.cons_append, trimP, trimP_snoc p l c]
    by_cases hc : p c = true
    · rw [if_pos hc, if_pos hc]; rfl
    · rw [if_neg hc, if_neg hc]
      cases l <;> rfl
theorem trimP_congr {p q : UInt8 → Bool} : ∀ {l : Bs}, (∀ c ∈ l, p c = q c) → trimP p l = trimP q l
  | [], _ => rfl
  | c :: l, h => by
    rw [trimP, trimP, trimP_congr (fun d hd => h d (List.mem_cons_of_mem _ hd)), h c (by simp)]
theorem trimP_sub (p : UInt8 → Bool) : ∀ (l : Bs), ∀ c ∈ trimP p l, c ∈ l
  | [], c, h => by simp [trimP] at h
  | d :: l, c, h => by
    rw [trimP] at h
    split at h
    · split at h
      · cases h
      · simp at h; simp [h]
    · rename_i x r e
      rcases List.mem_cons.1 h with rfl | h
      · simp
      · exact List.mem_cons_of_mem _ (trimP_sub p l c (by rw [e]; exact h))
theorem trimP_len (p : UInt8 → Bool) : ∀ (l : Bs), (trimP p l).length ≤ l.length
  | [] => by simp [trimP]
  | d :: l => by
    have := trimP_len p l
    rw [trimP]
    split
    · split <;> simp
    · rename_i x r e
      rw [e] at this
      simp at this ⊢
      omega
theorem trimP_idem (p : UInt8 → Bool) : ∀ (l : Bs), trimP p (trimP p l) = trimP p l
  | [] => rfl
  | c :: l => by
    have ih := trimP_idem p l
    rw [trimP]
    split
    · by_cases hc : p c = true
      · rw [if_pos hc]; rfl
      · rw [if_neg hc]; simp [trimP, hc]
    · rename_i x r e
      rw [e] at ih
      rw [trimP, ih]

def isS (c : UInt8) : Bool := c == 32 || c == 9

theorem byte_is (c : UInt8) (n : Nat) (hn : n < 256) : decide ((c.toNat : Int) = (n : Int)) = (c == UInt8.ofNat n) := by
  by_cases h : c = UInt8.ofNat n
  · rw [decide_eq_true ((nat_byte hn).2 h), beq_iff_eq.2 h]
  · rw [decide_eq_false (fun e => h ((nat_byte hn).1 e)), beq_eq_false_iff_ne.2 h]

theorem blank_any (c : UInt8) : spec_isBlank.f (c.toNat : Int) = some (isS c) := by
  have h1 := byte_is c 32 (by omega)
  have h2 := byte_is c 9 (by omega)
  have e1 : (UInt8.ofNat 32) = 32 := rfl
  have e2 : (UInt8.ofNat 9) = 9 := rfl
  rw [e1] at h1
  rw [e2] at h2
  unfold spec_isBlank.f isS
  rw [← h1, ← h2]
  by_cases a : (c.toNat : Int) = 32
  · rw [if_pos a]; simp [a]
  · rw [if_neg a]
    simp [a]
    rfl

theorem take_last {s : ByteArray} {i : Nat} (h : i < s.size) : (bs s).take (i + 1) = (bs s).take i ++ [(bs s)[i]'(by rw [bs_len]; exact h)] := List.take_succ_eq_append_getElem (by rw [bs_len]; exact h)

theorem ext_mk (s : ByteArray) (i : Nat) : s.extract 0 i = mkB ((bs s).take i) := by
  apply bs_inj
  rw [bs_ext, bs_mk, List.drop_zero, Nat.sub_zero]

theorem trim_any : ∀ (n : Nat) (s : ByteArray), s.size = n → n ≤ 200000 → ∀ k, n < k → spec_trimEnd.f k s = some (mkB (trimP isS (bs s)))
  | 0, s, h, hn, k, hk => by
    obtain ⟨k, rfl⟩ : ∃ m, k = m + 1 := ⟨k - 1, by omega⟩
    unfold spec_trimEnd.f
    simp only [spec_trimEnd.l0]
    rw [if_neg (by omega)]
    have : bs s = [] := List.eq_nil_of_length_eq_zero (by rw [bs_len]; exact h)
    rw [this]
    show some s = some (mkB [])
    rw [← this, mk_bs]
  | n + 1, s, h, hn, k, hk => by
    obtain ⟨k, rfl⟩ : ∃ m, k = m + 1 := ⟨k - 1, by omega⟩
    have hw : wrap64 ((s.size : Int) - 1) = (n : Int) := by unfold wrap64; omega
    have et : ((n : Nat) : Int).toNat = n := by omega
    have hl : n < s.size := by omega
    have hb : bs s = (bs s).take n ++ [(bs s)[n]'(by rw [bs_len]; exact hl)] := by
      rw [← take_last hl, List.take_of_length_le (by rw [bs_len]; omega)]
    unfold spec_trimEnd.f
    simp only [spec_trimEnd.l0]
    rw [hw, if_pos (by omega), if_pos (by omega), if_pos (by omega), bt_bs hl, blank_any]
    simp only [Option.bind_some]
    conv => rhs; rw [hb, trimP_snoc]
    by_cases hc : isS ((bs s)[n]'(by rw [bs_len]; exact hl)) = true
    · rw [if_pos hc, if_pos hc, if_pos (by omega), et]
      have hz : (s.extract 0 n).size = n := by rw [ext_size s 0 n (by omega)]; omega
      have := trim_any n (s.extract 0 n) hz (by omega) k (by omega)
      unfold spec_trimEnd.f at this
      rw [this, ext_mk, bs_mk]
    · rw [if_neg hc, if_neg hc, ← hb, mk_bs]

/-- A small letter or a digit. -/
def Sm (n : Int) : Prop := (97 ≤ n ∧ n ≤ 122) ∨ (48 ≤ n ∧ n ≤ 57)
instance (n : Int) : Decidable (Sm n) := by unfold Sm; infer_instance
theorem small_any (n : Int) : spec_isSmall.f n = some (decide (Sm n)) := by
  unfold spec_isSmall.f
  by_cases a : n ≥ 97
  · rw [if_pos a]
    by_cases b : n ≤ 122
    · rw [if_pos b, decide_eq_true (show Sm n from .inl ⟨a, b⟩)]
    · rw [if_neg b]
      by_cases c : n ≥ 48
      · have h : ¬ n ≤ 57 := by omega
        have h2 : ¬ Sm n := by unfold Sm; omega
        rw [if_pos c, decide_eq_false h, decide_eq_false h2]
      · omega
  · rw [if_neg a]
    by_cases c : n ≥ 48
    · rw [if_pos c]
      by_cases d : n ≤ 57
      · rw [decide_eq_true d, decide_eq_true (show Sm n from .inr ⟨c, d⟩)]
      · have h2 : ¬ Sm n := by unfold Sm; omega
        rw [decide_eq_false d, decide_eq_false h2]
    · have h2 : ¬ Sm n := by unfold Sm; omega
      rw [if_neg c, decide_eq_false h2]

abbrev colonB : ByteArray := ⟨#[58]⟩

/-- The first colon stands at t. -/
def First (s : ByteArray) (t : Nat) : Prop := t < s.size ∧ bt s (t : Int) = 58 ∧ ∀ u, u < t → bt s (u : Int) ≠ 58
/-- .. behind small letters and digits, at least one, and ahead of one. -/
def Colon (s : ByteArray) (t : Nat) : Prop := First s t ∧ 0 < t ∧ t + 1 < s.size ∧ ∀ u, u ≤ t + 1 → u ≠ t → Sm (bt s (u : Int))
theorem First.uniq {s : ByteArray} {t u : Nat} (h : First s t) (h' : First s u) : t = u := by
  rcases Nat.lt_trichotomy t u with hl | hl | hl
  · exact absurd h.2.1 (h'.2.2 t hl)
  · exact hl
  · exact absurd h'.2.1 (h.2.2 u hl)
theorem at_colon {s : ByteArray} {t : Nat} (h : t < s.size) : At s colonB t ↔ bt s (t : Int) = 58 := by
  have h2 : t < (bs s).length := by rw [bs_len]; exact h
  have e : (s.extract t (t + colonB.size)).toList = [(bs s)[t]] := by
    rw [bs_list, bs_ext, List.drop_eq_getElem_cons h2]
    have : t + colonB.size - t = 1 := by show t + 1 - t = 1; omega
    rw [this]
    rfl
  have en : colonB.toList = [58] := by rw [bs_list]; rfl
  unfold At
  rw [e, en, bt_bs h]
  constructor
  · intro hx
    have := List.head_eq_of_cons_eq hx
    rw [this]; rfl
  · intro hx
    rw [(nat_byte (a := (bs s)[t]) (n := 58) (by omega)).1 hx]; rfl
theorem colon_index (s : ByteArray) (hs : s.size ≤ 1000000) : ∃ j : Int, (∀ k, s.size + 1 < k → goprinter_go_ast_zzIndex.f k s colonB = some j) ∧ ((j = -1 ∧ ∀ t, ¬ First s t) ∨ ∃ t : Nat, j = (t : Int) ∧ First s t) := by
  obtain ⟨j, hj, hr⟩ := index_any s colonB hs (by decide)
  refine ⟨j, hj, ?_⟩
  rcases hr with ⟨rfl, hr⟩ | ⟨t, rfl, _, hts, hat, hno⟩
  · exact .inl ⟨rfl, fun t ht => hr t (Nat.zero_le _) ht.1 ((at_colon ht.1).2 ht.2.1)⟩
  · have h1 : t < s.size := hts
    exact .inr ⟨t, rfl, h1, (at_colon h1).1 hat, fun u hu h => hno u (Nat.zero_le _) hu ((at_colon (show u < s.size by omega)).2 h)⟩

theorem colon_l0 (s : ByteArray) (hs : s.size ≤ 1000000) (d : Nat) : ∀ (k i : Nat), s.size ≤ i + d → i ≤ s.size → 2 * d + 1 < k → (∀ u, u < i → Sm (bt s (u : Int)) ∧ bt s (u : Int) ≠ 58) →
    ∃ r : Int, spec_colonOf.l0 k s (s.size : Int) (i : Int) = some r ∧ ((r = -1 ∧ ∀ t, ¬ Colon s t) ∨ ∃ t : Nat, r = (t : Int) ∧ Colon s t) := by
  have stop : ∀ k i : Nat, ¬ (i < s.size) → (∀ u, u < i → Sm (bt s (u : Int)) ∧ bt s (u : Int) ≠ 58) → ∃ r : Int, spec_colonOf.l0 (k + 1) s (s.size : Int) (i : Int) = some r ∧ ((r = -1 ∧ ∀ t, ¬ Colon s t) ∨ ∃ t : Nat, r = (t : Int) ∧ Colon s t) := by
    intro k i hi hall
    refine ⟨-1, ?_, .inl ⟨rfl, fun t ht => (hall t (by have := ht.1.1; omega)).2 ht.1.2.1⟩⟩
    simp only [spec_colonOf.l0]
    rw [if_neg (by omega)]
  induction d with
  | zero =>
    intro k i h0 h1 hk hall
    obtain ⟨k, rfl⟩ : ∃ m, k = m + 1 := ⟨k - 1, by omega⟩
    exact stop k i (by omega) hall
  | succ d ih =>
    intro k i h0 h1 hk hall
    obtain ⟨k, rfl⟩ : ∃ m, k = m + 1 := ⟨k - 1, by omega⟩
    by_cases hi : i < s.size
    · have hw1 : wrap64 ((i : Int) + 1) = ((i + 1 : Nat) : Int) := by unfold wrap64; omega
      have c0 : (i : Int) < (s.size : Int) := by omega
      have c1 : (0 : Int) ≤ (i : Int) := by omega
      simp only [spec_colonOf.l0]
      rw [if_pos c0, if_pos c1, if_pos c0, hw1]
      obtain ⟨k, rfl⟩ : ∃ m, k = m + 1 := ⟨k - 1, by omega⟩
      by_cases h58 : bt s (i : Int) = 58
      · have hf : First s i := ⟨hi, h58, fun u hu => (hall u hu).2⟩
        have hns : ¬ Sm 58 := by unfold Sm; omega
        have no : (¬ Colon s i) → ∃ r : Int, spec_colonOf.j1 (k + 1) s (i : Int) (s.size : Int) (i : Int) false = some r ∧ ((r = -1 ∧ ∀ t, ¬ Colon s t) ∨ ∃ t : Nat, r = (t : Int) ∧ Colon s t) := by
          intro hc
          refine ⟨-1, ?_, .inl ⟨rfl, fun t ht => hc (by have := hf.uniq ht.1; rw [this]; exact ht)⟩⟩
          simp only [spec_colonOf.j1]
          rw [if_neg (by decide), if_pos c1, if_pos c0, small_any, h58, decide_eq_false hns]
          rfl
        rw [if_pos h58]
        by_cases hp : (i : Int) > 0
        · rw [if_pos hp]
          by_cases hq : ((i + 1 : Nat) : Int) < (s.size : Int)
          · rw [if_pos hq, if_pos (by omega), small_any]
            simp only [Option.bind_some]
            by_cases hsm : Sm (bt s ((i + 1 : Nat) : Int))
            · rw [decide_eq_true hsm]
              refine ⟨(i : Int), by simp [spec_colonOf.j1], .inr ⟨i, rfl, hf, by omega, by omega, fun u h2 h3 => ?_⟩⟩
              by_cases hu : u = i + 1
              · rw [hu]; exact hsm
              · exact (hall u (by omega)).1
            · rw [decide_eq_false hsm]
              exact no fun hc => hsm (hc.2.2.2 (i + 1) (Nat.le_refl _) (by omega))
          · rw [if_neg hq]
            exact no fun hc => by have := hc.2.2.1; omega
        · rw [if_neg hp]
          exact no fun hc => by have := hc.2.1; omega
      · rw [if_neg h58]
        simp only [spec_colonOf.j1]
        rw [if_neg (by decide), if_pos c1, if_pos c0, small_any]
        simp only [Option.bind_some]
        by_cases hsm : Sm (bt s (i : Int))
        · rw [decide_eq_true hsm, if_pos rfl, hw1]
          refine ih k (i + 1) (by omega) (by omega) (by omega) fun u hu => ?_
          by_cases hui : u = i
          · rw [hui]; exact ⟨hsm, h58⟩
          · exact hall u (by omega)
        · rw [decide_eq_false hsm, if_neg (by decide)]
          refine ⟨-1, rfl, .inl ⟨rfl, fun t ht => ?_⟩⟩
          have hti : i ≤ t := by
            by_cases h : i ≤ t
            · exact h
            · exact absurd ht.1.2.1 (hall t (by omega)).2
          exact hsm (ht.2.2.2 i (by omega) (fun e => h58 (by rw [e]; exact ht.1.2.1)))
    · exact stop k i hi hall

theorem colonOf_any (s : ByteArray) (hs : s.size ≤ 1000000) : ∃ r : Int, (∀ k, 2 * s.size + 1 < k → spec_colonOf.f k s = some r) ∧ ((r = -1 ∧ ∀ t, ¬ Colon s t) ∨ ∃ t : Nat, r = (t : Int) ∧ Colon s t) := by
  obtain ⟨r, hr, h⟩ := colon_l0 s hs s.size (2 * s.size + 2) 0 (by omega) (by omega) (by omega) (fun u hu => by omega)
  exact ⟨r, fun k hk => at_rounds (fun k => (spec_colonOf.mono_l k).1 _ _ _) (show 2 * s.size + 2 ≤ k by omega) hr, h⟩

theorem ext_all (c : ByteArray) (a : Nat) : bs (c.extract a c.size) = (bs c).drop a := by
  rw [bs_ext, List.take_of_length_le (by rw [List.length_drop, bs_len]; exact Nat.le_refl _)]

theorem bt_get {c : ByteArray} {i : Nat} {x : UInt8} (h : (bs c)[i]? = some x) : bt c (i : Int) = (x.toNat : Int) := by
  obtain ⟨h1, h2⟩ := List.getElem?_eq_some_iff.1 h
  have h3 : i < c.size := by rw [← bs_len]; exact h1
  rw [bt_bs h3, h2]


/-- A byte that is a tab, a newline or one from blank to tilde. -/
def Plain (n : Int) : Prop := n = 9 ∨ n = 10 ∨ (32 ≤ n ∧ n ≤ 126)
theorem plain_l0 (s : ByteArray) (hs : s.size ≤ 1000000) : ∀ (k i : Nat), i ≤ s.size → spec_isPlain.l0 k s (s.size : Int) (i : Int) = some true → ∀ u, i ≤ u → u < s.size → Plain (bt s (u : Int))
  | 0, i, _, h => by simp [spec_isPlain.l0] at h
  | k + 1, i, hi, h => by
    intro u h1 h2
    simp only [spec_isPlain.l0] at h
    have hw1 : wrap64 ((i : Int) + 1) = ((i + 1 : Nat) : Int) := by unfold wrap64; omega
    rw [if_pos (by omega), if_pos (by omega), if_pos (by omega), hw1] at h
    have next : spec_isPlain.l0 k s (s.size : Int) ((i + 1 : Nat) : Int) = some true → Plain (bt s (i : Int)) → Plain (bt s (u : Int)) := by
      intro h3 h4
      by_cases hu : u = i
      · rw [hu]; exact h4
      · exact plain_l0 s hs k (i + 1) (by omega) h3 u (by omega) h2
    by_cases a : bt s (i : Int) = 9
    · rw [if_pos a] at h; exact next h (.inl a)
    · rw [if_neg a] at h
      by_cases b : bt s (i : Int) = 10
      · rw [if_pos b] at h; exact next h (.inr (.inl b))
      · rw [if_neg b] at h
        by_cases c : bt s (i : Int) < 32
        · rw [if_pos c] at h; cases h
        · rw [if_neg c] at h
          by_cases d : bt s (i : Int) > 126
          · rw [if_pos d] at h; cases h
          · rw [if_neg d] at h
            exact next h (.inr (.inr ⟨by omega, by omega⟩))


theorem begins_bs {s p : ByteArray} {b : Bool} (h : spec_begins.f s p = some b) : b = true ↔ ∃ r, bs s = bs p ++ r := by
  unfold spec_begins.f at h
  by_cases c : (s.size : Int) ≥ (p.size : Int)
  · rw [if_pos c, if_pos (by omega), if_pos c] at h
    have := Option.some.inj h
    rw [← this, beq_iff_eq, bs_list, bs_list, bs_ext, List.drop_zero, Nat.sub_zero, Int.toNat_natCast]
    constructor
    · intro e
      exact ⟨(bs s).drop p.size, by rw [← e, List.take_append_drop]⟩
    · rintro ⟨r, e⟩
      rw [e, ← bs_len p]
      exact List.take_left
  · rw [if_neg c] at h
    have := Option.some.inj h
    rw [← this]
    refine ⟨fun h => (by cases h), fun ⟨r, e⟩ => ?_⟩
    have := congrArg List.length e
    rw [List.length_append, bs_len, bs_len] at this
    omega

theorem not_begins {s p : ByteArray} (hs : s.size ≤ 1000000) (h : ¬ ∃ r, bs s = bs p ++ r) : spec_begins.f s p = some false := by
  obtain ⟨b, hb⟩ := begins_any s p hs
  cases b with
  | false => exact hb
  | true => exact absurd ((begins_bs hb).1 rfl) h

theorem is_begins {s p : ByteArray} (hs : s.size ≤ 1000000) (h : ∃ r, bs s = bs p ++ r) : spec_begins.f s p = some true := by
  obtain ⟨b, hb⟩ := begins_any s p hs
  rw [hb, (begins_bs hb).2 h]

end Go.Proofs.YtcjiafjahfmdoaaDoor.A
