/- Plain facts on the printed helpers: what they give, in lists of bytes; at texts of at most 200000 bytes. -/
import Derived.Test.YteaelkeiocogfaaPureT
import Derived.Test.YteaelkeiocogfaaA6
namespace Go.Proofs.Yteaelkeiocogfaa.A
open Go.RowKit Go.Proofs.YteaelkeiocogfaaW.PrintWords Go.Proofs.YteaelkeiocogfaaW.PrintLast Go.Proofs.YteaelkeiocogfaaW.PrintMore
set_option linter.unusedVariables false
set_option linter.unusedSimpArgs false

theorem splitb_l1 (d : Nat) : ∀ (k : Nat) (s : ByteArray) (acc : List ByteArray), s.size ≤ d → s.size ≤ 200000 → acc.length + s.size ≤ 400000 → d + 200100 < k → ∃ L, goprinter_go_ast_zzSplit.l1 k s nl acc = some (acc ++ L) ∧ Lines s L := by
  induction d with
  | zero =>
    intro k s acc hd hs ha hk
    obtain ⟨k, rfl⟩ : ∃ m, k = m + 1 := ⟨k - 1, by omega⟩
    obtain ⟨j, hj, hr⟩ := index_any s nl (by omega) (by decide)
    simp only [goprinter_go_ast_zzSplit.l1]
    rw [hj k (by omega)]
    simp only [Option.bind_some]
    rcases hr with ⟨rfl, hr⟩ | ⟨t, rfl, _, hts, _, _⟩
    · have hl : acc.length < 8796093022208 := by omega
      rw [if_pos (by decide), if_pos hl]
      exact ⟨[s], rfl, .last fun t ht => hr t (Nat.zero_le _) ht⟩
    · have : t + 1 ≤ s.size := hts
      omega
  | succ d ih =>
    intro k s acc hd hs ha hk
    obtain ⟨k, rfl⟩ : ∃ m, k = m + 1 := ⟨k - 1, by omega⟩
    obtain ⟨j, hj, hr⟩ := index_any s nl (by omega) (by decide)
    have hl : acc.length < 8796093022208 := by omega
    simp only [goprinter_go_ast_zzSplit.l1]
    rw [hj k (by omega)]
    simp only [Option.bind_some]
    rcases hr with ⟨rfl, hr⟩ | ⟨t, rfl, _, hts, hat, hno⟩
    · rw [if_pos (by decide), if_pos hl]
      exact ⟨[s], rfl, .last fun t ht => hr t (Nat.zero_le _) ht⟩
    · have h1 : t + 1 ≤ s.size := hts
      have hw : wrap64 ((t : Int) + ((nl.size : Nat) : Int)) = ((t + 1 : Nat) : Int) := by
        show wrap64 ((t : Int) + 1) = _
        unfold wrap64; omega
      have hz : (s.extract (t + 1) s.size).size = s.size - (t + 1) := ext_size s (t + 1) s.size (Nat.le_refl _)
      have e1 : ((t : Nat) : Int).toNat = t := by omega
      have e2 : ((t + 1 : Nat) : Int).toNat = t + 1 := by omega
      have c1 : ¬ ((t : Int) < 0) := by omega
      have c2 : (0 : Int) ≤ (t : Int) := by omega
      have c3 : (t : Int) ≤ (s.size : Int) := by omega
      have c4 : (0 : Int) ≤ ((t + 1 : Nat) : Int) := by omega
      have c5 : ((t + 1 : Nat) : Int) ≤ (s.size : Int) := by omega
      have g1 : s.size - (t + 1) ≤ d := by omega
      have g2 : s.size - (t + 1) ≤ 200000 := by omega
      have g3 : (acc ++ [s.extract 0 t]).length + (s.size - (t + 1)) ≤ 400000 := by simp; omega
      rw [hw, if_neg c1, if_pos c2, if_pos c3, if_pos hl, if_pos c4, if_pos c5, e1, e2]
      obtain ⟨L, hL, hLs⟩ := ih k (s.extract (t + 1) s.size) (acc ++ [s.extract 0 t]) (by rw [hz]; exact g1) (by rw [hz]; exact g2) (by rw [hz]; exact g3) (by omega)
      refine ⟨s.extract 0 t :: L, by rw [hL]; simp, .cut h1 hat (fun u hu => hno u (Nat.zero_le _) hu) hLs⟩


theorem linesb_l0 (s : ByteArray) (hs : s.size ≤ 200000) (d : Nat) : ∀ (k i a : Nat) (acc : List ByteArray), s.size ≤ i + d → i ≤ s.size → a ≤ i → acc.length ≤ i → (∀ u, a ≤ u → u < i → ¬ At s nl u) → d < k →
    ∃ L, spec_lines.l0 k s acc (a : Int) (s.size : Int) (i : Int) = some (acc ++ L) ∧ Lines (s.extract a s.size) L := by
  induction d with
  | zero =>
    intro k i a acc h0 h1 ha hacc hno hk
    obtain ⟨k, rfl⟩ : ∃ m, k = m + 1 := ⟨k - 1, by omega⟩
    have hl : acc.length < 8796093022208 := by omega
    have ca : (a : Int).toNat = a := by omega
    have c0 : ¬ ((i : Int) < (s.size : Int)) := by omega
    have c1 : (0 : Int) ≤ (a : Int) := by omega
    have c2 : (a : Int) ≤ (s.size : Int) := by omega
    simp only [spec_lines.l0]
    rw [if_neg c0, if_pos c1, if_pos c2, if_pos hl, ca]
    refine ⟨[s.extract a s.size], rfl, .last fun t ht => ?_⟩
    have hz : (s.extract a s.size).size = s.size - a := ext_size s a s.size (Nat.le_refl _)
    rw [at_ext (by omega) ht]
    rw [hz] at ht
    exact hno (a + t) (by omega) (by omega)
  | succ d ih =>
    intro k i a acc h0 h1 ha hacc hno hk
    obtain ⟨k, rfl⟩ : ∃ m, k = m + 1 := ⟨k - 1, by omega⟩
    have hl : acc.length < 8796093022208 := by omega
    have ca : (a : Int).toNat = a := by omega
    have ci : (i : Int).toNat = i := by omega
    have c1 : (0 : Int) ≤ (a : Int) := by omega
    have c2 : (a : Int) ≤ (s.size : Int) := by omega
    have ci0 : (0 : Int) ≤ (i : Int) := by omega
    have c3 : (a : Int) ≤ (i : Int) := by omega
    have c4 : (i : Int) ≤ (s.size : Int) := by omega
    have hw1 : wrap64 ((i : Int) + 1) = ((i + 1 : Nat) : Int) := by unfold wrap64; omega
    have hz : (s.extract a s.size).size = s.size - a := ext_size s a s.size (Nat.le_refl _)
    simp only [spec_lines.l0]
    by_cases hi : (i : Int) < (s.size : Int)
    · have hin : i < s.size := by omega
      rw [if_pos hi, if_pos ci0, if_pos hi]
      by_cases hb : bt s (i : Int) = 10
      · have hat : At s nl i := (at_bt hin).2 hb
        have g0 : s.size ≤ i + 1 + d := by omega
        have g1 : (acc ++ [s.extract a i]).length ≤ i + 1 := by simp; omega
        rw [if_pos hb, if_pos c1, if_pos c3, if_pos c4, if_pos hl, ca, ci, hw1]
        obtain ⟨L, hL, hLs⟩ := ih k (i + 1) (i + 1) (acc ++ [s.extract a i]) g0 (by omega) (Nat.le_refl _) g1 (fun u hu hu2 => by omega) (by omega)
        have e1 : (s.extract a s.size).extract 0 (i - a) = s.extract a i := by
          rw [ByteArray.extract_extract, Nat.add_zero, Nat.min_eq_left (by omega), show a + (i - a) = i by omega]
        have e2 : (s.extract a s.size).extract (i - a + 1) (s.extract a s.size).size = s.extract (i + 1) s.size := by
          rw [ByteArray.extract_extract, hz, show a + (i - a + 1) = i + 1 by omega, show a + (s.size - a) = s.size by omega, Nat.min_self]
        refine ⟨s.extract a i :: L, by rw [hL]; simp, ?_⟩
        rw [← e1]
        refine .cut (j := i - a) (by rw [hz]; omega) ?_ (fun t ht => ?_) (by rw [e2]; exact hLs)
        · have hq : i - a + nl.size ≤ (s.extract a s.size).size := by show i - a + 1 ≤ _; rw [hz]; omega
          rw [at_ext (by omega) hq, show a + (i - a) = i by omega]
          exact hat
        · have hq : t + nl.size ≤ (s.extract a s.size).size := by show t + 1 ≤ _; rw [hz]; omega
          rw [at_ext (by omega) hq]
          exact hno (a + t) (by omega) (by omega)
      · have hnat : ¬ At s nl i := fun h => hb ((at_bt hin).1 h)
        rw [if_neg hb, hw1]
        exact ih k (i + 1) a acc (by omega) (by omega) (by omega) (by omega) (fun u hu hu2 => by
          by_cases hui : u = i
          · subst hui; exact hnat
          · exact hno u hu (by omega)) (by omega)
    · rw [if_neg hi, if_pos c1, if_pos c2, if_pos hl, ca]
      refine ⟨[s.extract a s.size], rfl, .last fun t ht => ?_⟩
      rw [at_ext (by omega) ht]
      rw [hz] at ht
      exact hno (a + t) (by omega) (by omega)

theorem split_big (s : ByteArray) (hs : s.size ≤ 200000) (k : Nat) (hk : 500000 < k) : goprinter_go_ast_zzSplit.f k s nl = some ((splitNL (bs s)).map mkB) := by
  obtain ⟨L, hL, hLs⟩ := splitb_l1 s.size k s [] (Nat.le_refl _) hs (by simp; omega) (by omega)
  unfold goprinter_go_ast_zzSplit.f
  rw [if_neg (by decide), hL, List.nil_append, ← lines_split hLs, map_mk_bs]
theorem lines_big (s : ByteArray) (hs : s.size ≤ 200000) (k : Nat) (hk : 500000 < k) : spec_lines.f k s = some ((splitNL (bs s)).map mkB) := by
  obtain ⟨L', hL', hLs'⟩ := linesb_l0 s hs s.size k 0 0 [] (by omega) (by omega) (by omega) (by simp) (fun u h1 h2 => by omega) (by omega)
  have e0 : s.extract 0 s.size = s := ByteArray.extract_zero_size
  rw [e0] at hLs'
  unfold spec_lines.f
  show spec_lines.l0 k s [] ((0 : Nat) : Int) (s.size : Int) ((0 : Nat) : Int) = _
  rw [hL', List.nil_append, ← lines_split hLs', map_mk_bs]

/-! blanks -/
def isW (c : UInt8) : Bool := c == 32 || (c == 9 || (c == 10 || c == 13))
def isS (c : UInt8) : Bool := c == 32 || c == 9
theorem byte_is (c : UInt8) (n : Nat) (hn : n < 256) : decide ((c.toNat : Int) = (n : Int)) = (c == UInt8.ofNat n) := by
  by_cases h : c = UInt8.ofNat n
  · rw [decide_eq_true ((nat_byte hn).2 h), beq_iff_eq.2 h]
  · rw [decide_eq_false (fun e => h ((nat_byte hn).1 e)), beq_eq_false_iff_ne.2 h]
theorem white_any (c : UInt8) : goprinter_go_ast_isWhitespace.f (c.toNat : Int) = some (isW c) := by
  have h1 := byte_is c 32 (by omega)
  have h2 := byte_is c 9 (by omega)
  have h3 := byte_is c 10 (by omega)
  have h4 := byte_is c 13 (by omega)
  have e1 : (UInt8.ofNat 32) = 32 := rfl
  have e2 : (UInt8.ofNat 9) = 9 := rfl
  have e3 : (UInt8.ofNat 10) = 10 := rfl
  have e4 : (UInt8.ofNat 13) = 13 := rfl
  rw [e1] at h1
  rw [e2] at h2
  rw [e3] at h3
  rw [e4] at h4
  unfold goprinter_go_ast_isWhitespace.f isW
  rw [← h1, ← h2, ← h3, ← h4]
  by_cases a : (c.toNat : Int) = 32
  · rw [if_pos a]; simp [a]
  · rw [if_neg a]
    by_cases b : (c.toNat : Int) = 9
    · rw [if_pos b]; simp [b]
    · rw [if_neg b]
      by_cases d : (c.toNat : Int) = 10
      · rw [if_pos d]; simp [d]
      · rw [if_neg d]
        simp [a, b, d]
        rfl
theorem blank_any (c : UInt8) : spec_isBlank.f (c.toNat : Int) = some (isS c) := by
  have h1 := byte_is c 32 (by omega)
  have h2 := byte_is c 9 (by omega)
  have e1 : (UInt8.ofNat 32) = 32 := rfl
  have e2 : (UInt8.ofNat 9) = 9 := rfl
  rw [e1] at h1
  rw [e2] at h2
  unfold spec_isBlank.f isS
  rw [← h1, ← h2]
  by_cases a : (c.toNat : Int) = 32
  · rw [if_pos a]; simp [a]
  · rw [if_neg a]
    simp [a]
    rfl
theorem take_last {s : ByteArray} {i : Nat} (h : i < s.size) : (bs s).take (i + 1) = (bs s).take i ++ [(bs s)[i]'(by rw [bs_len]; exact h)] := List.take_succ_eq_append_getElem (by rw [bs_len]; exact h)
theorem ext_mk (s : ByteArray) (i : Nat) : s.extract 0 i = mkB ((bs s).take i) := by
  apply bs_inj
  rw [bs_ext, bs_mk, List.drop_zero, Nat.sub_zero]
theorem strip_l0 (s : ByteArray) (hs : s.size ≤ 200000) : ∀ (i k : Nat), i ≤ s.size → i < k → goprinter_go_ast_stripTrailingWhitespace.l0 k s (i : Int) = some (mkB (trimP isW ((bs s).take i)))
  | 0, k, h, hk => by
    obtain ⟨k, rfl⟩ : ∃ m, k = m + 1 := ⟨k - 1, by omega⟩
    simp only [goprinter_go_ast_stripTrailingWhitespace.l0]
    rw [if_neg (by omega), if_pos (by omega), if_pos (by omega)]
    show some (s.extract 0 0) = _
    rw [ext_mk]
    rfl
  | i + 1, k, h, hk => by
    obtain ⟨k, rfl⟩ : ∃ m, k = m + 1 := ⟨k - 1, by omega⟩
    have hw : wrap64 (((i + 1 : Nat) : Int) - 1) = (i : Int) := by unfold wrap64; omega
    have et : ((i + 1 : Nat) : Int).toNat = i + 1 := by omega
    simp only [goprinter_go_ast_stripTrailingWhitespace.l0]
    rw [hw, if_pos (by omega), if_pos (by omega), if_pos (by omega), bt_bs (show i < s.size by omega), white_any]
    simp only [Option.bind_some]
    rw [take_last (show i < s.size by omega), trimP_snoc]
    by_cases hc : isW ((bs s)[i]'(by rw [bs_len]; omega)) = true
    · rw [if_pos hc, if_pos hc]
      exact strip_l0 s hs i k (by omega) (by omega)
    · rw [if_neg hc, if_neg hc, if_pos (by omega), if_pos (by omega), et, ext_mk, take_last (show i < s.size by omega)]
theorem strip_any (s : ByteArray) (hs : s.size ≤ 200000) (k : Nat) (hk : 200000 < k) : goprinter_go_ast_stripTrailingWhitespace.f k s = some (mkB (trimP isW (bs s))) := by
  unfold goprinter_go_ast_stripTrailingWhitespace.f
  rw [strip_l0 s hs s.size k (Nat.le_refl _) (by omega), List.take_of_length_le (by rw [bs_len]; exact Nat.le_refl _)]
theorem trim_any : ∀ (n : Nat) (s : ByteArray), s.size = n → n ≤ 200000 → ∀ k, n < k → spec_trimEnd.f k s = some (mkB (trimP isS (bs s)))
  | 0, s, h, hn, k, hk => by
    obtain ⟨k, rfl⟩ : ∃ m, k = m + 1 := ⟨k - 1, by omega⟩
    unfold spec_trimEnd.f
    simp only [spec_trimEnd.l0]
    rw [if_neg (by omega)]
    have : bs s = [] := List.eq_nil_of_length_eq_zero (by rw [bs_len]; exact h)
    rw [this]
    show some s = some (mkB [])
    rw [← this, mk_bs]
  | n + 1, s, h, hn, k, hk => by
    obtain ⟨k, rfl⟩ : ∃ m, k = m + 1 := ⟨k - 1, by omega⟩
    have hw : wrap64 ((s.size : Int) - 1) = (n : Int) := by unfold wrap64; omega
    have et : ((n : Nat) : Int).toNat = n := by omega
    have hl : n < s.size := by omega
    have hb : bs s = (bs s).take n ++ [(bs s)[n]'(by rw [bs_len]; exact hl)] := by
      rw [← take_last hl, List.take_of_length_le (by rw [bs_len]; omega)]
    unfold spec_trimEnd.f
    simp only [spec_trimEnd.l0]
    rw [hw, if_pos (by omega), if_pos (by omega), if_pos (by omega), bt_bs hl, blank_any]
    simp only [Option.bind_some]
    conv => rhs; rw [hb, trimP_snoc]
    by_cases hc : isS ((bs s)[n]'(by rw [bs_len]; exact hl)) = true
    · rw [if_pos hc, if_pos hc, if_pos (by omega), et]
      have hz : (s.extract 0 n).size = n := by rw [ext_size s 0 n (by omega)]; omega
      have := trim_any n (s.extract 0 n) hz (by omega) k (by omega)
      unfold spec_trimEnd.f at this
      rw [this, ext_mk, bs_mk]
    · rw [if_neg hc, if_neg hc, ← hb, mk_bs]
end Go.Proofs.Yteaelkeiocogfaa.A
