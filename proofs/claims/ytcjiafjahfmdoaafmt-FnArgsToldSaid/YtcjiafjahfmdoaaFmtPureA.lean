/- Plain facts on texts and bytes (carried over from the seat of doors). -/
import Derived.Test.YtcjiafjahfmdoaaFmtA1
import Derived.Lib.Strings
namespace Go.Proofs.YtcjiafjahfmdoaaFmt.A
open Go.RowKit Go.Proofs.YtcjiafjahfmdoaaFmtW.PrintWords Go.Proofs.YtcjiafjahfmdoaaFmtW.PrintLast Go.Proofs.YtcjiafjahfmdoaaFmtW.PrintMore
set_option linter.unusedVariables false
set_option linter.unusedSimpArgs false

set_option linter.unusedVariables false
set_option linter.unusedSimpArgs false
/-- p stands in s at place t. -/
def At (s p : ByteArray) (t : Nat) : Prop := (s.extract t (t + p.size)).toList = p.toList
/-- What a search gives: the first place from i on, or -1. -/
def FindR (s p : ByteArray) (i : Nat) (j : Int) : Prop :=
  (j = -1 ∧ ∀ t, i ≤ t → t + p.size ≤ s.size → ¬ At s p t) ∨ (∃ t : Nat, j = (t : Int) ∧ i ≤ t ∧ t + p.size ≤ s.size ∧ At s p t ∧ ∀ u, i ≤ u → u < t → ¬ At s p u)
theorem isPlain_l0 (s : ByteArray) (hs : s.size ≤ 2147483647) (d : Nat) : ∀ (k i : Nat), s.size ≤ i + d → i ≤ s.size → d < k → ∃ b, spec_isPlain.l0 k s (s.size : Int) (i : Int) = some b := by
  induction d with
  | zero =>
    intro k i h0 h1 hk
    obtain ⟨k, rfl⟩ : ∃ m, k = m + 1 := ⟨k - 1, by omega⟩
    simp only [spec_isPlain.l0]
    rw [if_neg (by omega)]
    exact ⟨_, rfl⟩
  | succ d ih =>
    intro k i h0 h1 hk
    obtain ⟨k, rfl⟩ : ∃ m, k = m + 1 := ⟨k - 1, by omega⟩
    have hw1 : wrap64 ((i : Int) + 1) = ((i + 1 : Nat) : Int) := by unfold wrap64; omega
    simp only [spec_isPlain.l0]
    by_cases hi : (i : Int) < (s.size : Int)
    · have := ih k (i + 1) (by omega) (by omega) (by omega)
      rw [if_pos hi, if_pos (by omega), if_pos hi, hw1]
      split
      · exact this
      · split
        · exact this
        · split
          · exact ⟨_, rfl⟩
          · split
            · exact ⟨_, rfl⟩
            · exact this
    · rw [if_neg hi]
      exact ⟨_, rfl⟩
theorem isPlain_any (s : ByteArray) (hs : s.size ≤ 2147483647) : ∃ b, ∀ k, s.size < k → spec_isPlain.f k s = some b := by
  obtain ⟨b, hb⟩ := isPlain_l0 s hs s.size (s.size + 1) 0 (by omega) (by omega) (by omega)
  exact ⟨b, fun k hk => at_rounds (fun k => spec_isPlain.mono_l k _ _ _) hk hb⟩
theorem ext_size (s : ByteArray) (a b : Nat) (hb : b ≤ s.size) : (s.extract a b).size = b - a := by
  rw [ByteArray.size_extract, Nat.min_eq_left hb]
abbrev Bs := List UInt8
def bs (s : ByteArray) : Bs := s.data.toList
def mkB (l : Bs) : ByteArray := ⟨l.toArray⟩
theorem bs_mk (l : Bs) : bs (mkB l) = l := by simp [bs, mkB]
theorem mk_bs (s : ByteArray) : mkB (bs s) = s := by simp [bs, mkB]
theorem bs_inj {s t : ByteArray} (h : bs s = bs t) : s = t := by rw [← mk_bs s, h, mk_bs]
theorem bs_len (s : ByteArray) : (bs s).length = s.size := (Go.Lib.size_eq s).symm
theorem bs_list (s : ByteArray) : s.toList = bs s := Go.Lib.toList_data s
theorem mk_size (l : Bs) : (mkB l).size = l.length := by rw [← bs_len, bs_mk]
theorem bs_ext (s : ByteArray) (a b : Nat) : bs (s.extract a b) = ((bs s).drop a).take (b - a) := Go.Lib.extract_data s a b
theorem bs_app (s t : ByteArray) : bs (s ++ t) = bs s ++ bs t := by simp [bs]
theorem bs_nil : bs (⟨#[]⟩ : ByteArray) = [] := rfl
theorem bs_empty : bs ByteArray.empty = [] := rfl
theorem bt_bs {s : ByteArray} {i : Nat} (h : i < s.size) : bt s (i : Int) = (((bs s)[i]'(by rw [bs_len]; exact h)).toNat : Int) := by
  unfold bt
  have e : (i : Int).toNat = i := by omega
  rw [dif_pos (by rw [e]; exact h)]
  simp only [e]
  rfl
theorem nat_byte {a : UInt8} {n : Nat} (hn : n < 256) : ((a.toNat : Int) = (n : Int)) ↔ a = UInt8.ofNat n := by
  constructor
  · intro h
    have : a.toNat = n := by omega
    rw [← this]; simp
  · intro h
    rw [h]
    simp only [UInt8.toNat_ofNat']
    omega
def isS (c : UInt8) : Bool := c == 32 || c == 9
theorem byte_is (c : UInt8) (n : Nat) (hn : n < 256) : decide ((c.toNat : Int) = (n : Int)) = (c == UInt8.ofNat n) := by
  by_cases h : c = UInt8.ofNat n
  · rw [decide_eq_true ((nat_byte hn).2 h), beq_iff_eq.2 h]
  · rw [decide_eq_false (fun e => h ((nat_byte hn).1 e)), beq_eq_false_iff_ne.2 h]
theorem blank_any (c : UInt8) : spec_isBlank.f (c.toNat : Int) = some (isS c) := by
  have h1 := byte_is c 32 (by omega)
  have h2 := byte_is c 9 (by omega)
  have e1 : (UInt8.ofNat 32) = 32 := rfl
  have e2 : (UInt8.ofNat 9) = 9 := rfl
  rw [e1] at h1
  rw [e2] at h2
  unfold spec_isBlank.f isS
  rw [← h1, ← h2]
  by_cases a : (c.toNat : Int) = 32
  · rw [if_pos a]; simp [a]
  · rw [if_neg a]
    simp [a]
    rfl
theorem ext_mk (s : ByteArray) (i : Nat) : s.extract 0 i = mkB ((bs s).take i) := by
  apply bs_inj
  rw [bs_ext, bs_mk, List.drop_zero, Nat.sub_zero]
theorem ext_all (c : ByteArray) (a : Nat) : bs (c.extract a c.size) = (bs c).drop a := by
  rw [bs_ext, List.take_of_length_le (by rw [List.length_drop, bs_len]; exact Nat.le_refl _)]
theorem bt_get {c : ByteArray} {i : Nat} {x : UInt8} (h : (bs c)[i]? = some x) : bt c (i : Int) = (x.toNat : Int) := by
  obtain ⟨h1, h2⟩ := List.getElem?_eq_some_iff.1 h
  have h3 : i < c.size := by rw [← bs_len]; exact h1
  rw [bt_bs h3, h2]
/-- A byte that is a tab, a newline or one from blank to tilde. -/
def Plain (n : Int) : Prop := n = 9 ∨ n = 10 ∨ (32 ≤ n ∧ n ≤ 126)
theorem plain_l0 (s : ByteArray) (hs : s.size ≤ 2147483647) : ∀ (k i : Nat), i ≤ s.size → spec_isPlain.l0 k s (s.size : Int) (i : Int) = some true → ∀ u, i ≤ u → u < s.size → Plain (bt s (u : Int))
  | 0, i, _, h => by simp [spec_isPlain.l0] at h
  | k + 1, i, hi, h => by
    intro u h1 h2
    simp only [spec_isPlain.l0] at h
    have hw1 : wrap64 ((i : Int) + 1) = ((i + 1 : Nat) : Int) := by unfold wrap64; omega
    rw [if_pos (by omega), if_pos (by omega), if_pos (by omega), hw1] at h
    have next : spec_isPlain.l0 k s (s.size : Int) ((i + 1 : Nat) : Int) = some true → Plain (bt s (i : Int)) → Plain (bt s (u : Int)) := by
      intro h3 h4
      by_cases hu : u = i
      · rw [hu]; exact h4
      · exact plain_l0 s hs k (i + 1) (by omega) h3 u (by omega) h2
    by_cases a : bt s (i : Int) = 9
    · rw [if_pos a] at h; exact next h (.inl a)
    · rw [if_neg a] at h
      by_cases b : bt s (i : Int) = 10
      · rw [if_pos b] at h; exact next h (.inr (.inl b))
      · rw [if_neg b] at h
        by_cases c : bt s (i : Int) < 32
        · rw [if_pos c] at h; cases h
        · rw [if_neg c] at h
          by_cases d : bt s (i : Int) > 126
          · rw [if_pos d] at h; cases h
          · rw [if_neg d] at h
            exact next h (.inr (.inr ⟨by omega, by omega⟩))
def AscB (s : ByteArray) : Prop := ∀ c ∈ bs s, c.toNat < 128
theorem drop_take (p : UInt8 → Bool) : ∀ l : Bs, l.drop (l.takeWhile p).length = l.dropWhile p
  | [] => rfl
  | c :: l => by
    rw [List.takeWhile_cons, List.dropWhile_cons]
    by_cases h : p c = true
    · rw [if_pos h, if_pos h]; exact drop_take p l
    · rw [if_neg h, if_neg h]; rfl
theorem take_take (p : UInt8 → Bool) : ∀ l : Bs, l.take (l.takeWhile p).length = l.takeWhile p
  | [] => rfl
  | c :: l => by
    rw [List.takeWhile_cons]
    by_cases h : p c = true
    · rw [if_pos h, List.length_cons, List.take_succ_cons, take_take p l]
    · rw [if_neg h]; rfl
theorem takeWhile_len (p : UInt8 → Bool) (l : Bs) : (l.takeWhile p).length ≤ l.length := by
  have := congrArg List.length (List.takeWhile_append_dropWhile (p := p) (l := l))
  rw [List.length_append] at this
  omega
theorem count_l0 (s : ByteArray) (v : Int) (hs : s.size ≤ 2147483647) (d : Nat) : ∀ (k i c : Nat), s.size ≤ i + d → i ≤ s.size → d < k → c ≤ i →
    ∃ n : Nat, spec_count.l0 k s v (c : Int) (s.size : Int) (i : Int) = some (n : Int) ∧ c ≤ n ∧ (n = c → ∀ u, i ≤ u → u < s.size → bt s (u : Int) ≠ v) := by
  induction d with
  | zero =>
    intro k i c h0 h1 hk hc
    obtain ⟨k, rfl⟩ : ∃ m, k = m + 1 := ⟨k - 1, by omega⟩
    simp only [spec_count.l0]
    rw [if_neg (by omega)]
    exact ⟨c, rfl, Nat.le_refl _, fun _ u h2 h3 => absurd h3 (by omega)⟩
  | succ d ih =>
    intro k i c h0 h1 hk hc
    obtain ⟨k, rfl⟩ : ∃ m, k = m + 1 := ⟨k - 1, by omega⟩
    have hw1 : wrap64 ((i : Int) + 1) = ((i + 1 : Nat) : Int) := by unfold wrap64; omega
    have hw2 : wrap64 ((c : Int) + 1) = ((c + 1 : Nat) : Int) := by unfold wrap64; omega
    simp only [spec_count.l0]
    by_cases hi : (i : Int) < (s.size : Int)
    · rw [if_pos hi, if_pos (by omega), if_pos hi, hw1, hw2]
      by_cases hb : bt s (i : Int) = v
      · rw [if_pos hb]
        obtain ⟨n, h2, h3, h4⟩ := ih k (i + 1) (c + 1) (by omega) (by omega) (by omega) (by omega)
        exact ⟨n, h2, by omega, fun e => absurd e (by omega)⟩
      · rw [if_neg hb]
        obtain ⟨n, h2, h3, h4⟩ := ih k (i + 1) c (by omega) (by omega) (by omega) (by omega)
        refine ⟨n, h2, h3, fun e u h5 h6 => ?_⟩
        by_cases hu : u = i
        · rw [hu]; exact hb
        · exact h4 e u (by omega) h6
    · rw [if_neg hi]
      exact ⟨c, rfl, Nat.le_refl _, fun _ u h2 h3 => absurd h3 (by omega)⟩
theorem plain_all (s : ByteArray) (hs : s.size ≤ 2147483647) (k : Nat) (hb : spec_isPlain.f k s = some true) : ∀ d ∈ bs s, Plain (d.toNat : Int) := by
  intro d hd
  have hpl := plain_l0 s hs k 0 (Nat.zero_le _) hb
  obtain ⟨u, hu, rfl⟩ := List.getElem_of_mem hd
  have hu' : u < s.size := by rw [← bs_len]; exact hu
  rw [← bt_bs hu']
  exact hpl u (Nat.zero_le _) hu'
/-- The count of a byte: none exactly if it stands nowhere. -/
theorem count_any (s : ByteArray) (b : UInt8) (hs : s.size ≤ 2147483647) (k : Nat) (hk : s.size < k) : ∃ n : Nat, spec_count.f k s (b.toNat : Int) = some (n : Int) ∧ (n = 0 → b ∉ bs s) := by
  obtain ⟨n, hn, _, hno⟩ := count_l0 s (b.toNat : Int) hs s.size k 0 0 (by omega) (Nat.zero_le _) hk (Nat.le_refl _)
  refine ⟨n, hn, fun h0 hm => ?_⟩
  obtain ⟨u, hu, he⟩ := List.getElem_of_mem hm
  have hu' : u < s.size := by rw [← bs_len]; exact hu
  refine hno h0 u (Nat.zero_le _) hu' ?_
  rw [bt_bs hu', he]
theorem line_any (s : ByteArray) (hs : s.size ≤ 2147483647) (k : Nat) (hk : s.size < k) : ∃ b, spec_IsLine.f k s = some b ∧ (b = true → ∀ d ∈ bs s, Plain (d.toNat : Int) ∧ d ≠ 10) := by
  obtain ⟨b, hb⟩ := isPlain_any s hs
  have hb1 := hb k hk
  unfold spec_IsLine.f
  rw [hb1]
  simp only [Option.bind_some]
  cases b with
  | false => exact ⟨false, by rw [if_neg (by decide)], fun h => by cases h⟩
  | true =>
    obtain ⟨n, hn, hno⟩ := count_any s 10 hs k hk
    rw [if_pos rfl, show (10 : Int) = ((10 : UInt8).toNat : Int) from rfl, hn]
    simp only [Option.bind_some]
    refine ⟨_, rfl, fun h d hd => ⟨plain_all s hs k hb1 d hd, fun e => ?_⟩⟩
    have h0 : n = 0 := by have := beq_iff_eq.1 h; omega
    exact hno h0 (e ▸ hd)
end Go.Proofs.YtcjiafjahfmdoaaFmt.A
