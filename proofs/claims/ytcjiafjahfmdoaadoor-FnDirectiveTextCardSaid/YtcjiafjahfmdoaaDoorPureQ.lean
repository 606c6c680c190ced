/- A directive's parts, on both sides: at lines of at most 1000 bytes from blank to tilde, and tabs. -/
import Derived.Test.YtcjiafjahfmdoaaDoorPureP
import Derived.Lib.TrimAscii
namespace Go.Proofs.YtcjiafjahfmdoaaDoor.A
open Go.RowKit Go.Proofs.YtcjiafjahfmdoaaDoorW.PrintWords Go.Proofs.YtcjiafjahfmdoaaDoorW.PrintLast Go.Proofs.YtcjiafjahfmdoaaDoorW.PrintMore
set_option linter.unusedVariables false
set_option linter.unusedSimpArgs false

theorem alnum_any (n : Int) : goprinter_go_ast_isalnum.f n = some (decide (Sm n)) := by
  unfold goprinter_go_ast_isalnum.f
  by_cases a : 97 ≤ n
  · rw [if_pos a]
    by_cases b : n ≤ 122
    · rw [if_pos b, decide_eq_true (show Sm n from .inl ⟨a, b⟩)]
    · have h2 : ¬ Sm n := by unfold Sm; omega
      rw [if_neg b, if_pos (by omega), decide_eq_false h2, decide_eq_false (by omega)]
  · rw [if_neg a]
    by_cases c : 48 ≤ n
    · rw [if_pos c]
      by_cases d : n ≤ 57
      · rw [decide_eq_true d, decide_eq_true (show Sm n from .inr ⟨c, d⟩)]
      · have h2 : ¬ Sm n := by unfold Sm; omega
        rw [decide_eq_false d, decide_eq_false h2]
    · have h2 : ¬ Sm n := by unfold Sm; omega
      rw [if_neg c, decide_eq_false h2]
theorem alL_any (s : ByteArray) (hs : s.size ≤ 1000000) (j : Nat) (hj : j + 1 < s.size) (d : Nat) : ∀ (k i : Nat), j + 2 ≤ i + d → d < k →
    ∃ b, alL k s (j : Int) (i : Int) = some b ∧ (b = true ↔ ∀ u, i ≤ u → u ≤ j + 1 → u ≠ j → Sm (bt s (u : Int))) := by
  have hw0 : wrap64 ((j : Int) + 1) = ((j + 1 : Nat) : Int) := by unfold wrap64; omega
  have stop : ∀ k i : Nat, ¬ (i ≤ j + 1) → ∃ b, alL (k + 1) s (j : Int) (i : Int) = some b ∧ (b = true ↔ ∀ u, i ≤ u → u ≤ j + 1 → u ≠ j → Sm (bt s (u : Int))) := by
    intro k i hi
    refine ⟨true, ?_, ⟨fun _ u h1 h2 => by omega, fun _ => rfl⟩⟩
    simp only [alL]
    rw [hw0, if_neg (by omega)]
  induction d with
  | zero =>
    intro k i h0 hk
    obtain ⟨k, rfl⟩ : ∃ m, k = m + 1 := ⟨k - 1, by omega⟩
    exact stop k i (by omega)
  | succ d ih =>
    intro k i h0 hk
    obtain ⟨k, rfl⟩ : ∃ m, k = m + 1 := ⟨k - 1, by omega⟩
    by_cases hi : i ≤ j + 1
    · have hw1 : wrap64 ((i : Int) + 1) = ((i + 1 : Nat) : Int) := by unfold wrap64; omega
      obtain ⟨b, hb, hiff⟩ := ih k (i + 1) (by omega) (by omega)
      simp only [alL]
      rw [hw0, if_pos (by omega), hw1]
      by_cases hij : i = j
      · subst hij
        rw [if_pos rfl]
        refine ⟨b, hb, hiff.trans ⟨fun h u h1 h2 h3 => h u (by omega) h2 h3, fun h u h1 h2 h3 => h u (by omega) h2 h3⟩⟩
      · rw [if_neg (by omega), if_pos (by omega), if_pos (by omega), alnum_any]
        simp only [Option.bind_some]
        by_cases hsm : Sm (bt s (i : Int))
        · refine ⟨b, ?_, ?_⟩
          · rw [decide_eq_true hsm, if_pos rfl]; exact hb
          · refine hiff.trans ⟨fun h u h1 h2 h3 => ?_, fun h u h1 h2 h3 => h u (by omega) h2 h3⟩
            by_cases hu : u = i
            · rw [hu]; exact hsm
            · exact h u (by omega) h2 h3
        · refine ⟨false, ?_, ⟨fun h => (by cases h), fun h => absurd (h i (Nat.le_refl _) hi hij) hsm⟩⟩
          rw [decide_eq_false hsm, if_neg (by decide)]
    · exact stop k i hi

/-! the library's trimming at bytes below 128 -/
def Asc (s : ByteArray) : Prop := ∀ c ∈ bs s, c.toNat < 128
theorem dec_ascii {s : ByteArray} {pos : Nat} (h : pos < s.size) (ha : Asc s) : Utf8.decode s pos = (((bs s)[pos]'(by rw [bs_len]; exact h)).toNat, 1) := by
  have hl : pos < (bs s).length := by rw [bs_len]; exact h
  have e : s.data.toList.getD pos 0 = (bs s)[pos] := by
    show (bs s).getD pos 0 = _
    simp [hl]
  rw [Go.Lib.decode_N, e]
  exact Go.Lib.decodeN_ascii _ _ _ _ _ (ha _ (List.getElem_mem hl))
theorem idx_from (p : Nat → Bool) (truth : Bool) (s : ByteArray) (ha : Asc s) : ∀ (f pos : Nat), s.size ≤ pos + f → pos ≤ s.size →
    Go.Lib.idxFuncFrom p truth s f pos = if pos + (((bs s).drop pos).takeWhile (fun c => p c.toNat != truth)).length < s.size then ((pos + (((bs s).drop pos).takeWhile (fun c => p c.toNat != truth)).length : Nat) : Int) else -1
  | 0, pos, h, hp => by
    rw [List.drop_eq_nil_of_le (by rw [bs_len]; omega)]
    show (-1 : Int) = _
    rw [if_neg (by simp; omega)]
  | f + 1, pos, h, hp => by
    unfold Go.Lib.idxFuncFrom
    by_cases hlt : pos < s.size
    · have hl : pos < (bs s).length := by rw [bs_len]; exact hlt
      rw [if_pos hlt, dec_ascii hlt ha, List.drop_eq_getElem_cons hl]
      by_cases hc : p ((bs s)[pos]).toNat = truth
      · have hb : (p ((bs s)[pos]).toNat != truth) = false := by rw [hc]; simp
        rw [if_pos hc, List.takeWhile_cons, hb]
        simp [hlt]
      · have hb : (p ((bs s)[pos]).toNat != truth) = true := bne_iff_ne.2 hc
        rw [if_neg hc, List.takeWhile_cons, hb, idx_from p truth s ha f (pos + 1) (by omega) (by omega)]
        simp only [if_true, List.length_cons]
        rw [show pos + 1 + (List.takeWhile (fun c => p c.toNat != truth) (List.drop (pos + 1) (bs s))).length = pos + ((List.takeWhile (fun c => p c.toNat != truth) (List.drop (pos + 1) (bs s))).length + 1) by omega]
    · rw [if_neg hlt, List.drop_eq_nil_of_le (by rw [bs_len]; omega), if_neg (by simp; omega)]
theorem drop_take (p : UInt8 → Bool) : ∀ l : Bs, l.drop (l.takeWhile p).length = l.dropWhile p
  | [] => rfl
  | c :: l => by
    rw [List.takeWhile_cons, List.dropWhile_cons]
    by_cases h : p c = true
    · rw [if_pos h, if_pos h]; exact drop_take p l
    · rw [if_neg h, if_neg h]; rfl
theorem take_take (p : UInt8 → Bool) : ∀ l : Bs, l.take (l.takeWhile p).length = l.takeWhile p
  | [] => rfl
  | c :: l => by
    rw [List.takeWhile_cons]
    by_cases h : p c = true
    · rw [if_pos h, List.length_cons, List.take_succ_cons, take_take p l]
    · rw [if_neg h]; rfl
theorem takeWhile_len (p : UInt8 → Bool) (l : Bs) : (l.takeWhile p).length ≤ l.length := by
  have := congrArg List.length (List.takeWhile_append_dropWhile (p := p) (l := l))
  rw [List.length_append] at this
  omega
theorem trimLeft_any (p : Nat → Bool) (s : ByteArray) (ha : Asc s) : Go.Lib.trimLeftF p s = mkB ((bs s).dropWhile (fun c => p c.toNat)) := by
  have hi := idx_from p false s ha s.size 0 (by omega) (Nat.zero_le _)
  have e : (fun c : UInt8 => p c.toNat != false) = fun c => p c.toNat := by funext c; simp
  rw [e, List.drop_zero, Nat.zero_add] at hi
  have hd := drop_take (fun c => p c.toNat) (bs s)
  unfold Go.Lib.trimLeftF Go.Lib.idxFunc
  rw [hi]
  by_cases h : ((bs s).takeWhile (fun c => p c.toNat)).length < s.size
  · rw [if_pos h, if_neg (by omega), Int.toNat_natCast]
    apply bs_inj
    rw [ext_all, bs_mk, hd]
  · rw [if_neg h, if_pos rfl, ← hd, List.drop_eq_nil_of_le (by rw [bs_len]; omega)]
    rfl
theorem last_from (p : Nat → Bool) (s : ByteArray) (ha : Asc s) : ∀ (i f : Nat), i ≤ f → i ≤ s.size → Go.Lib.lastIdxFuncFrom p false s f i = ((trimP (fun c => p c.toNat) ((bs s).take i)).length : Int) - 1
  | 0, f, hf, hi => by rw [Go.Lib.lastIdxFuncFrom_zero]; rfl
  | i + 1, f, hf, hi => by
    obtain ⟨f, rfl⟩ : ∃ m, f = m + 1 := ⟨f - 1, by omega⟩
    have hl : i < s.size := by omega
    have hb : (bs s)[i]'(by rw [bs_len]; exact hl) ∈ bs s := List.getElem_mem _
    unfold Go.Lib.lastIdxFuncFrom
    have e : s.data.toList.take (i + 1) = (bs s).take i ++ [(bs s)[i]'(by rw [bs_len]; exact hl)] := take_last hl
    rw [if_pos (by omega), e, Go.Lib.decodeLastL_ascii _ _ (ha _ hb), take_last hl, trimP_snoc]
    by_cases hc : p ((bs s)[i]'(by rw [bs_len]; exact hl)).toNat = false
    · rw [if_pos hc, if_neg (by rw [hc]; decide)]
      simp only [List.length_append, List.length_take, List.length_singleton, bs_len]
      omega
    · have hc' : p ((bs s)[i]'(by rw [bs_len]; exact hl)).toNat = true := by simpa using hc
      rw [if_neg hc, if_pos hc']
      exact last_from p s ha i f (by omega) (by omega)
theorem trimP_take (p : UInt8 → Bool) : ∀ l : Bs, l.take (trimP p l).length = trimP p l
  | [] => rfl
  | c :: l => by
    have ih := trimP_take p l
    rw [trimP]
    split
    · split <;> rfl
    · rename_i x r e
      rw [e] at ih
      rw [List.length_cons, List.take_succ_cons, ih]
theorem trimRight_any (p : Nat → Bool) (s : ByteArray) (ha : Asc s) : Go.Lib.trimRightF p s = mkB (trimP (fun c => p c.toNat) (bs s)) := by
  have hi := last_from p s ha s.size s.size (Nat.le_refl _) (Nat.le_refl _)
  rw [List.take_of_length_le (by rw [bs_len]; exact Nat.le_refl _)] at hi
  have ht := trimP_len (fun c => p c.toNat) (bs s)
  rw [bs_len] at ht
  obtain ⟨n, hn⟩ : ∃ n, (trimP (fun c => p c.toNat) (bs s)).length = n := ⟨_, rfl⟩
  have hend : Go.Lib.rightEndF p s = n := by
    unfold Go.Lib.rightEndF Go.Lib.lastIdxFunc
    rw [hi, hn]
    by_cases h0 : n = 0
    · rw [if_neg (by omega), h0]
    · have hts : ((n : Int) - 1).toNat = n - 1 := by omega
      have hz : (s.extract (n - 1) s.size).size = s.size - (n - 1) := ext_size s (n - 1) s.size (Nat.le_refl _)
      have hne : ¬ (s.extract (n - 1) s.size).size = 0 := by rw [hz]; omega
      have hd : Go.Lib.decodeGoB (s.extract (n - 1) s.size) = Utf8.decode (s.extract (n - 1) s.size) 0 := by unfold Go.Lib.decodeGoB; rw [if_neg hne]
      have ha2 : Asc (s.extract (n - 1) s.size) := fun c hc => ha c (by rw [ext_all] at hc; exact List.mem_of_mem_drop hc)
      rw [if_pos (by omega), hts, hd, dec_ascii (by omega) ha2]
      show n - 1 + 1 = n
      omega
  unfold Go.Lib.trimRightF
  rw [hend, ext_mk, ← hn, trimP_take]

theorem space_plain {c : UInt8} (h : Plain (c.toNat : Int)) (h10 : c ≠ 10) : Go.Lib.isSpaceR c.toNat = isS c := by
  have n10 : (c == 10) = false := beq_eq_false_iff_ne.2 h10
  have nn : ∀ d : UInt8, ¬ Plain (d.toNat : Int) → (c == d) = false := fun d hd => beq_eq_false_iff_ne.2 fun e => hd (by rw [← e]; exact h)
  have hd : ∀ n : Int, 11 ≤ n → n ≤ 13 → ¬ Plain n := fun n h1 h2 hp => by unfold Plain at hp; omega
  have n11 := nn 11 (hd _ (by decide) (by decide))
  have n12 := nn 12 (hd _ (by decide) (by decide))
  have n13 := nn 13 (hd _ (by decide) (by decide))
  have e : Go.Lib.isSp c = isS c := by
    unfold Go.Lib.isSp isS
    rw [n10, n11, n12, n13]
    cases (c == 32) <;> cases (c == 9) <;> rfl
  have hlt : c.toNat < 128 := by unfold Plain at h; omega
  rw [← e]
  cases hb : Go.Lib.isSp c with
  | true => exact (Go.Lib.isSp_true hb).2
  | false => exact Go.Lib.isSp_false hb hlt

/-! the reference's loops -/
theorem sd_l1 (a0 : Int) (s : ByteArray) (hs : s.size ≤ 1000) (X Y Z : ByteArray) (P Q : Int) (d : Nat) : ∀ (k i : Nat), s.size - i = d → i ≤ s.size → d + 2000 < k →
    spec_Directive.l1 k a0 s (i : Int) X Y Z P Q = some (X, Y, mkB (trimP isS (((bs s).drop i).dropWhile isS)), P, wrap64 ((wrap64 (a0 + ((i + (((bs s).drop i).takeWhile isS).length : Nat) : Int))) + 2), true) := by
  have fin : ∀ (k i : Nat), i ≤ s.size → 1500 < k → (spec_trimEnd.f k (s.extract (i : Int).toNat s.size)) = some (mkB (trimP isS ((bs s).drop i))) := by
    intro k i hi hk
    rw [Int.toNat_natCast]
    have hz := ext_size s i s.size (Nat.le_refl _)
    rw [trim_any _ (s.extract i s.size) rfl (by rw [hz]; omega) k (by rw [hz]; omega), ext_all]
  induction d with
  | zero =>
    intro k i hd hi hk
    obtain ⟨k, rfl⟩ : ∃ m, k = m + 1 := ⟨k - 1, by omega⟩
    simp only [spec_Directive.l1]
    rw [if_neg (by omega), if_pos (by omega), if_pos (by omega), fin k i hi (by omega), List.drop_eq_nil_of_le (by rw [bs_len]; omega)]
    rfl
  | succ d ih =>
    intro k i hd hi hk
    obtain ⟨k, rfl⟩ : ∃ m, k = m + 1 := ⟨k - 1, by omega⟩
    have hlt : i < s.size := by omega
    have hl : i < (bs s).length := by rw [bs_len]; exact hlt
    have hw : wrap64 ((i : Int) + 1) = ((i + 1 : Nat) : Int) := by unfold wrap64; omega
    simp only [spec_Directive.l1]
    rw [if_pos (by omega), if_pos (by omega), bt_bs hlt, blank_any]
    simp only [Option.bind_some]
    by_cases hc : isS ((bs s)[i]) = true
    · rw [if_pos hc, hw, ih k (i + 1) (by omega) (by omega) (by omega)]
      rw [List.drop_eq_getElem_cons hl, List.dropWhile_cons, List.takeWhile_cons, if_pos hc, if_pos hc, List.length_cons]
      rw [show i + 1 + (List.takeWhile isS (List.drop (i + 1) (bs s))).length = i + ((List.takeWhile isS (List.drop (i + 1) (bs s))).length + 1) by omega]
    · rw [if_neg hc, if_pos (by omega), fin k i hi (by omega)]
      rw [List.drop_eq_getElem_cons hl, List.dropWhile_cons, List.takeWhile_cons, if_neg hc, if_neg hc]
      rfl
theorem sd_l0 (a0 : Int) (s : ByteArray) (hs : s.size ≤ 1000) (t : Nat) (R : Dir) (K0 : Nat) (d : Nat) : ∀ (k i : Nat), s.size - i = d → i ≤ s.size → d + K0 < k →
    (∀ k, K0 ≤ k → spec_Directive.j1 k a0 s (t : Int) ((i + (((bs s).drop i).takeWhile (fun c => !isS c)).length : Nat) : Int) = some R) → spec_Directive.l0 k a0 s (t : Int) (i : Int) = some R := by
  induction d with
  | zero =>
    intro k i hd hi hk hR
    obtain ⟨k, rfl⟩ : ∃ m, k = m + 1 := ⟨k - 1, by omega⟩
    rw [List.drop_eq_nil_of_le (by rw [bs_len]; omega)] at hR
    simp only [spec_Directive.l0]
    rw [if_neg (by omega)]
    exact hR k (by omega)
  | succ d ih =>
    intro k i hd hi hk hR
    obtain ⟨k, rfl⟩ : ∃ m, k = m + 1 := ⟨k - 1, by omega⟩
    have hlt : i < s.size := by omega
    have hl : i < (bs s).length := by rw [bs_len]; exact hlt
    have hw : wrap64 ((i : Int) + 1) = ((i + 1 : Nat) : Int) := by unfold wrap64; omega
    simp only [spec_Directive.l0]
    rw [if_pos (by omega), if_pos (by omega), bt_bs hlt, blank_any]
    simp only [Option.bind_some]
    rw [List.drop_eq_getElem_cons hl, List.takeWhile_cons] at hR
    by_cases hc : isS ((bs s)[i]) = true
    · rw [if_pos hc]
      rw [if_neg (by rw [hc]; decide)] at hR
      exact hR k (by omega)
    · rw [if_neg hc, hw]
      rw [if_pos (by simpa using hc), List.length_cons] at hR
      refine ih k (i + 1) (by omega) (by omega) (by omega) fun k hk => ?_
      rw [show i + 1 + (List.takeWhile (fun c => !isS c) (List.drop (i + 1) (bs s))).length = i + ((List.takeWhile (fun c => !isS c) (List.drop (i + 1) (bs s))).length + 1) by omega]
      exact hR k hk

/-- The parts of a directive whose colon stands at t in s, the text behind the marker. -/
def nameOf (s : ByteArray) (t : Nat) : Bs := ((bs s).drop (t + 1)).takeWhile (fun c => !isS c)
def restOf (s : ByteArray) (t : Nat) : Bs := ((bs s).drop (t + 1)).dropWhile (fun c => !isS c)
def dirOf (pos : Int) (s : ByteArray) (t : Nat) : Dir :=
  (mkB ((bs s).take t), mkB (nameOf s t), mkB (trimP isS ((restOf s t).dropWhile isS)), pos, pos + 2 + ((t + 1 + (nameOf s t).length + ((restOf s t).takeWhile isS).length : Nat) : Int), true)

theorem spec_yes (pos : Int) (c : ByteArray) (hc : c.size ≤ 1000) (h0 : 0 ≤ pos) (h1 : pos ≤ 1000000) (hb : ∃ r, bs c = 47 :: 47 :: r) (t : Nat) (ht : Colon (c.extract 2 c.size) t) (k : Nat) (hk : 10000 < k) :
    spec_Directive.f k pos c = some (dirOf pos (c.extract 2 c.size) t) := by
  obtain ⟨r, hr⟩ := hb
  have hz : c.size = r.length + 2 := by rw [← bs_len, hr]; simp
  obtain ⟨s, hs⟩ : ∃ s, c.extract 2 c.size = s := ⟨_, rfl⟩
  rw [hs] at ht ⊢
  have hsz : s.size = c.size - 2 := by rw [← hs]; exact ext_size c 2 c.size (Nat.le_refl _)
  unfold spec_Directive.f
  rw [is_begins (by omega) ⟨r, by rw [hr]; rfl⟩]
  simp only [Option.bind_some]
  rw [if_pos trivial, if_pos (by omega), hs]
  obtain ⟨j, hj, hjc⟩ := colonOf_any s (by omega)
  rw [hj k (by omega)]
  simp only [Option.bind_some]
  rcases hjc with ⟨_, hno⟩ | ⟨u, rfl, hu⟩
  · exact absurd ht (hno t)
  · have hut : u = t := hu.1.uniq ht.1
    subst hut
    have hlt := ht.2.2.1
    have hw : wrap64 ((u : Int) + 1) = ((u + 1 : Nat) : Int) := by unfold wrap64; omega
    rw [if_neg (by omega), hw]
    refine sd_l0 pos s (by omega) u _ 5000 (s.size - (u + 1)) k (u + 1) rfl (by omega) (by omega) fun k hk => ?_
    obtain ⟨k, rfl⟩ : ∃ m, k = m + 1 := ⟨k - 1, by omega⟩
    have hnl : (nameOf s u).length ≤ s.size - (u + 1) := by
      have := takeWhile_len (fun c => !isS c) ((bs s).drop (u + 1))
      rw [List.length_drop, bs_len] at this
      exact this
    obtain ⟨n, hn⟩ : ∃ n, (nameOf s u).length = n := ⟨_, rfl⟩
    have hn' : (List.takeWhile (fun c => !isS c) (List.drop (u + 1) (bs s))).length = n := hn
    rw [hn] at hnl
    have hdrop : (bs s).drop (u + 1 + n) = restOf s u := by
      rw [← List.drop_drop, ← hn', drop_take]
      rfl
    simp only [spec_Directive.j1]
    rw [hn', hw, if_pos (by omega), if_pos (by omega), if_pos (by omega), if_pos (by omega), if_pos (by omega), Int.toNat_natCast, Int.toNat_natCast, Int.toNat_natCast]
    rw [sd_l1 pos s (by omega) _ _ _ _ _ (s.size - (u + 1 + n)) k (u + 1 + n) rfl (by omega) (by omega), hdrop]
    have hq := takeWhile_len isS (restOf s u)
    rw [← hdrop, List.length_drop, bs_len, hdrop] at hq
    obtain ⟨q, hq2⟩ : ∃ q, ((restOf s u).takeWhile isS).length = q := ⟨_, rfl⟩
    rw [hq2] at hq
    have e1 : s.extract 0 u = mkB ((bs s).take u) := ext_mk s u
    have e2 : s.extract (u + 1) (u + 1 + n) = mkB (nameOf s u) := by
      apply bs_inj
      rw [bs_ext, bs_mk, Nat.add_sub_cancel_left, ← hn']
      exact take_take _ _
    have e3 : wrap64 (wrap64 (pos + ((u + 1 + n + q : Nat) : Int)) + 2) = pos + 2 + ((u + 1 + n + q : Nat) : Int) := by unfold wrap64; omega
    rw [hq2, e1, e2, e3]
    unfold dirOf
    rw [hn, hq2]
theorem spec_no (pos : Int) (c : ByteArray) (hc : c.size ≤ 1000) (hno : ∀ r, bs c = 47 :: 47 :: r → ∀ t, ¬ Colon (c.extract 2 c.size) t) (k : Nat) (hk : 10000 < k) : spec_Directive.f k pos c = some noDir := by
  obtain ⟨b, hb⟩ := begins_any c ⟨#[47, 47]⟩ (by omega)
  unfold spec_Directive.f
  rw [hb]
  simp only [Option.bind_some]
  cases b with
  | false => rfl
  | true =>
    obtain ⟨r, hr⟩ := (begins_bs hb).1 rfl
    have hr' : bs c = 47 :: 47 :: r := hr
    have hz : c.size = r.length + 2 := by rw [← bs_len, hr']; simp
    have hsz : (c.extract 2 c.size).size = c.size - 2 := ext_size c 2 c.size (Nat.le_refl _)
    rw [if_pos rfl, if_pos (by omega)]
    obtain ⟨j, hj, hjc⟩ := colonOf_any (c.extract 2 c.size) (by omega)
    rw [hj k (by omega)]
    simp only [Option.bind_some]
    rcases hjc with ⟨rfl, _⟩ | ⟨u, rfl, hu⟩
    · rfl
    · exact absurd hu (hno r hr' u)

theorem impl_no (pos : Int) (c : ByteArray) (hc : c.size ≤ 1000) (hno : ∀ r, bs c = 47 :: 47 :: r → ∀ t, ¬ Colon (c.extract 2 c.size) t) : impl_ParseDirective.f pos c = some noDir := by
  unfold impl_ParseDirective.f parseF
  by_cases h3 : (c.size : Int) ≥ 3
  · rw [if_pos h3]
    by_cases n0 : bt c 0 = 47
    · rw [if_pos n0]
      by_cases n1 : bt c 1 = 47
      · rw [if_pos n1, alnum_any]
        simp only [Option.bind_some]
        by_cases hsm : Sm (bt c 2)
        · rw [decide_eq_true hsm, if_pos rfl]
          have hb : ∃ r, bs c = 47 :: 47 :: r := by
            have l0 : 0 < (bs c).length := by rw [bs_len]; omega
            have l1 : 1 < (bs c).length := by rw [bs_len]; omega
            have b0 : bt c ((0 : Nat) : Int) = 47 := n0
            have b1 : bt c ((1 : Nat) : Int) = 47 := n1
            rw [bt_bs (by omega)] at b0 b1
            have e0 := (nat_byte (n := 47) (by omega)).1 b0
            have e1 := (nat_byte (n := 47) (by omega)).1 b1
            refine ⟨(bs c).drop 2, ?_⟩
            conv => lhs; rw [← List.drop_zero (l := bs c), List.drop_eq_getElem_cons l0, List.drop_eq_getElem_cons l1, e0, e1]
            rfl
          obtain ⟨r, hr⟩ := hb
          have hno' := hno r hr
          obtain ⟨s, hs⟩ : ∃ s, c.extract 2 c.size = s := ⟨_, rfl⟩
          rw [hs] at hno'
          have hsz : s.size = c.size - 2 := by rw [← hs]; exact ext_size c 2 c.size (Nat.le_refl _)
          unfold tailF goprinter_go_ast_directiveScanner_skip.f
          rw [if_pos (by omega), if_pos (by omega)]
          simp only [Option.bind_some]
          rw [show (2 : Int).toNat = 2 from rfl, hs]
          obtain ⟨j, hj, hjc⟩ := colon_index s (by omega)
          rw [hj 1000000 (by omega)]
          simp only [Option.bind_some]
          rcases hjc with ⟨rfl, _⟩ | ⟨t, rfl, hf⟩
          · rw [if_pos (by decide)]
          · by_cases ht0 : (t : Int) ≤ 0
            · rw [if_pos ht0]
            · rw [if_neg ht0]
              have hts := hf.1
              have hw : wrap64 ((t : Int) + 1) = ((t + 1 : Nat) : Int) := by unfold wrap64; omega
              rw [hw]
              by_cases hge : ((t + 1 : Nat) : Int) ≥ (s.size : Int)
              · rw [if_pos hge]
              · rw [if_neg hge]
                obtain ⟨b, hb, hiff⟩ := alL_any s (by omega) t (by omega) (t + 2) 1000000 0 (by omega) (by omega)
                have hb' : alL 1000000 s (t : Int) 0 = some b := hb
                rw [hb']
                simp only [Option.bind_some]
                cases b with
                | false => rfl
                | true => exact absurd ⟨hf, by omega, by omega, fun u h1 h2 => hiff.1 rfl u (Nat.zero_le _) h1 h2⟩ (hno' t)
        · rw [decide_eq_false hsm, if_neg (by decide)]
      · rw [if_neg n1]
    · rw [if_neg n0]
  · rw [if_neg h3]

theorem impl_yes (pos : Int) (c : ByteArray) (hc : c.size ≤ 1000) (hp : ∀ d ∈ bs c, Plain (d.toNat : Int) ∧ d ≠ 10) (h0 : 0 ≤ pos) (h1 : pos ≤ 1000000) (hb : ∃ r, bs c = 47 :: 47 :: r) (t : Nat) (ht : Colon (c.extract 2 c.size) t) :
    impl_ParseDirective.f pos c = some (dirOf pos (c.extract 2 c.size) t) := by
  obtain ⟨r, hr⟩ := hb
  have hz : c.size = r.length + 2 := by rw [← bs_len, hr]; simp
  obtain ⟨s, hs⟩ : ∃ s, c.extract 2 c.size = s := ⟨_, rfl⟩
  have hsr : bs s = r := by rw [← hs, ext_all, hr]; rfl
  rw [hs] at ht ⊢
  have hsz : s.size = c.size - 2 := by rw [← hs]; exact ext_size c 2 c.size (Nat.le_refl _)
  have hps : ∀ d ∈ bs s, Plain (d.toNat : Int) ∧ d ≠ 10 := fun d hd => hp d (by rw [hr]; rw [hsr] at hd; simp [hd])
  have hlt := ht.2.2.1
  have htp := ht.2.1
  have n0 : bt c 0 = 47 := bt_get (i := 0) (x := 47) (by rw [hr]; rfl)
  have n1 : bt c 1 = 47 := bt_get (i := 1) (x := 47) (by rw [hr]; rfl)
  have n2 : bt c 2 = bt s 0 := by
    have l2 : 2 < c.size := by omega
    have l0 : 0 < s.size := by omega
    rw [show (2 : Int) = ((2 : Nat) : Int) from rfl, show (0 : Int) = ((0 : Nat) : Int) from rfl, bt_bs l2, bt_bs l0]
    congr 2
    have : (bs c)[2]? = (bs s)[0]? := by rw [hsr, hr]; simp
    rw [List.getElem?_eq_getElem (by rw [bs_len]; exact l2), List.getElem?_eq_getElem (by rw [bs_len]; exact l0)] at this
    exact Option.some.inj this
  have hsm : Sm (bt c 2) := by rw [n2]; exact ht.2.2.2 0 (Nat.zero_le _) (by omega)
  unfold impl_ParseDirective.f parseF
  rw [if_pos (by omega), if_pos n0, if_pos n1, alnum_any, decide_eq_true hsm]
  simp only [Option.bind_some]
  rw [if_pos trivial]
  unfold tailF goprinter_go_ast_directiveScanner_skip.f
  rw [if_pos (by omega), if_pos (by omega)]
  simp only [Option.bind_some]
  rw [show (2 : Int).toNat = 2 from rfl, hs]
  obtain ⟨j, hj, hjc⟩ := colon_index s (by omega)
  rw [hj 1000000 (by omega)]
  simp only [Option.bind_some]
  rcases hjc with ⟨_, hno⟩ | ⟨u, rfl, hf⟩
  · exact absurd ht.1 (hno t)
  · have hut : u = t := hf.uniq ht.1
    subst hut
    clear n0 n1 n2 hsm hp
    have hw : wrap64 ((u : Int) + 1) = ((u + 1 : Nat) : Int) := by unfold wrap64; omega
    rw [if_neg (by omega), hw, if_neg (by omega)]
    obtain ⟨b, hb, hiff⟩ := alL_any s (by omega) u (by omega) (u + 2) 1000000 0 (by omega) (by omega)
    have hb' : alL 1000000 s (u : Int) 0 = some b := hb
    have hbt : b = true := hiff.2 fun v _ h1 h2 => ht.2.2.2 v h1 h2
    subst hbt
    rw [hb']
    simp only [Option.bind_some]
    rw [if_pos trivial]
    have hw2 : wrap64 (pos + 2) = pos + 2 := by unfold wrap64; omega
    rw [hw2]
    -- the parts
    obtain ⟨n, hn⟩ : ∃ n, (nameOf s u).length = n := ⟨_, rfl⟩
    obtain ⟨q, hq⟩ : ∃ q, ((restOf s u).takeWhile isS).length = q := ⟨_, rfl⟩
    have hsplit : nameOf s u ++ restOf s u = (bs s).drop (u + 1) := List.takeWhile_append_dropWhile
    have hrl : n + (restOf s u).length = s.size - (u + 1) := by
      have := congrArg List.length hsplit
      rw [List.length_append, hn, List.length_drop, bs_len] at this
      exact this
    have hql := takeWhile_len isS (restOf s u)
    rw [hq] at hql
    obtain ⟨s1, hs1⟩ : ∃ s1, s.extract u s.size = s1 := ⟨_, rfl⟩
    have b1 : bs s1 = (bs s).drop u := by rw [← hs1, ext_all]
    have z1 : s1.size = s.size - u := by rw [← hs1]; exact ext_size s u s.size (Nat.le_refl _)
    obtain ⟨s2, hs2⟩ : ∃ s2, s1.extract 1 s1.size = s2 := ⟨_, rfl⟩
    have b2 : bs s2 = (bs s).drop (u + 1) := by rw [← hs2, ext_all, b1, List.drop_drop]
    have z2 : s2.size = s.size - (u + 1) := by rw [← bs_len, b2, List.length_drop, bs_len]
    have p2 : ∀ d ∈ bs s2, Plain (d.toNat : Int) ∧ d ≠ 10 := fun d hd => hps d (by rw [b2] at hd; exact List.mem_of_mem_drop hd)
    have a2 : Asc s2 := fun d hd => by have := (p2 d hd).1; unfold Plain at this; omega
    have hpn : ∀ l : Bs, (∀ d ∈ l, Plain (d.toNat : Int) ∧ d ≠ 10) → (l.takeWhile (fun c => Go.Lib.isSpaceR c.toNat != true)) = l.takeWhile (fun c => !isS c) := by
      intro l
      induction l with
      | nil => intro _; rfl
      | cons d l ih =>
        intro h
        have hd := h d List.mem_cons_self
        have e := space_plain hd.1 hd.2
        rw [List.takeWhile_cons, List.takeWhile_cons, e, ih (fun x hx => h x (List.mem_cons_of_mem _ hx))]
        cases isS d <;> rfl
    have hpt : ∀ l : Bs, (∀ d ∈ l, Plain (d.toNat : Int) ∧ d ≠ 10) → (l.dropWhile (fun c => Go.Lib.isSpaceR c.toNat)) = l.dropWhile isS := by
      intro l
      induction l with
      | nil => intro _; rfl
      | cons d l ih =>
        intro h
        have hd := h d List.mem_cons_self
        have e := space_plain hd.1 hd.2
        rw [List.dropWhile_cons, List.dropWhile_cons, e, ih (fun x hx => h x (List.mem_cons_of_mem _ hx))]
    have hidx : Go.Lib.idxFunc Go.Lib.isSpaceR true s2 = if n < s2.size then (n : Int) else -1 := by
      have := idx_from Go.Lib.isSpaceR true s2 a2 s2.size 0 (by omega) (Nat.zero_le _)
      rw [List.drop_zero, hpn _ p2, b2] at this
      have hn' : (List.takeWhile (fun c => !isS c) (List.drop (u + 1) (bs s))).length = n := hn
      rw [hn', Nat.zero_add] at this
      exact this
    have hcut : ∀ m : Nat, m = n → bs (s2.extract 0 m) = nameOf s u ∧ bs (s2.extract m s2.size) = restOf s u := by
      intro m hm
      subst hm
      rw [ext_mk, bs_mk, ext_all, b2, ← hsplit, ← hn]
      exact ⟨List.take_left, List.drop_left⟩
    obtain ⟨s3, hs3⟩ : ∃ s3, s2.extract n s2.size = s3 := ⟨_, rfl⟩
    obtain ⟨hname, hrest⟩ := hcut n rfl
    rw [hs3] at hrest
    have z3 : s3.size = s2.size - n := by rw [← hs3]; exact ext_size s2 n s2.size (Nat.le_refl _)
    have p3 : ∀ d ∈ bs s3, Plain (d.toNat : Int) ∧ d ≠ 10 := fun d hd => p2 d (by rw [hrest] at hd; rw [b2, ← hsplit]; exact List.mem_append_right _ hd)
    have a3 : Asc s3 := fun d hd => by have := (p3 d hd).1; unfold Plain at this; omega
    have htl : Go.Lib.trimLeftF Go.Lib.isSpaceR s3 = mkB ((restOf s u).dropWhile isS) := by rw [trimLeft_any _ s3 a3, hpt _ p3, hrest]
    have hdl : ((restOf s u).dropWhile isS).length = (restOf s u).length - q := by rw [← drop_take, List.length_drop, hq]
    obtain ⟨s4, hs4⟩ : ∃ s4, s3.extract q s3.size = s4 := ⟨_, rfl⟩
    have b4 : bs s4 = (restOf s u).dropWhile isS := by rw [← hs4, ext_all, hrest, ← drop_take, hq]
    have p4 : ∀ d ∈ bs s4, Plain (d.toNat : Int) ∧ d ≠ 10 := fun d hd => p3 d (by rw [b4] at hd; rw [hrest]; rw [← drop_take] at hd; exact List.mem_of_mem_drop hd)
    have a4 : Asc s4 := fun d hd => by have := (p4 d hd).1; unfold Plain at this; omega
    have htr : Go.Lib.trimRightF Go.Lib.isSpaceR s4 = mkB (trimP isS ((restOf s u).dropWhile isS)) := by
      rw [trimRight_any _ s4 a4, trimP_congr (fun d hd => space_plain (p4 d hd).1 (p4 d hd).2), b4]
    -- the steps
    have w1 : wrap64 (pos + 2 + (u : Int)) = pos + 2 + (u : Int) := by unfold wrap64; omega
    have w2 : wrap64 (pos + 2 + (u : Int) + 1) = pos + 2 + (u : Int) + 1 := by unfold wrap64; omega
    have w3 : wrap64 (pos + 2 + (u : Int) + 1 + (n : Int)) = pos + 2 + (u : Int) + 1 + (n : Int) := by unfold wrap64; omega
    have w4 : wrap64 (pos + 2 + (u : Int) + 1 + (n : Int) + (q : Int)) = pos + 2 + (u : Int) + 1 + (n : Int) + (q : Int) := by unfold wrap64; omega
    have stake : goprinter_go_ast_directiveScanner_take.f s (pos + 2) (u : Int) = some (s.extract 0 u, s1, pos + 2 + (u : Int)) := by
      unfold goprinter_go_ast_directiveScanner_take.f goprinter_go_ast_directiveScanner_skip.f
      rw [if_pos (by omega), if_pos (by omega), if_pos (by omega), if_pos (by omega), Int.toNat_natCast, hs1, w1]
      rfl
    have sskip : goprinter_go_ast_directiveScanner_skip.f s1 (pos + 2 + (u : Int)) 1 = some (s2, pos + 2 + (u : Int) + 1) := by
      unfold goprinter_go_ast_directiveScanner_skip.f
      rw [if_pos (by decide), if_pos (by omega), show (1 : Int).toNat = 1 from rfl, hs2, w2]
    have staken : goprinter_go_ast_directiveScanner_take.f s2 (pos + 2 + (u : Int) + 1) (n : Int) = some (s2.extract 0 n, s3, pos + 2 + (u : Int) + 1 + (n : Int)) := by
      unfold goprinter_go_ast_directiveScanner_take.f goprinter_go_ast_directiveScanner_skip.f
      rw [if_pos (by omega), if_pos (by omega), if_pos (by omega), if_pos (by omega), Int.toNat_natCast, hs3, w3]
      rfl
    have sname : goprinter_go_ast_directiveScanner_takeNonSpace.f s2 (pos + 2 + (u : Int) + 1) = some (s2.extract 0 n, s3, pos + 2 + (u : Int) + 1 + (n : Int)) := by
      unfold goprinter_go_ast_directiveScanner_takeNonSpace.f strings_IndexFunc.f
      rw [hidx]
      simp only [Option.bind_some]
      by_cases hns : n < s2.size
      · rw [if_pos hns, if_neg (by omega), staken]
        rfl
      · have : n = s2.size := by omega
        rw [if_neg hns, if_pos rfl, ← this, staken]
        rfl
    have wq : wrap64 ((s3.size : Int) - (((restOf s u).length - q : Nat) : Int)) = (q : Int) := by
      have : s3.size = (restOf s u).length := by rw [← hrest, bs_len]
      rw [this]
      unfold wrap64; omega
    have sspace : goprinter_go_ast_directiveScanner_skipSpace.f s3 (pos + 2 + (u : Int) + 1 + (n : Int)) = some (s4, pos + 2 + (u : Int) + 1 + (n : Int) + (q : Int)) := by
      unfold goprinter_go_ast_directiveScanner_skipSpace.f strings_TrimLeftFunc.f
      rw [htl]
      simp only [Option.bind_some]
      have hs3z : s3.size = (restOf s u).length := by rw [← hrest, bs_len]
      rw [mk_size, hdl, wq]
      unfold goprinter_go_ast_directiveScanner_skip.f
      rw [if_pos (by omega), if_pos (by omega), Int.toNat_natCast, hs4, w4]
      rfl
    have sright : strings_TrimRightFunc.f s4 = some (mkB (trimP isS ((restOf s u).dropWhile isS))) := by
      have z4 : s4.size ≤ s3.size := by rw [← hs4, ext_size s3 q s3.size (Nat.le_refl _)]; omega
      unfold strings_TrimRightFunc.f
      rw [if_pos (by omega), htr]
    unfold finF
    rw [stake]
    simp only [Option.bind_some]
    rw [sskip]
    simp only [Option.bind_some]
    rw [sname]
    simp only [Option.bind_some]
    rw [sspace]
    simp only [Option.bind_some]
    rw [sright]
    simp only [Option.bind_some]
    unfold dirOf
    have e1 : s.extract 0 u = mkB ((bs s).take u) := ext_mk s u
    have e2 : s2.extract 0 n = mkB (nameOf s u) := by apply bs_inj; rw [bs_mk]; exact hname
    have e3 : pos + 2 + (u : Int) + 1 + (n : Int) + (q : Int) = pos + 2 + ((u + 1 + n + q : Nat) : Int) := by omega
    rw [e1, e2, e3, hn, hq]
end Go.Proofs.YtcjiafjahfmdoaaDoor.A
