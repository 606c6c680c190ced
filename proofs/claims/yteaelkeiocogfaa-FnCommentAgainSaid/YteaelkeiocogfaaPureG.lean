/- FnGenerated's plain part: lines and marks; no condition besides the texts' lengths. -/
import Derived.Test.YteaelkeiocogfaaPureC
import Derived.Test.YteaelkeiocogfaaA4
import Derived.Lib.Strings
namespace Go.Proofs.Yteaelkeiocogfaa.A
open Go.RowKit Go.Proofs.YteaelkeiocogfaaW.PrintWords Go.Proofs.YteaelkeiocogfaaW.PrintLast Go.Proofs.YteaelkeiocogfaaW.PrintMore
set_option linter.unusedVariables false

abbrev nl : ByteArray := ⟨#[10]⟩

/-- A text's lines: cut at each newline. -/
inductive Lines : ByteArray → List ByteArray → Prop
  | last {s : ByteArray} (h : ∀ t, t + 1 ≤ s.size → ¬ At s nl t) : Lines s [s]
  | cut {s : ByteArray} {j : Nat} {L : List ByteArray} (hj : j + 1 ≤ s.size) (h : At s nl j) (hn : ∀ t, t < j → ¬ At s nl t) (hL : Lines (s.extract (j + 1) s.size) L) : Lines s (s.extract 0 j :: L)

theorem Lines.uniq {s : ByteArray} {L L' : List ByteArray} (h : Lines s L) (h' : Lines s L') : L = L' := by
  induction h generalizing L' with
  | last h =>
    cases h' with
    | last _ => rfl
    | cut hj hat _ _ => exact absurd hat (h _ hj)
  | cut hj hat hn hL ih =>
    cases h' with
    | last h => exact absurd hat (h _ hj)
    | cut hj' hat' hn' hL' =>
      rename_i j L1 j' L2
      have : j = j' := by
        rcases Nat.lt_trichotomy j j' with h | h | h
        · exact absurd hat (hn' _ h)
        · exact h
        · exact absurd hat' (hn _ h)
      subst this
      rw [ih hL']

theorem at_ext {s p : ByteArray} {a t : Nat} (ha : a ≤ s.size) (hs : t + p.size ≤ (s.extract a s.size).size) : At (s.extract a s.size) p t ↔ At s p (a + t) := by
  have hz : (s.extract a s.size).size = s.size - a := ext_size s a s.size (Nat.le_refl _)
  rw [hz] at hs
  unfold At
  rw [ByteArray.extract_extract, Nat.min_eq_left (by omega), Nat.add_assoc]

theorem split_l1 (d : Nat) : ∀ (k : Nat) (s : ByteArray) (acc : List ByteArray), s.size ≤ d → s.size ≤ 1000 → acc.length + s.size ≤ 2000 → d + 1100 < k → ∃ L, goprinter_go_ast_zzSplit.l1 k s nl acc = some (acc ++ L) ∧ Lines s L := by
  induction d with
  | zero =>
    intro k s acc hd hs ha hk
    obtain ⟨k, rfl⟩ : ∃ m, k = m + 1 := ⟨k - 1, by omega⟩
    obtain ⟨j, hj, hr⟩ := index_any s nl (by omega) (by decide)
    simp only [goprinter_go_ast_zzSplit.l1]
    rw [hj k (by omega)]
    simp only [Option.bind_some]
    rcases hr with ⟨rfl, hr⟩ | ⟨t, rfl, _, hts, _, _⟩
    · have hl : acc.length < 8796093022208 := by omega
      rw [if_pos (by decide), if_pos hl]
      exact ⟨[s], rfl, .last fun t ht => hr t (Nat.zero_le _) ht⟩
    · have : t + 1 ≤ s.size := hts
      omega
  | succ d ih =>
    intro k s acc hd hs ha hk
    obtain ⟨k, rfl⟩ : ∃ m, k = m + 1 := ⟨k - 1, by omega⟩
    obtain ⟨j, hj, hr⟩ := index_any s nl (by omega) (by decide)
    have hl : acc.length < 8796093022208 := by omega
    simp only [goprinter_go_ast_zzSplit.l1]
    rw [hj k (by omega)]
    simp only [Option.bind_some]
    rcases hr with ⟨rfl, hr⟩ | ⟨t, rfl, _, hts, hat, hno⟩
    · rw [if_pos (by decide), if_pos hl]
      exact ⟨[s], rfl, .last fun t ht => hr t (Nat.zero_le _) ht⟩
    · have h1 : t + 1 ≤ s.size := hts
      have hw : wrap64 ((t : Int) + ((nl.size : Nat) : Int)) = ((t + 1 : Nat) : Int) := by
        show wrap64 ((t : Int) + 1) = _
        unfold wrap64; omega
      have hz : (s.extract (t + 1) s.size).size = s.size - (t + 1) := ext_size s (t + 1) s.size (Nat.le_refl _)
      have e1 : ((t : Nat) : Int).toNat = t := by omega
      have e2 : ((t + 1 : Nat) : Int).toNat = t + 1 := by omega
      have c1 : ¬ ((t : Int) < 0) := by omega
      have c2 : (0 : Int) ≤ (t : Int) := by omega
      have c3 : (t : Int) ≤ (s.size : Int) := by omega
      have c4 : (0 : Int) ≤ ((t + 1 : Nat) : Int) := by omega
      have c5 : ((t + 1 : Nat) : Int) ≤ (s.size : Int) := by omega
      have g1 : s.size - (t + 1) ≤ d := by omega
      have g2 : s.size - (t + 1) ≤ 1000 := by omega
      have g3 : (acc ++ [s.extract 0 t]).length + (s.size - (t + 1)) ≤ 2000 := by simp; omega
      rw [hw, if_neg c1, if_pos c2, if_pos c3, if_pos hl, if_pos c4, if_pos c5, e1, e2]
      obtain ⟨L, hL, hLs⟩ := ih k (s.extract (t + 1) s.size) (acc ++ [s.extract 0 t]) (by rw [hz]; exact g1) (by rw [hz]; exact g2) (by rw [hz]; exact g3) (by omega)
      refine ⟨s.extract 0 t :: L, by rw [hL]; simp, .cut h1 hat (fun u hu => hno u (Nat.zero_le _) hu) hLs⟩

theorem at_bt {s : ByteArray} {t : Nat} (h : t < s.size) : At s nl t ↔ bt s (t : Int) = 10 := by
  have h' : t < s.data.toList.length := by rw [← Go.Lib.size_eq]; exact h
  have e : (s.extract t (t + nl.size)).toList = [s.data.toList[t]] := by
    rw [Go.Lib.toList_data, Go.Lib.extract_data, List.drop_eq_getElem_cons h']
    have : t + nl.size - t = 1 := by show t + 1 - t = 1; omega
    rw [this]
    rfl
  have eb : bt s (t : Int) = ((s.data.toList[t]).toNat : Int) := by
    unfold bt
    have ht : (t : Int).toNat = t := by omega
    rw [dif_pos (by rw [ht]; exact h)]
    simp only [ht]
    rfl
  unfold At
  rw [e, eb]
  have en : nl.toList = [10] := by rw [Go.Lib.toList_data]
  rw [en]
  constructor
  · intro hx
    have := List.head_eq_of_cons_eq hx
    rw [this]; rfl
  · intro hx
    have : s.data.toList[t] = 10 := UInt8.toNat_inj.1 (by have : ((s.data.toList[t]).toNat : Int) = ((10 : UInt8).toNat : Int) := hx; exact Int.ofNat.inj this)
    rw [this]

theorem lines_l0 (s : ByteArray) (hs : s.size ≤ 1000) (d : Nat) : ∀ (k i a : Nat) (acc : List ByteArray), s.size ≤ i + d → i ≤ s.size → a ≤ i → acc.length ≤ i → (∀ u, a ≤ u → u < i → ¬ At s nl u) → d < k →
    ∃ L, spec_lines.l0 k s acc (a : Int) (s.size : Int) (i : Int) = some (acc ++ L) ∧ Lines (s.extract a s.size) L := by
  induction d with
  | zero =>
    intro k i a acc h0 h1 ha hacc hno hk
    obtain ⟨k, rfl⟩ : ∃ m, k = m + 1 := ⟨k - 1, by omega⟩
    have hl : acc.length < 8796093022208 := by omega
    have ca : (a : Int).toNat = a := by omega
    have c0 : ¬ ((i : Int) < (s.size : Int)) := by omega
    have c1 : (0 : Int) ≤ (a : Int) := by omega
    have c2 : (a : Int) ≤ (s.size : Int) := by omega
    simp only [spec_lines.l0]
    rw [if_neg c0, if_pos c1, if_pos c2, if_pos hl, ca]
    refine ⟨[s.extract a s.size], rfl, .last fun t ht => ?_⟩
    have hz : (s.extract a s.size).size = s.size - a := ext_size s a s.size (Nat.le_refl _)
    rw [at_ext (by omega) ht]
    rw [hz] at ht
    exact hno (a + t) (by omega) (by omega)
  | succ d ih =>
    intro k i a acc h0 h1 ha hacc hno hk
    obtain ⟨k, rfl⟩ : ∃ m, k = m + 1 := ⟨k - 1, by omega⟩
    have hl : acc.length < 8796093022208 := by omega
    have ca : (a : Int).toNat = a := by omega
    have ci : (i : Int).toNat = i := by omega
    have c1 : (0 : Int) ≤ (a : Int) := by omega
    have c2 : (a : Int) ≤ (s.size : Int) := by omega
    have ci0 : (0 : Int) ≤ (i : Int) := by omega
    have c3 : (a : Int) ≤ (i : Int) := by omega
    have c4 : (i : Int) ≤ (s.size : Int) := by omega
    have hw1 : wrap64 ((i : Int) + 1) = ((i + 1 : Nat) : Int) := by unfold wrap64; omega
    have hz : (s.extract a s.size).size = s.size - a := ext_size s a s.size (Nat.le_refl _)
    simp only [spec_lines.l0]
    by_cases hi : (i : Int) < (s.size : Int)
    · have hin : i < s.size := by omega
      rw [if_pos hi, if_pos ci0, if_pos hi]
      by_cases hb : bt s (i : Int) = 10
      · have hat : At s nl i := (at_bt hin).2 hb
        have g0 : s.size ≤ i + 1 + d := by omega
        have g1 : (acc ++ [s.extract a i]).length ≤ i + 1 := by simp; omega
        rw [if_pos hb, if_pos c1, if_pos c3, if_pos c4, if_pos hl, ca, ci, hw1]
        obtain ⟨L, hL, hLs⟩ := ih k (i + 1) (i + 1) (acc ++ [s.extract a i]) g0 (by omega) (Nat.le_refl _) g1 (fun u hu hu2 => by omega) (by omega)
        have e1 : (s.extract a s.size).extract 0 (i - a) = s.extract a i := by
          rw [ByteArray.extract_extract, Nat.add_zero, Nat.min_eq_left (by omega), show a + (i - a) = i by omega]
        have e2 : (s.extract a s.size).extract (i - a + 1) (s.extract a s.size).size = s.extract (i + 1) s.size := by
          rw [ByteArray.extract_extract, hz, show a + (i - a + 1) = i + 1 by omega, show a + (s.size - a) = s.size by omega, Nat.min_self]
        refine ⟨s.extract a i :: L, by rw [hL]; simp, ?_⟩
        rw [← e1]
        refine .cut (j := i - a) (by rw [hz]; omega) ?_ (fun t ht => ?_) (by rw [e2]; exact hLs)
        · have hq : i - a + nl.size ≤ (s.extract a s.size).size := by show i - a + 1 ≤ _; rw [hz]; omega
          rw [at_ext (by omega) hq, show a + (i - a) = i by omega]
          exact hat
        · have hq : t + nl.size ≤ (s.extract a s.size).size := by show t + 1 ≤ _; rw [hz]; omega
          rw [at_ext (by omega) hq]
          exact hno (a + t) (by omega) (by omega)
      · have hnat : ¬ At s nl i := fun h => hb ((at_bt hin).1 h)
        rw [if_neg hb, hw1]
        exact ih k (i + 1) a acc (by omega) (by omega) (by omega) (by omega) (fun u hu hu2 => by
          by_cases hui : u = i
          · subst hui; exact hnat
          · exact hno u hu (by omega)) (by omega)
    · rw [if_neg hi, if_pos c1, if_pos c2, if_pos hl, ca]
      refine ⟨[s.extract a s.size], rfl, .last fun t ht => ?_⟩
      rw [at_ext (by omega) ht]
      rw [hz] at ht
      exact hno (a + t) (by omega) (by omega)

theorem lines_both (s : ByteArray) (hs : s.size ≤ 1000) : ∃ L, (∀ k, 3000 < k → goprinter_go_ast_zzSplit.f k s nl = some L) ∧ (∀ k, 3000 < k → spec_lines.f k s = some L) ∧ Lines s L := by
  obtain ⟨L, hL, hLs⟩ := split_l1 s.size 3000 s [] (Nat.le_refl _) hs (by simp; omega) (by omega)
  obtain ⟨L', hL', hLs'⟩ := lines_l0 s hs s.size 3000 0 0 [] (by omega) (by omega) (by omega) (by simp) (fun u h1 h2 => by omega) (by omega)
  have e0 : s.extract 0 s.size = s := ByteArray.extract_zero_size
  rw [e0] at hLs'
  have := hLs.uniq hLs'
  subst this
  rw [List.nil_append] at hL hL'
  refine ⟨L, fun k hk => ?_, fun k hk => at_rounds (fun k => spec_lines.mono_l k _ _ _ _ _) (show 3000 ≤ k by omega) hL', hLs⟩
  unfold goprinter_go_ast_zzSplit.f
  rw [if_neg (by decide)]
  exact at_rounds (fun k => goprinter_go_ast_zzSplit.mono_l k _ _ _) (show 3000 ≤ k by omega) hL

theorem lines_size {s : ByteArray} {L : List ByteArray} (h : Lines s L) : ∀ x ∈ L, x.size ≤ s.size := by
  induction h with
  | last _ => intro x hx; rw [List.mem_singleton.1 hx]; exact Nat.le_refl _
  | cut hj hat hn hL ih =>
    rename_i s j L
    intro x hx
    rcases List.mem_cons.1 hx with rfl | hx
    · rw [ext_size s 0 j (by omega)]; omega
    · have := ih x hx
      rw [ext_size s (j + 1) s.size (Nat.le_refl _)] at this
      omega

abbrev preM : ByteArray := ⟨#[47, 47, 32, 67, 111, 100, 101, 32, 103, 101, 110, 101, 114, 97, 116, 101, 100, 32]⟩
abbrev sufM : ByteArray := ⟨#[32, 68, 79, 32, 78, 79, 84, 32, 69, 68, 73, 84, 46]⟩

/-- A line that tells that its file is generated. -/
def markB (x : ByteArray) : Bool := decide (31 ≤ x.size) && ((x.extract 0 18).toList == preM.toList && (x.extract (x.size - 13) x.size).toList == sufM.toList)

theorem pre_any (x : ByteArray) (hx : x.size ≤ 1000) : strings_CutPrefix.f x preM = some (if 18 ≤ x.size ∧ (x.extract 0 18).toList = preM.toList then (x.extract 18 x.size, true) else (x, false)) := by
  have e : preM.size = 18 := rfl
  unfold strings_CutPrefix.f stringslite_CutPrefix.f stringslite_HasPrefix.f
  rw [e]
  by_cases h : 18 ≤ x.size
  · have c1 : (x.size : Int) ≥ ((18 : Nat) : Int) := by omega
    have c2 : (0 : Int) ≤ ((18 : Nat) : Int) := by decide
    rw [if_pos c1, if_pos c2, if_pos c1]
    have t : ((18 : Nat) : Int).toNat = 18 := rfl
    rw [t]
    by_cases hp : (x.extract 0 18).toList = preM.toList
    · have c3 : (18 : Int) ≤ (x.size : Int) := c1
      simp [hp, h, c3]
    · have hb : ((x.extract 0 18).toList == preM.toList) = false := beq_eq_false_iff_ne.2 hp
      rw [hb]
      have hn : ¬ (18 ≤ x.size ∧ (x.extract 0 18).toList = preM.toList) := fun hh => hp hh.2
      rw [if_neg hn]
      rfl
  · have c1 : ¬ ((x.size : Int) ≥ ((18 : Nat) : Int)) := by omega
    rw [if_neg c1]
    simp [h]

theorem suf_any (x : ByteArray) (hx : x.size ≤ 1000) : strings_CutSuffix.f x sufM = some (if 13 ≤ x.size ∧ (x.extract (x.size - 13) x.size).toList = sufM.toList then (x.extract 0 (x.size - 13), true) else (x, false)) := by
  have e : sufM.size = 13 := rfl
  unfold strings_CutSuffix.f stringslite_CutSuffix.f stringslite_HasSuffix.f
  rw [e]
  by_cases h : 13 ≤ x.size
  · have c1 : (x.size : Int) ≥ ((13 : Nat) : Int) := by omega
    have hw : wrap64 ((x.size : Int) - ((13 : Nat) : Int)) = ((x.size - 13 : Nat) : Int) := by unfold wrap64; omega
    have c2 : (0 : Int) ≤ ((x.size - 13 : Nat) : Int) := by omega
    have c3 : ((x.size - 13 : Nat) : Int) ≤ (x.size : Int) := by omega
    have t : ((x.size - 13 : Nat) : Int).toNat = x.size - 13 := by omega
    rw [if_pos c1, hw, if_pos c2, if_pos c3, t]
    by_cases hp : (x.extract (x.size - 13) x.size).toList = sufM.toList
    · have hb : ((x.extract (x.size - 13) x.size).toList == sufM.toList) = true := beq_iff_eq.2 hp
      have hn : 13 ≤ x.size ∧ (x.extract (x.size - 13) x.size).toList = sufM.toList := ⟨h, hp⟩
      rw [hb, if_pos hn]
      simp only [Option.bind_some, if_true]
      rw [if_pos c2, if_pos c3]
      rfl
    · have hb : ((x.extract (x.size - 13) x.size).toList == sufM.toList) = false := beq_eq_false_iff_ne.2 hp
      have hn : ¬ (13 ≤ x.size ∧ (x.extract (x.size - 13) x.size).toList = sufM.toList) := fun hh => hp hh.2
      rw [hb, if_neg hn]
      rfl
  · have c1 : ¬ ((x.size : Int) ≥ ((13 : Nat) : Int)) := by omega
    have hn : ¬ (13 ≤ x.size ∧ (x.extract (x.size - 13) x.size).toList = sufM.toList) := fun hh => h hh.1
    rw [if_neg c1, if_neg hn]
    rfl

theorem isMark_any (x : ByteArray) (hx : x.size ≤ 1000) : spec_isMark.f x = some (markB x) := by
  have e : preM.size = 18 := rfl
  unfold spec_isMark.f spec_begins.f markB
  rw [e]
  by_cases h : 18 ≤ x.size
  · have c1 : (x.size : Int) ≥ ((18 : Nat) : Int) := by omega
    have c2 : (0 : Int) ≤ ((18 : Nat) : Int) := by decide
    have t : ((18 : Nat) : Int).toNat = 18 := rfl
    rw [if_pos c1, if_pos c2, if_pos c1, t]
    simp only [Option.bind_some]
    by_cases hp : ((x.extract 0 18).toList == preM.toList) = true
    · rw [hp, if_pos rfl]
      by_cases h31 : 31 ≤ x.size
      · have c3 : (x.size : Int) ≥ 31 := by omega
        have hw : wrap64 ((x.size : Int) - 13) = ((x.size - 13 : Nat) : Int) := by unfold wrap64; omega
        have c4 : (0 : Int) ≤ ((x.size - 13 : Nat) : Int) := by omega
        have c5 : ((x.size - 13 : Nat) : Int) ≤ (x.size : Int) := by omega
        have t2 : ((x.size - 13 : Nat) : Int).toNat = x.size - 13 := by omega
        have es : sufM.toList = ([32, 68, 79, 32, 78, 79, 84, 32, 69, 68, 73, 84, 46] : List UInt8) := by rw [Go.Lib.toList_data]
        rw [if_pos c3, hw, if_pos c4, if_pos c5, t2, decide_eq_true h31, Bool.true_and, Bool.true_and, es]
      · have c3 : ¬ ((x.size : Int) ≥ 31) := by omega
        rw [if_neg c3, decide_eq_false h31]
        rfl
    · have hb : ((x.extract 0 18).toList == preM.toList) = false := Bool.eq_false_iff.2 hp
      rw [hb, if_neg (by decide)]
      simp
  · have c1 : ¬ ((x.size : Int) ≥ ((18 : Nat) : Int)) := by omega
    have h31 : ¬ (31 ≤ x.size) := by omega
    rw [if_neg c1, decide_eq_false h31]
    rfl

theorem genL_eq (x : ByteArray) (L : List ByteArray) : genL (x :: L) = (strings_CutPrefix.f x preM).bind fun a => if a.2 = true then ((strings_CutSuffix.f a.1 sufM).bind fun b => if b.2 = true then some true else genL L) else genL L := rfl

theorem genL_cons (x : ByteArray) (L : List ByteArray) (hx : x.size ≤ 1000) : genL (x :: L) = if markB x = true then some true else genL L := by
  rw [genL_eq, pre_any x hx]
  simp only [Option.bind_some]
  by_cases hp : 18 ≤ x.size ∧ (x.extract 0 18).toList = preM.toList
  · rw [if_pos hp]
    simp only [if_true]
    have hz : (x.extract 18 x.size).size = x.size - 18 := ext_size x 18 x.size (Nat.le_refl _)
    rw [suf_any (x.extract 18 x.size) (by rw [hz]; omega), hz]
    simp only [Option.bind_some]
    have hb : ((x.extract 0 18).toList == preM.toList) = true := beq_iff_eq.2 hp.2
    by_cases h31 : 31 ≤ x.size
    · have e1 : (x.extract 18 x.size).extract (x.size - 18 - 13) (x.size - 18) = x.extract (x.size - 13) x.size := by
        rw [ByteArray.extract_extract, show 18 + (x.size - 18 - 13) = x.size - 13 by omega, show 18 + (x.size - 18) = x.size by omega, Nat.min_self]
      rw [e1]
      unfold markB
      rw [hb, decide_eq_true h31]
      by_cases hs : (x.extract (x.size - 13) x.size).toList = sufM.toList
      · have hn : 13 ≤ x.size - 18 ∧ (x.extract (x.size - 13) x.size).toList = sufM.toList := ⟨by omega, hs⟩
        have hsb : ((x.extract (x.size - 13) x.size).toList == sufM.toList) = true := beq_iff_eq.2 hs
        rw [if_pos hn, hsb]
        rfl
      · have hn : ¬ (13 ≤ x.size - 18 ∧ (x.extract (x.size - 13) x.size).toList = sufM.toList) := fun hh => hs hh.2
        have hsb : ((x.extract (x.size - 13) x.size).toList == sufM.toList) = false := beq_eq_false_iff_ne.2 hs
        rw [if_neg hn, hsb]
        rfl
    · have hn : ∀ P : Prop, ¬ (13 ≤ x.size - 18 ∧ P) := fun P hh => by have := hh.1; omega
      rw [if_neg (hn _)]
      unfold markB
      rw [decide_eq_false h31]
      rfl
  · rw [if_neg hp]
    have hm : markB x = false := by
      unfold markB
      by_cases h31 : 31 ≤ x.size
      · have : ((x.extract 0 18).toList == preM.toList) = false := beq_eq_false_iff_ne.2 (fun h => hp ⟨by omega, h⟩)
        rw [this]; simp
      · rw [decide_eq_false h31]; rfl
    rw [hm]
    rfl

theorem genL_any : ∀ L : List ByteArray, (∀ x ∈ L, x.size ≤ 1000) → genL L = some (L.any markB)
  | [], _ => rfl
  | x :: L, h => by
    rw [genL_cons x L (h x List.mem_cons_self), genL_any L (fun y hy => h y (List.mem_cons_of_mem _ hy)), List.any_cons]
    cases markB x <;> rfl

theorem mark_at {x : ByteArray} (h : markB x = true) : 18 ≤ x.size ∧ At x preM 0 := by
  unfold markB at h
  simp only [Bool.and_eq_true, decide_eq_true_eq, beq_iff_eq] at h
  exact ⟨by omega, h.2.1⟩

theorem lines_at {s : ByteArray} {L : List ByteArray} (h : Lines s L) : ∀ x ∈ L, 18 ≤ x.size → At x preM 0 → ∃ t, t + 18 ≤ s.size ∧ At s preM t := by
  induction h with
  | last _ =>
    intro x hx h18 hat
    rw [List.mem_singleton.1 hx] at h18 hat
    exact ⟨0, by omega, hat⟩
  | cut hj hat hn hL ih =>
    rename_i s j L
    intro x hx h18 ha
    rcases List.mem_cons.1 hx with rfl | hx
    · rw [ext_size s 0 j (by omega)] at h18
      refine ⟨0, by omega, ?_⟩
      have ha' : ((s.extract 0 j).extract 0 (0 + 18)).toList = preM.toList := ha
      rw [ByteArray.extract_extract, Nat.min_eq_left (by omega)] at ha'
      exact ha'
    · obtain ⟨t, ht, hat'⟩ := ih x hx h18 ha
      have hq : t + preM.size ≤ (s.extract (j + 1) s.size).size := ht
      have := (at_ext (by omega) hq).1 hat'
      rw [ext_size s (j + 1) s.size (Nat.le_refl _)] at ht
      exact ⟨j + 1 + t, by omega, this⟩

theorem contains_any (s : ByteArray) (hs : s.size ≤ 1000) {L : List ByteArray} (hL : Lines s L) : ∃ c, (∀ k, 3000 < k → goprinter_go_ast_zzContains.f k s preM = some c) ∧ (c = false → L.any markB = false) := by
  obtain ⟨j, hj, hr⟩ := index_any s preM (by omega) (by decide)
  refine ⟨decide (j ≥ 0), fun k hk => by unfold goprinter_go_ast_zzContains.f; rw [hj k (by omega)]; rfl, fun hc => ?_⟩
  rcases hr with ⟨rfl, hr⟩ | ⟨t, rfl, _⟩
  · rw [List.any_eq_false]
    intro x hx hm
    obtain ⟨h18, hat⟩ := mark_at hm
    obtain ⟨t, ht, hat'⟩ := lines_at hL x hx h18 hat
    exact hr t (Nat.zero_le _) ht hat'
  · have := of_decide_eq_false hc
    omega

/-- A comment that the generator takes. -/
theorem genC_any (clause : Int) (x : S25) (hs : x.f1.size ≤ 1000) {L : List ByteArray} (hL : Lines x.f1 L) (hsp : ∀ k, 3000 < k → goprinter_go_ast_zzSplit.f k x.f1 nl = some L) : genC 5000 clause x = some (decide (x.f0 ≤ clause) && L.any markB) := by
  obtain ⟨c, hc, hno⟩ := contains_any x.f1 hs hL
  have hg := genL_any L (fun y hy => Nat.le_trans (lines_size hL y hy) hs)
  unfold genC
  by_cases h : x.f0 > clause
  · rw [if_pos h, decide_eq_false (by omega)]
    rfl
  · rw [if_neg h, decide_eq_true (show x.f0 ≤ clause by omega), hc 5000 (by omega)]
    simp only [Option.bind_some, Bool.true_and]
    cases c with
    | false => rw [hno rfl]; rfl
    | true =>
      rw [if_pos rfl, hsp 5000 (by omega)]
      exact hg
end Go.Proofs.Yteaelkeiocogfaa.A
