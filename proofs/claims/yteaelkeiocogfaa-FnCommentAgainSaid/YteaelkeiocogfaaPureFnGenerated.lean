/- FnGenerated's plain law: whatever the comments and the clause, the printed law answers true; no condition besides the list's length. -/
import Derived.Test.YteaelkeiocogfaaPureG
namespace Go.Proofs.Yteaelkeiocogfaa.A
open Go.RowKit Go.Proofs.YteaelkeiocogfaaW.PrintWords Go.Proofs.YteaelkeiocogfaaW.PrintLast Go.Proofs.YteaelkeiocogfaaW.PrintMore
set_option linter.unusedVariables false

theorem lines_len {s : ByteArray} {L : List ByteArray} (h : Lines s L) : L.length ≤ s.size + 1 := by
  induction h with
  | last _ => simp
  | cut hj hat hn hL ih =>
    rename_i s j L
    rw [ext_size s (j + 1) s.size (Nat.le_refl _)] at ih
    simp
    omega

/-- A text's lines, at texts of at most 1000 bytes. -/
noncomputable def linesOf (s : ByteArray) : List ByteArray := if h : s.size ≤ 1000 then Classical.choose (lines_both s h) else []
theorem linesOf_spec (s : ByteArray) (h : s.size ≤ 1000) : (∀ k, 3000 < k → goprinter_go_ast_zzSplit.f k s nl = some (linesOf s)) ∧ (∀ k, 3000 < k → spec_lines.f k s = some (linesOf s)) ∧ Lines s (linesOf s) := by
  unfold linesOf
  rw [dif_pos h]
  exact Classical.choose_spec (lines_both s h)

theorem genF_any (clause : Int) : ∀ l : List S25, (∀ x ∈ l, x.f1.size ≤ 1000) → genF 5000 clause l = some (l.any fun x => decide (x.f0 ≤ clause) && (linesOf x.f1).any markB)
  | [], _ => rfl
  | x :: l, h => by
    have hx := h x List.mem_cons_self
    obtain ⟨h1, _, h3⟩ := linesOf_spec x.f1 hx
    show (genC 5000 clause x).bind _ = _
    rw [genC_any clause x hx h3 h1, List.any_cons]
    simp only [Option.bind_some]
    rw [genF_any clause l (fun y hy => h y (List.mem_cons_of_mem _ hy))]
    cases (decide (x.f0 ≤ clause) && (linesOf x.f1).any markB) <;> rfl

theorem spec_l1 (clause : Int) (l : List S25) (i : Int) (L : List ByteArray) (f0 : Int) (f1 : ByteArray) (r0 : Bool) (K0 : Nat) (hL : L.length ≤ 1001) (hLs : ∀ x ∈ L, x.size ≤ 1000)
    (h0 : ∀ k, K0 ≤ k → spec_IsGenerated.l0 k clause l (l.length : Int) (wrap64 (i + 1)) = some r0) (d : Nat) : ∀ (k j : Nat), L.length ≤ j + d → j ≤ L.length → d + K0 < k →
    spec_IsGenerated.l1 k clause l (l.length : Int) i L (L.length : Int) (j : Int) f0 f1 = some ((decide (f0 < clause) && (L.drop j).any markB) || r0) := by
  induction d with
  | zero =>
    intro k j h1 h2 hk
    obtain ⟨k, rfl⟩ : ∃ m, k = m + 1 := ⟨k - 1, by omega⟩
    have c0 : ¬ ((j : Int) < (L.length : Int)) := by omega
    simp only [spec_IsGenerated.l1]
    rw [if_neg c0, h0 k (by omega), List.drop_eq_nil_of_le (by omega)]
    simp
  | succ d ih =>
    intro k j h1 h2 hk
    obtain ⟨k, rfl⟩ : ∃ m, k = m + 1 := ⟨k - 1, by omega⟩
    simp only [spec_IsGenerated.l1]
    by_cases hj : j < L.length
    · have c0 : (j : Int) < (L.length : Int) := by omega
      have c1 : (0 : Int) ≤ (j : Int) := by omega
      have hw : wrap64 ((j : Int) + 1) = ((j + 1 : Nat) : Int) := by unfold wrap64; omega
      have e : rdOf ByteArray.empty L (j : Int) = L[j] := by simp [rdOf, hj]
      have hi := ih k (j + 1) (by omega) (by omega) (by omega)
      rw [if_pos c0, if_pos c1, if_pos c0, hw, List.drop_eq_getElem_cons hj, List.any_cons]
      by_cases hc : f0 < clause
      · rw [if_pos hc, e, isMark_any _ (hLs _ (List.getElem_mem hj))]
        simp only [Option.bind_some]
        rw [hi, decide_eq_true hc]
        cases markB L[j] <;> simp
      · rw [if_neg hc, hi, decide_eq_false hc]
        simp
    · have c0 : ¬ ((j : Int) < (L.length : Int)) := by omega
      rw [if_neg c0, h0 k (by omega), List.drop_eq_nil_of_le (by omega)]
      simp

set_option maxRecDepth 100000
theorem arA {d k : Nat} (h : (d + 1) * 1100 + 3001 < k + 1) : 1001 + (d * 1100 + 3002) < k + 1 := by omega
theorem arC {d k : Nat} (h : (d + 1) * 1100 + 3001 < k + 1) : 1001 + (d * 1100 + 3002) < k := by omega
theorem arB {d k' : Nat} (h : d * 1100 + 3002 ≤ k') : d * 1100 + 3001 < k' := by omega

theorem spec_l0 (clause : Int) (l : List S25) (hl : l.length ≤ 50) (hs : ∀ x ∈ l, x.f1.size ≤ 1000) (d : Nat) : ∀ (k i : Nat), l.length ≤ i + d → i ≤ l.length → d * 1100 + 3001 < k →
    spec_IsGenerated.l0 k clause l (l.length : Int) (i : Int) = some ((l.drop i).any fun x => decide (x.f0 < clause) && (linesOf x.f1).any markB) := by
  induction d with
  | zero =>
    intro k i h1 h2 hk
    obtain ⟨k, rfl⟩ : ∃ m, k = m + 1 := ⟨k - 1, by omega⟩
    have c0 : ¬ ((i : Int) < (l.length : Int)) := by omega
    simp only [spec_IsGenerated.l0]
    rw [if_neg c0, List.drop_eq_nil_of_le (by omega)]
    rfl
  | succ d ih =>
    intro k i h1 h2 hk
    obtain ⟨k, rfl⟩ : ∃ m, k = m + 1 := ⟨k - 1, by omega⟩
    simp only [spec_IsGenerated.l0]
    by_cases hi : i < l.length
    · have c0 : (i : Int) < (l.length : Int) := by omega
      have c1 : (0 : Int) ≤ (i : Int) := by omega
      have hw : wrap64 ((i : Int) + 1) = ((i + 1 : Nat) : Int) := by unfold wrap64; omega
      have hx : rd_T25 l (i : Int) ∈ l := at25 c1 c0
      obtain ⟨_, g2, g3⟩ := linesOf_spec (rd_T25 l (i : Int)).f1 (hs _ hx)
      have hlen := lines_len g3
      have hsz := hs _ hx
      rw [if_pos c0, if_pos c1, if_pos c0, g2 k (by omega)]
      simp only [Option.bind_some]
      have q0 : (linesOf (rd_T25 l (i : Int)).f1).length ≤ 1001 := Nat.le_trans hlen (Nat.succ_le_succ hsz)
      have q3 : 1001 + (d * 1100 + 3002) < k := arC hk
      have hn : ∀ k', d * 1100 + 3002 ≤ k' → spec_IsGenerated.l0 k' clause l (l.length : Int) (wrap64 ((i : Int) + 1)) = some ((l.drop (i + 1)).any fun x => decide (x.f0 < clause) && (linesOf x.f1).any markB) := by
        intro k' hk'
        rw [hw]
        exact ih k' (i + 1) (by clear hk'; omega) (by clear hk'; omega) (arB hk')
      have q1 : (linesOf (rd_T25 l (i : Int)).f1).length ≤ 0 + 1001 := by rw [Nat.zero_add]; exact q0
      have := spec_l1 clause l (i : Int) (linesOf (rd_T25 l (i : Int)).f1) (rd_T25 l (i : Int)).f0 (rd_T25 l (i : Int)).f1 _ (d * 1100 + 3002) q0 (fun y hy => Nat.le_trans (lines_size g3 y hy) hsz) hn 1001 k 0 q1 (Nat.zero_le _) q3
      rw [show ((0 : Nat) : Int) = 0 from rfl] at this
      rw [this, drop25 hi, List.any_cons, List.drop_zero]
    · have c0 : ¬ ((i : Int) < (l.length : Int)) := by omega
      rw [if_neg c0, List.drop_eq_nil_of_le (by omega)]
      rfl

theorem j1_true (k : Nat) (l : List S25) (c : Int) : laws_FnGenerated.j1 (k + 1) l c true = some true := by simp [laws_FnGenerated.j1]

theorem both_same (l : List S25) (c : Int) (h : ∀ x ∈ l, ¬ x.f0 = c) : (l.any fun x => decide (x.f0 ≤ c) && (linesOf x.f1).any markB) = (l.any fun x => decide (x.f0 < c) && (linesOf x.f1).any markB) := by
  induction l with
  | nil => rfl
  | cons x l ih =>
    rw [List.any_cons, List.any_cons, ih (fun y hy => h y (List.mem_cons_of_mem _ hy))]
    have hx := h x List.mem_cons_self
    have : decide (x.f0 ≤ c) = decide (x.f0 < c) := by
      by_cases hlt : x.f0 < c
      · rw [decide_eq_true hlt, decide_eq_true (by omega)]
      · rw [decide_eq_false hlt, decide_eq_false (by omega)]
    rw [this]

theorem j1_false (k : Nat) (l : List S25) (c : Int) (hl : l.length ≤ 50) (hs : ∀ x ∈ l, x.f1.size ≤ 1000) (hc : ∀ x ∈ l, ¬ x.f0 = c) (hk : 60000 < k) : laws_FnGenerated.j1 (k + 1) l c false = some true := by
  have h1 : impl_IsGenerated.f l c = some (l.any fun x => decide (x.f0 ≤ c) && (linesOf x.f1).any markB) := by
    unfold impl_IsGenerated.f
    rw [if_pos hl]
    exact genF_any c l hs
  have h2 : spec_IsGenerated.f k l c = some (l.any fun x => decide (x.f0 < c) && (linesOf x.f1).any markB) := by
    unfold spec_IsGenerated.f
    have := spec_l0 c l hl hs 50 k 0 (by omega) (Nat.zero_le _) (by omega)
    rw [List.drop_zero] at this
    exact this
  simp only [laws_FnGenerated.j1]
  rw [if_neg (by decide), h1, h2, both_same l c hc]
  simp

theorem gen_l0 (l : List S25) (c : Int) (hl : l.length ≤ maxLen) (d : Nat) : ∀ (k i : Nat) (last : Int), l.length ≤ i + d → i ≤ l.length → d + 60002 < k → (∀ x ∈ l.take i, ¬ x.f0 = c ∧ x.f1.size ≤ 1000) →
    laws_FnGenerated.l0 k l c last l (l.length : Int) (i : Int) = some true := by
  have fin : ∀ (k i : Nat) (last : Int), ¬ ((i : Int) < (l.length : Int)) → 60001 < k → (∀ x ∈ l.take i, ¬ x.f0 = c ∧ x.f1.size ≤ 1000) → laws_FnGenerated.l0 (k + 1) l c last l (l.length : Int) (i : Int) = some true := by
    intro k i last hi hk hall
    obtain ⟨k, rfl⟩ : ∃ m, k = m + 1 := ⟨k - 1, by omega⟩
    rw [List.take_of_length_le (by omega)] at hall
    rw [laws_FnGenerated.l0, if_neg hi]
    by_cases h50 : (l.length : Int) > 50
    · rw [if_pos h50]; exact j1_true k l c
    · rw [if_neg h50]
      by_cases h2 : last > 1000000
      · rw [if_pos h2]; exact j1_true k l c
      · rw [if_neg h2]
        by_cases h3 : c < 1
        · rw [if_pos h3]; exact j1_true k l c
        · rw [if_neg h3]
          by_cases h4 : c > 1000000
          · rw [decide_eq_true h4]; exact j1_true k l c
          · rw [decide_eq_false h4]
            exact j1_false k l c (by omega) (fun x hx => (hall x hx).2) (fun x hx => (hall x hx).1) (by omega)
  induction d with
  | zero =>
    intro k i last h1 h2 hk hall
    obtain ⟨k, rfl⟩ : ∃ m, k = m + 1 := ⟨k - 1, by omega⟩
    exact fin k i last (by omega) (by omega) hall
  | succ d ih =>
    intro k i last h1 h2 hk hall
    obtain ⟨k, rfl⟩ : ∃ m, k = m + 1 := ⟨k - 1, by omega⟩
    by_cases hi : (i : Int) < (l.length : Int)
    · have hin : i < l.length := by omega
      have c1 : (0 : Int) ≤ (i : Int) := by omega
      have hw : wrap64 ((i : Int) + 1) = ((i + 1 : Nat) : Int) := wrap_next c1 hi hl
      rw [laws_FnGenerated.l0, if_pos hi, if_pos c1, if_pos hi]
      split
      · rfl
      · split
        · rfl
        · split
          · rfl
          · rename_i n1 n2 n3
            have hsz : (rd_T25 l (i : Int)).f1.size ≤ 1000 := Int.ofNat_le.1 (Int.not_lt.1 n3)
            obtain ⟨b, hb⟩ := isComment_any _ hsz
            rw [hb k (by omega)]
            simp only [Option.bind_some]
            cases b with
            | false => rfl
            | true =>
              rw [if_pos rfl, hw]
              refine ih k (i + 1) _ (by omega) (by omega) (by omega) ?_
              intro x hx
              rw [take25 hin] at hx
              rcases List.mem_append.1 hx with hx | hx
              · exact hall x hx
              · rw [List.mem_singleton.1 hx]
                exact ⟨n2, hsz⟩
    · exact fin k i last hi (by omega) hall

theorem pure_FnGenerated (l0 : List S25) (a1 : Int) (hl : l0.length ≤ maxLen) (_ : l0.length * 24 ≤ 140737488351232) (_ : ∀ x ∈ l0, ok25 x) : ∃ k, laws_FnGenerated.f k l0 a1 = some true := by
  obtain ⟨b, hb⟩ := zzFits2_any l0 hl
  refine ⟨l0.length + 60003, ?_⟩
  unfold laws_FnGenerated.f
  rw [hb _ (by omega)]
  simp only [Option.bind_some]
  cases b with
  | false => rfl
  | true =>
    rw [if_pos rfl]
    exact gen_l0 l0 a1 hl l0.length _ 0 0 (by omega) (Nat.zero_le _) (by omega) (fun x hx => by simp at hx)
end Go.Proofs.Yteaelkeiocogfaa.A
