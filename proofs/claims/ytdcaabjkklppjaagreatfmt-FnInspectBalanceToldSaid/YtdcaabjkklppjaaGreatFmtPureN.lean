/- The law of FnInspectBalance. -/
import Derived.Test.YtdcaabjkklppjaaGreatFmtPureK
import Derived.Test.YtdcaabjkklppjaaGreatFmtA8
namespace Go.Proofs.YtdcaabjkklppjaaGreatFmt.A
open Go.RowKit Go.Proofs.YtdcaabjkklppjaaGreatFmtW.PrintWords Go.Proofs.YtdcaabjkklppjaaGreatFmtW.PrintLast Go.Proofs.YtdcaabjkklppjaaGreatFmtW.PrintMore
set_option linter.unusedVariables false
set_option linter.unusedSimpArgs false

/-- A list of visits is balanced from a depth on. -/
def BalP : List S29 → Int → Prop
  | [], d => d = 0
  | v :: r, d => if v.f0.toList = ([] : List UInt8) then v.f2 = d - 1 ∧ 0 ≤ d - 1 ∧ (d - 1 = 0 → r = []) ∧ BalP r (d - 1) else v.f2 = d ∧ 0 ≤ d ∧ BalP r (d + 1)
theorem drop_rd' (L : List S29) (i : Nat) (hi : i < L.length) : L.drop i = rd_T29 L (i : Int) :: L.drop (i + 1) := by
  rw [List.drop_eq_getElem_cons hi]
  unfold rd_T29
  rw [Int.toNat_natCast, List.getD_eq_getElem?_getD, List.getElem?_eq_getElem hi]
  rfl
theorem bal_l0 (L : List S29) (hL : L.length ≤ 1000000) (e : Nat) : ∀ (i k : Nat) (d : Int), L.length - i = e → i ≤ L.length → 3 * e + 3 ≤ k → 0 ≤ d → d ≤ (i : Int) → BalP (L.drop i) d → laws_FnInspectBalance.l0 k L d L (L.length : Int) (i : Int) = some (decide ((L.length : Int) > 0)) := by
  induction e with
  | zero =>
    intro i k d he hi hk h0 h1 hb
    obtain ⟨k, rfl⟩ : ∃ m, k = m + 1 := ⟨k - 1, by omega⟩
    rw [List.drop_of_length_le (by omega)] at hb
    have hb : d = 0 := hb
    rw [laws_FnInspectBalance.l0, if_neg (by omega), if_pos hb]
  | succ e ih =>
    intro i k d he hi hk h0 h1 hb
    obtain ⟨k, rfl⟩ : ∃ m, k = m + 3 := ⟨k - 3, by omega⟩
    have hw1 : wrap64 ((i : Int) + 1) = ((i + 1 : Nat) : Int) := by unfold wrap64; omega
    have hwl : wrap64 ((L.length : Int) - 1) = (L.length : Int) - 1 := by unfold wrap64; omega
    have hwd : wrap64 (d + 1) = d + 1 := by unfold wrap64; omega
    have hlen : (L.drop (i + 1)).length = L.length - (i + 1) := List.length_drop
    rw [drop_rd' L i (by omega)] at hb
    rw [laws_FnInspectBalance.l0, if_pos (by omega), if_pos (by omega), if_pos (by omega)]
    generalize rd_T29 L (i : Int) = v at hb ⊢
    unfold BalP at hb
    by_cases hk0 : v.f0.toList = ([] : List UInt8)
    · rw [if_pos hk0] at hb
      obtain ⟨b1, b2, b3, b4⟩ := hb
      have hwm : wrap64 (d - 1) = d - 1 := by unfold wrap64; omega
      have hj2 : laws_FnInspectBalance.j2 (k + 1) L (d - 1) L (L.length : Int) (i : Int) false v.f0 v.f1 v.f2 = some (decide ((L.length : Int) > 0)) := by
        rw [laws_FnInspectBalance.j2, if_neg (by decide), if_pos hk0, hw1]
        exact ih (i + 1) k (d - 1) (by omega) (by omega) (by omega) b2 (by omega) b4
      rw [if_pos hk0, hwm, laws_FnInspectBalance.j1, if_pos b1, if_neg (by omega)]
      by_cases hz : d - 1 = 0
      · have hr := b3 hz
        rw [hr] at hlen
        have : L.length - (i + 1) = 0 := hlen.symm
        rw [if_pos hz, if_pos hk0, hwl, decide_eq_false (show ¬ (i : Int) < (L.length : Int) - 1 by omega)]
        exact hj2
      · rw [if_neg hz]
        exact hj2
    · rw [if_neg hk0] at hb
      obtain ⟨b1, b2, b4⟩ := hb
      have hj2 : laws_FnInspectBalance.j2 (k + 1) L d L (L.length : Int) (i : Int) false v.f0 v.f1 v.f2 = some (decide ((L.length : Int) > 0)) := by
        rw [laws_FnInspectBalance.j2, if_neg (by decide), if_neg hk0, hw1, hwd]
        exact ih (i + 1) k (d + 1) (by omega) (by omega) (by omega) (by omega) (by omega) b4
      rw [if_neg hk0, laws_FnInspectBalance.j1, if_pos b1, if_neg (by omega)]
      split
      · first | (rw [if_neg hk0]; exact hj2) | exact hj2
      · exact hj2
theorem bal_node {v : S29} {r : List S29} {d : Int} (hk : ¬ v.f0.toList = ([] : List UInt8)) (h : v.f2 = d) (h0 : 0 ≤ d) (hr : BalP r (d + 1)) : BalP (v :: r) d := by
  unfold BalP
  rw [if_neg hk]
  exact ⟨h, h0, hr⟩
theorem bal_end {d d' : Int} {r : List S29} (hd : d' = d + 1) (h0 : 0 ≤ d) (he : d = 0 → r = []) (hr : BalP r d) : BalP (⟨⟨#[]⟩, ⟨#[]⟩, d⟩ :: r) d' := by
  unfold BalP
  rw [if_pos (show (⟨#[]⟩ : ByteArray).toList = ([] : List UInt8) by decide +kernel)]
  subst hd
  rw [Int.add_sub_cancel]
  exact ⟨rfl, h0, he, hr⟩
theorem bal_insp {S : Nat → ByteArray} : ∀ (D : Nat) (n : S24) (d : Int) (r : List S29), Good S D n → Deep D n → 0 ≤ d → (d = 0 → r = []) → BalP r d → BalP (inspL bNone D d n ++ r) d
  | 0, _, _, _, h, _, _, _, _ => h.elim
  | D + 1, n, d, r, hg, hd, h0, hz, hr => by
    rw [inspL, if_neg (by rw [hg.kindB_ne.1]; decide), hd.nk, List.cons_append, List.append_assoc, List.append_assoc]
    refine bal_node hg.kindB_ne.2 rfl h0 ?_
    have hcat : ∀ (m : Nat) (r : List S29), m ≤ n.f2.length → BalP r (d + 1) → BalP (catTo (fun i => inspL bNone D (d + 1) (rd_T24 n.f2 (i : Int))) m ++ r) (d + 1) := by
      intro m
      induction m with
      | zero => intro r _ h; exact h
      | succ m ih =>
        intro r hm h
        rw [catTo, List.append_assoc]
        exact ih _ (by omega) (bal_insp D _ (d + 1) r (hg.kids hd m (by omega)) (hd.2 m (by omega)) (by omega) (by omega) h)
    refine hcat _ _ (Nat.le_refl _) ?_
    have hend : BalP ([⟨⟨#[]⟩, ⟨#[]⟩, d⟩] ++ r) (d + 1) := bal_end rfl h0 hz hr
    split
    · rw [leaf_none]
      exact bal_node (show ¬ bName.toList = ([] : List UInt8) by decide +kernel) rfl (by omega) (bal_end rfl (by omega) (by omega) hend)
    · exact hend
theorem insp_pos' (skip : ByteArray) (D : Nat) (n : S24) (d : Int) : 0 < (inspL skip (D + 1) d n).length := by rw [inspL, List.length_cons]; omega
theorem fnInspectBalance_law (a0 a1 : ByteArray) (l2 : List S24) (hT : TextOk 12 ⟨a0, a1, l2⟩) : ∃ k, laws_FnInspectBalance.f k a0 a1 l2 = some true := by
  obtain ⟨k, hk⟩ : ∃ k, k = 200000 := ⟨_, rfl⟩
  refine ⟨k, ?_⟩
  obtain ⟨z, hz⟩ := fits_some a0 a1 l2
  obtain ⟨b, hb, hB⟩ := isTree a0 a1 l2 hT
  unfold laws_FnInspectBalance.f
  rw [hz]
  simp only [Option.bind_some]
  cases z with
  | false => rw [if_neg (by decide)]
  | true =>
    rw [if_pos rfl, hb k (by omega)]
    simp only [Option.bind_some]
    cases b with
    | false => rw [if_neg (by decide)]
    | true =>
      obtain ⟨hg, hd, hc⟩ := hB rfl
      have hl := insp_len bNone 12 ⟨a0, a1, l2⟩ 0
      have hp : 0 < (inspL bNone 12 0 ⟨a0, a1, l2⟩).length := insp_pos' bNone 11 ⟨a0, a1, l2⟩ 0
      rw [if_pos rfl, inspected_some hg hc]
      simp only [Option.bind_some]
      have hbal := bal_insp 12 ⟨a0, a1, l2⟩ 0 [] hg hd (Int.le_refl _) (fun _ => rfl) rfl
      rw [List.append_nil] at hbal
      have := bal_l0 (inspL bNone 12 0 ⟨a0, a1, l2⟩) (by omega) _ 0 k 0 rfl (Nat.zero_le _) (by omega) (Int.le_refl _) (Int.le_refl _) (by rw [List.drop_zero]; exact hbal)
      rw [decide_eq_true (show ((inspL bNone 12 0 ⟨a0, a1, l2⟩).length : Int) > 0 by omega)] at this
      exact this
end Go.Proofs.YtdcaabjkklppjaaGreatFmt.A
