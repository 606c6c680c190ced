/- What spec.IsExprTree tells of a tree: it is good, deep, of few nodes. -/
import Derived.Test.YtdcaabjkklppjaaGreatFmtA3i
import Derived.Test.YtdcaabjkklppjaaGreatFmtGInr
import Derived.Test.YtdcaabjkklppjaaGreatFmtGVis
import Derived.Lib.Strings
/- Texts by their bytes. -/
namespace Go.Proofs.YtdcaabjkklppjaaGreatFmt.A
open Go.RowKit Go.Proofs.YtdcaabjkklppjaaGreatFmtW.PrintWords Go.Proofs.YtdcaabjkklppjaaGreatFmtW.PrintLast Go.Proofs.YtdcaabjkklppjaaGreatFmtW.PrintMore
set_option linter.unusedVariables false
set_option linter.unusedSimpArgs false

theorem list_is (s : ByteArray) (l : List UInt8) : s.toList = l ↔ s = ⟨l.toArray⟩ := by
  rw [Go.Lib.toList_data]
  constructor
  · intro h
    cases s with
    | mk d => cases d with
      | mk x => simp at h; rw [h]
  · rintro rfl
    simp

end Go.Proofs.YtdcaabjkklppjaaGreatFmt.A
/- spec.fewNodes ends. -/
namespace Go.Proofs.YtdcaabjkklppjaaGreatFmt.A
open Go.RowKit Go.Proofs.YtdcaabjkklppjaaGreatFmtW.PrintWords Go.Proofs.YtdcaabjkklppjaaGreatFmtW.PrintLast Go.Proofs.YtdcaabjkklppjaaGreatFmtW.PrintMore
set_option linter.unusedVariables false
set_option linter.unusedSimpArgs false

theorem few_l0 (D K : Nat) (hD : D ≤ 1000) (kids : List S24) (f0 f1 : ByteArray)
    (hf : ∀ (n : S24) (left : Int) (k : Nat), 0 ≤ left → left ≤ 2000 → K ≤ k → ∃ r, spec_fewNodes.f k n.f0 n.f1 n.f2 (D : Int) left = some r ∧ r ≤ left - 1 ∧ -1 ≤ r) (d : Nat) :
    ∀ (x2 : Int) (i k : Nat), x2 + 1 ≤ (d : Int) → -1 ≤ x2 → x2 ≤ 2000 → i + d ≤ 5000 → K + d + 1 ≤ k → ∃ r, spec_fewNodes.l0 k ((D + 1 : Nat) : Int) x2 (i : Int) f0 f1 kids = some r ∧ r ≤ x2 ∧ -1 ≤ r := by
  induction d with
  | zero =>
    intro x2 i k h1 h2 h3 hi hk
    obtain ⟨k, rfl⟩ : ∃ m, k = m + 1 := ⟨k - 1, by omega⟩
    simp only [spec_fewNodes.l0]
    split
    · rw [if_neg (by omega)]; exact ⟨_, rfl, Int.le_refl _, h2⟩
    · exact ⟨_, rfl, Int.le_refl _, h2⟩
  | succ d ih =>
    intro x2 i k h1 h2 h3 hi hk
    obtain ⟨k, rfl⟩ : ∃ m, k = m + 1 := ⟨k - 1, by omega⟩
    simp only [spec_fewNodes.l0]
    by_cases c1 : (i : Int) < (kids.length : Int)
    · rw [if_pos c1]
      by_cases c2 : x2 ≥ 0
      · have hw : wrap64 (((D + 1 : Nat) : Int) - 1) = (D : Int) := by unfold wrap64; omega
        have hw1 : wrap64 ((i : Int) + 1) = ((i + 1 : Nat) : Int) := by unfold wrap64; omega
        obtain ⟨r, hr, hr1, hr2⟩ := hf (rd_T24 kids (i : Int)) x2 k c2 h3 (by omega)
        rw [if_pos c2, if_pos (by omega), hw, hr]
        simp only [Option.bind_some]
        rw [hw1]
        obtain ⟨r', h4, h5, h6⟩ := ih r (i + 1) k (by omega) hr2 (by omega) (by omega) (by omega)
        exact ⟨r', h4, by omega, h6⟩
      · rw [if_neg c2]; exact ⟨_, rfl, Int.le_refl _, h2⟩
    · rw [if_neg c1]; exact ⟨_, rfl, Int.le_refl _, h2⟩

theorem few_total (D : Nat) : D ≤ 1000 → ∀ (n : S24) (left : Int) (k : Nat), 0 ≤ left → left ≤ 2000 → D * 2010 + 1 ≤ k → ∃ r, spec_fewNodes.f k n.f0 n.f1 n.f2 (D : Int) left = some r ∧ r ≤ left - 1 ∧ -1 ≤ r := by
  induction D with
  | zero =>
    intro hD n left k h0 h1 hk
    obtain ⟨k, rfl⟩ : ∃ m, k = m + 1 := ⟨k - 1, by omega⟩
    simp only [spec_fewNodes.f]
    rw [if_pos (by omega)]
    exact ⟨_, rfl, by omega, by omega⟩
  | succ D ih =>
    intro hD n left k h0 h1 hk
    obtain ⟨k, rfl⟩ : ∃ m, k = m + 1 := ⟨k - 1, by omega⟩
    have hw : wrap64 (left - 1) = left - 1 := by unfold wrap64; omega
    have hk2 : D * 2010 + 1 + 2001 + 1 ≤ k := by omega
    obtain ⟨K, hK⟩ : ∃ K, K = D * 2010 + 1 := ⟨_, rfl⟩
    rw [← hK] at hk2
    have ih' := ih (by omega)
    rw [← hK] at ih'
    simp only [spec_fewNodes.f]
    rw [if_neg (by omega), hw]
    exact few_l0 D K (by omega) n.f2 n.f0 n.f1 ih' 2001 (left - 1) 0 k (by omega) (by omega) (by omega) (by omega) hk2
end Go.Proofs.YtdcaabjkklppjaaGreatFmt.A
/- Where spec.fewNodes leaves nodes over, each list of a tree is short. -/
namespace Go.Proofs.YtdcaabjkklppjaaGreatFmt.A
open Go.RowKit Go.Proofs.YtdcaabjkklppjaaGreatFmtW.PrintWords Go.Proofs.YtdcaabjkklppjaaGreatFmtW.PrintLast Go.Proofs.YtdcaabjkklppjaaGreatFmtW.PrintMore
set_option linter.unusedVariables false
set_option linter.unusedSimpArgs false

/-- Each list of nodes, so deep, has at most 2000 of them. -/
def Small : Nat → S24 → Prop
  | 0, _ => False
  | D + 1, n => n.f2.length ≤ 2000 ∧ ∀ i : Nat, i < n.f2.length → Small D (rd_T24 n.f2 (i : Int))

/-- How many nodes there are. -/
def num : Nat → S24 → Nat
  | 0, _ => 0
  | D + 1, n => 1 + sumTo (fun i => num D (rd_T24 n.f2 (i : Int))) n.f2.length
theorem sumTo_mono (c d : Nat → Nat) (h : ∀ i, c i ≤ d i) : ∀ m, sumTo c m ≤ sumTo d m
  | 0 => Nat.le_refl _
  | m + 1 => Nat.add_le_add (sumTo_mono c d h m) (h m)
theorem sumTo_mul (c : Nat → Nat) : ∀ m, sumTo (fun i => 8 * c i) m = 8 * sumTo c m
  | 0 => rfl
  | m + 1 => by rw [sumTo, sumTo, sumTo_mul c m]; omega
theorem cnt_num : ∀ (D : Nat) (n : S24), cnt D n ≤ 8 * num D n
  | 0, _ => Nat.le_refl _
  | D + 1, n => by
    have h1 := sumTo_mono (fun i => cnt D (rd_T24 n.f2 (i : Int))) (fun i => 8 * num D (rd_T24 n.f2 (i : Int))) (fun i => cnt_num D _) n.f2.length
    rw [sumTo_mul] at h1
    rw [cnt, num]
    unfold nk
    split
    · rw [sumTo]; omega
    · omega
theorem num_pos : ∀ {D : Nat} {n : S24}, Small D n → 1 ≤ num D n
  | 0, _, h => h.elim
  | D + 1, n, _ => by rw [num]; omega
theorem few_small (D : Nat) : D ≤ 1000 → ∀ (n : S24) (left r : Int) (k : Nat), 0 ≤ left → left ≤ 2000 → spec_fewNodes.f k n.f0 n.f1 n.f2 (D : Int) left = some r → 0 ≤ r → Small D n ∧ r + (num D n : Int) ≤ left := by
  induction D with
  | zero =>
    intro hD n left r k h0 h1 h hr
    cases k with
    | zero => simp [spec_fewNodes.f] at h
    | succ k =>
      simp only [spec_fewNodes.f] at h
      rw [if_pos (by omega)] at h
      have := Option.some.inj h
      omega
  | succ D ih =>
    intro hD n left r k h0 h1 h hr
    cases k with
    | zero => simp [spec_fewNodes.f] at h
    | succ k =>
      have hw : wrap64 (left - 1) = left - 1 := by unfold wrap64; omega
      simp only [spec_fewNodes.f] at h
      rw [if_neg (by omega), hw] at h
      have loop : ∀ (k i : Nat) (x2 : Int), (i : Int) + x2 ≤ left - 1 → x2 ≤ 2000 → -1 ≤ x2 → i ≤ n.f2.length → spec_fewNodes.l0 k ((D + 1 : Nat) : Int) x2 (i : Int) n.f0 n.f1 n.f2 = some r →
          ((n.f2.length : Int) ≤ left - 1 ∧ ∀ j : Nat, i ≤ j → j < n.f2.length → Small D (rd_T24 n.f2 (j : Int))) ∧ r + (sumTo (fun i => num D (rd_T24 n.f2 (i : Int))) n.f2.length : Int) ≤ x2 + (sumTo (fun i => num D (rd_T24 n.f2 (i : Int))) i : Int) := by
        intro k
        induction k with
        | zero => intro i x2 _ _ _ _ h; simp [spec_fewNodes.l0] at h
        | succ k ihk =>
          intro i x2 hx h2 hm hi h
          simp only [spec_fewNodes.l0] at h
          by_cases c1 : (i : Int) < (n.f2.length : Int)
          · rw [if_pos c1] at h
            by_cases c2 : x2 ≥ 0
            · have hw0 : wrap64 (((D + 1 : Nat) : Int) - 1) = (D : Int) := by unfold wrap64; omega
              have hw1 : wrap64 ((i : Int) + 1) = ((i + 1 : Nat) : Int) := by unfold wrap64; omega
              rw [if_pos c2, if_pos (by omega), hw0] at h
              obtain ⟨t, ht, h⟩ := Option.bind_eq_some_iff.1 h
              rw [hw1] at h
              by_cases ht0 : 0 ≤ t
              · obtain ⟨hs, hlt⟩ := ih (by omega) _ x2 t k c2 h2 ht ht0
                have hnp := num_pos hs
                obtain ⟨⟨ha, hb⟩, hc⟩ := ihk (i + 1) t (by omega) (by omega) (by omega) (by omega) h
                rw [sumTo] at hc
                refine ⟨⟨ha, fun j hj1 hj2 => ?_⟩, by omega⟩
                by_cases hji : j = i
                · rw [hji]; exact hs
                · exact hb j (by omega) hj2
              · -- nothing left: the loop ends with a number below zero
                exfalso
                cases k with
                | zero => simp [spec_fewNodes.l0] at h
                | succ k =>
                  simp only [spec_fewNodes.l0] at h
                  have e : t = r := by
                    split at h
                    · first
                        | exact Option.some.inj h
                        | (rw [if_neg (by omega)] at h; exact Option.some.inj h)
                    · exact Option.some.inj h
                  omega
            · rw [if_neg c2] at h
              have := Option.some.inj h
              omega
          · rw [if_neg c1] at h
            have e := Option.some.inj h
            have hil : i = n.f2.length := by omega
            rw [← hil]
            exact ⟨⟨by omega, fun j h3 h4 => absurd h4 (by omega)⟩, by omega⟩
      obtain ⟨⟨ha, hb⟩, hc⟩ := loop k 0 (left - 1) (by omega) (by omega) (by omega) (Nat.zero_le _) h
      rw [sumTo] at hc
      rw [num]
      exact ⟨⟨by omega, fun i hi => hb i (Nat.zero_le _) hi⟩, by omega⟩
end Go.Proofs.YtdcaabjkklppjaaGreatFmt.A
/- spec.has over a short text. -/
namespace Go.Proofs.YtdcaabjkklppjaaGreatFmt.A
open Go.RowKit Go.Proofs.YtdcaabjkklppjaaGreatFmtW.PrintWords Go.Proofs.YtdcaabjkklppjaaGreatFmtW.PrintLast Go.Proofs.YtdcaabjkklppjaaGreatFmtW.PrintMore
set_option linter.unusedVariables false
set_option linter.unusedSimpArgs false

theorem find_l0 (s p : ByteArray) (hs : s.size ≤ 100) (hp : p.size ≤ 9223372036854775000) (d : Nat) : ∀ (k i : Nat), s.size + 1 ≤ i + d → i ≤ s.size + 1 → d < k →
    ∃ j : Int, spec_find.l0 k s p (i : Int) = some j ∧ (0 ≤ j → ∃ t : Nat, t + p.size ≤ s.size ∧ (s.extract t (t + p.size)).toList = p.toList) := by
  induction d with
  | zero =>
    intro k i h0 h1 hk
    obtain ⟨k, rfl⟩ : ∃ m, k = m + 1 := ⟨k - 1, by omega⟩
    have hw : wrap64 ((i : Int) + (p.size : Int)) = ((i + p.size : Nat) : Int) := by unfold wrap64; omega
    simp only [spec_find.l0]
    rw [hw, if_neg (by omega)]
    exact ⟨-1, rfl, fun h => by omega⟩
  | succ d ih =>
    intro k i h0 h1 hk
    obtain ⟨k, rfl⟩ : ∃ m, k = m + 1 := ⟨k - 1, by omega⟩
    have hw : wrap64 ((i : Int) + (p.size : Int)) = ((i + p.size : Nat) : Int) := by unfold wrap64; omega
    have hw1 : wrap64 ((i : Int) + 1) = ((i + 1 : Nat) : Int) := by unfold wrap64; omega
    simp only [spec_find.l0]
    rw [hw, hw1]
    by_cases c : ((i + p.size : Nat) : Int) ≤ (s.size : Int)
    · rw [if_pos c, if_pos (by omega), if_pos (by omega), Int.toNat_natCast, Int.toNat_natCast]
      by_cases e : (s.extract i (i + p.size)).toList = p.toList
      · rw [if_pos e]
        exact ⟨_, rfl, fun _ => ⟨i, by omega, e⟩⟩
      · rw [if_neg e]
        exact ih k (i + 1) (by omega) (by omega) (by omega)
    · rw [if_neg c]
      exact ⟨-1, rfl, fun h => by omega⟩

theorem has_short (s p : ByteArray) (hs : s.size ≤ 100) (hp : p.size ≤ 9223372036854775807) (k : Nat) (hk : 200 < k) : ∃ b, spec_has.f k s p = some b ∧ (b = true → ∃ t : Nat, t + p.size ≤ s.size ∧ (s.extract t (t + p.size)).toList = p.toList) := by
  obtain ⟨j, hj, h⟩ : ∃ j : Int, spec_find.l0 k s p ((0 : Nat) : Int) = some j ∧ (0 ≤ j → ∃ t : Nat, t + p.size ≤ s.size ∧ (s.extract t (t + p.size)).toList = p.toList) := by
    by_cases hps : p.size ≤ s.size
    · exact find_l0 s p hs (by omega) (s.size + 1) k 0 (by omega) (by omega) (by omega)
    · obtain ⟨k, rfl⟩ : ∃ m, k = m + 1 := ⟨k - 1, by omega⟩
      have hw : wrap64 (((0 : Nat) : Int) + (p.size : Int)) = (p.size : Int) := by unfold wrap64; omega
      simp only [spec_find.l0]
      rw [hw, if_neg (by omega)]
      exact ⟨-1, rfl, fun h => by omega⟩
  have hj' : spec_find.f k s p = some j := hj
  unfold spec_has.f
  rw [hj']
  simp only [Option.bind_some]
  exact ⟨_, rfl, fun hb => h (by simpa using hb)⟩
end Go.Proofs.YtdcaabjkklppjaaGreatFmt.A
/- The operators' texts stand in the tokens' table. -/
namespace Go.Proofs.YtdcaabjkklppjaaGreatFmt.A
open Go.RowKit Go.Proofs.YtdcaabjkklppjaaGreatFmtW.PrintWords Go.Proofs.YtdcaabjkklppjaaGreatFmtW.PrintLast Go.Proofs.YtdcaabjkklppjaaGreatFmtW.PrintMore
set_option linter.unusedVariables false
set_option linter.unusedSimpArgs false

theorem filled : ∀ i, i < 60 → 12 ≤ i → i ≤ 43 → (tokL.getD i []) ≠ [] := by decide +kernel
theorem opText_of {j : Nat} {s : ByteArray} (h1 : 12 ≤ j) (h2 : j ≤ 43) (h : s = tokS j) : OpText tokS s := by
  refine ⟨j, by omega, h1, h, fun i h3 h4 e => ?_⟩
  unfold tokS at e
  rw [(list_is _ _)] at e
  have := filled i (by omega) h3 (by omega)
  apply this
  have e2 : (tokL.getD i []).toArray = ([] : List UInt8).toArray := congrArg ByteArray.data e
  simpa using congrArg Array.toList e2
def opsAt : List (UInt8 × Nat) := [(33, 43), (37, 16), (38, 17), (42, 14), (43, 12), (45, 13), (47, 15), (60, 40), (62, 41), (94, 19), (124, 18)]
theorem ops_stand : ∀ x ∈ opsAt, 12 ≤ x.2 ∧ x.2 ≤ 43 ∧ tokL.getD x.2 [] = [x.1] := by decide +kernel
theorem opText_byte {c : UInt8} (h : c ∈ opsAt.map (·.1)) : OpText tokS ⟨#[c]⟩ := by
  obtain ⟨x, hx, rfl⟩ := List.mem_map.1 h
  obtain ⟨h1, h2, h3⟩ := ops_stand x hx
  refine opText_of h1 h2 ?_
  unfold tokS
  rw [h3]
end Go.Proofs.YtdcaabjkklppjaaGreatFmt.A
/- One byte of the list of operators. -/
namespace Go.Proofs.YtdcaabjkklppjaaGreatFmt.A
open Go.RowKit Go.Proofs.YtdcaabjkklppjaaGreatFmtW.PrintWords Go.Proofs.YtdcaabjkklppjaaGreatFmtW.PrintLast Go.Proofs.YtdcaabjkklppjaaGreatFmtW.PrintMore
set_option linter.unusedVariables false
set_option linter.unusedSimpArgs false

def unL : ByteArray := ⟨#[42, 32, 45, 32, 43, 32, 33, 32, 94, 32, 38]⟩
def biL : ByteArray := ⟨#[43, 32, 45, 32, 42, 32, 47, 32, 37, 32, 38, 32, 124, 32, 94, 32, 60, 32, 62]⟩
theorem un_ops : ∀ t, t < 11 → (unL.extract t (t + 1)).data.toList = [32] ∨ ∃ c ∈ opsAt.map (·.1), (unL.extract t (t + 1)).data.toList = [c] := by decide +kernel
theorem bi_ops : ∀ t, t < 19 → (biL.extract t (t + 1)).data.toList = [32] ∨ ∃ c ∈ opsAt.map (·.1), (biL.extract t (t + 1)).data.toList = [c] := by decide +kernel
theorem un_text {p : ByteArray} (h1 : p.size = 1) (h32 : ¬ p.toList = ([32] : List UInt8)) (h : ∃ t : Nat, t + p.size ≤ unL.size ∧ (unL.extract t (t + p.size)).toList = p.toList) : OpText tokS p := by
  obtain ⟨t, ht, e⟩ := h
  rw [h1] at ht e
  have hz : unL.size = 11 := rfl
  rw [Go.Lib.toList_data] at e
  rcases un_ops t (by omega) with h | ⟨c, hc, h⟩
  · exact absurd (e.symm.trans h) h32
  · rw [(list_is p [c]).1 (e.symm.trans h)]
    exact opText_byte hc
theorem bi_text {p : ByteArray} (h1 : p.size = 1) (h32 : ¬ p.toList = ([32] : List UInt8)) (h : ∃ t : Nat, t + p.size ≤ biL.size ∧ (biL.extract t (t + p.size)).toList = p.toList) : OpText tokS p := by
  obtain ⟨t, ht, e⟩ := h
  rw [h1] at ht e
  have hz : biL.size = 19 := rfl
  rw [Go.Lib.toList_data] at e
  rcases bi_ops t (by omega) with h | ⟨c, hc, h⟩
  · exact absurd (e.symm.trans h) h32
  · rw [(list_is p [c]).1 (e.symm.trans h)]
    exact opText_byte hc
end Go.Proofs.YtdcaabjkklppjaaGreatFmt.A
/- spec.areExprTrees over a short list. -/
namespace Go.Proofs.YtdcaabjkklppjaaGreatFmt.A
open Go.RowKit Go.Proofs.YtdcaabjkklppjaaGreatFmtW.PrintWords Go.Proofs.YtdcaabjkklppjaaGreatFmtW.PrintLast Go.Proofs.YtdcaabjkklppjaaGreatFmtW.PrintMore
set_option linter.unusedVariables false
set_option linter.unusedSimpArgs false

/-- The texts of a tree, so deep, are texts that Go has. -/
def TextOk : Nat → S24 → Prop
  | 0, _ => True
  | D + 1, n => n.f1.size ≤ 9223372036854775807 ∧ ∀ i : Nat, i < n.f2.length → TextOk D (rd_T24 n.f2 (i : Int))
/-- Good, with nothing below names and numbers. -/
def GD (D : Nat) (x : S24) : Prop := Good tokS D x ∧ Deep D x
/-- What is told of trees at a depth, with so many rounds. -/
def Told (D K : Nat) : Prop := ∀ x : S24, Small D x → TextOk D x → ∃ b, (∀ k, K ≤ k → spec_isExprTree.f k x.f0 x.f1 x.f2 (D : Int) = some b) ∧ (b = true → GD D x)

theorem are_l0 (D K : Nat) (IH : Told D K) (L : List S24) (hL : L.length ≤ 2000) (hS : ∀ i : Nat, i < L.length → Small D (rd_T24 L (i : Int))) (hT : ∀ i : Nat, i < L.length → TextOk D (rd_T24 L (i : Int))) (a1 a2 : Int) (d : Nat) :
    ∀ (i : Nat), L.length - i = d → i ≤ L.length → ∃ b, (∀ k, K + d + 1 ≤ k → spec_areExprTrees.l0 k L a1 a2 (D : Int) L (L.length : Int) (i : Int) = some b) ∧ (b = true → a1 ≤ (L.length : Int) ∧ (L.length : Int) ≤ a2 ∧ ∀ j : Nat, i ≤ j → j < L.length → GD D (rd_T24 L (j : Int))) := by
  induction d with
  | zero =>
    intro i hd hi
    by_cases c : (L.length : Int) ≥ a1
    · refine ⟨decide ((L.length : Int) ≤ a2), fun k hk => ?_, fun h => ⟨c, of_decide_eq_true h, fun j h1 h2 => absurd h2 (by omega)⟩⟩
      obtain ⟨k, rfl⟩ : ∃ m, k = m + 1 := ⟨k - 1, by omega⟩
      simp only [spec_areExprTrees.l0]
      rw [if_neg (by omega), if_pos c]
    · refine ⟨false, fun k hk => ?_, fun h => by cases h⟩
      obtain ⟨k, rfl⟩ : ∃ m, k = m + 1 := ⟨k - 1, by omega⟩
      simp only [spec_areExprTrees.l0]
      rw [if_neg (by omega), if_neg c]
  | succ d ih =>
    intro i hd hi
    have hlt : i < L.length := by omega
    have hw : wrap64 ((i : Int) + 1) = ((i + 1 : Nat) : Int) := by unfold wrap64; omega
    obtain ⟨b, hb, hg⟩ := IH _ (hS i hlt) (hT i hlt)
    cases b with
    | false =>
      refine ⟨false, fun k hk => ?_, fun h => by cases h⟩
      obtain ⟨k, rfl⟩ : ∃ m, k = m + 1 := ⟨k - 1, by omega⟩
      simp only [spec_areExprTrees.l0]
      rw [if_pos (by omega), if_pos (by omega), if_pos (by omega), hb k (by omega)]
      simp only [Option.bind_some]
      rw [if_neg (by decide)]
    | true =>
      obtain ⟨b', hb', hg'⟩ := ih (i + 1) (by omega) (by omega)
      refine ⟨b', fun k hk => ?_, fun h => ?_⟩
      · obtain ⟨k, rfl⟩ : ∃ m, k = m + 1 := ⟨k - 1, by omega⟩
        simp only [spec_areExprTrees.l0]
        rw [if_pos (by omega), if_pos (by omega), if_pos (by omega), hb k (by omega)]
        simp only [Option.bind_some]
        rw [if_pos trivial, hw]
        exact hb' k (by omega)
      · obtain ⟨h1, h2, h3⟩ := hg' h
        refine ⟨h1, h2, fun j h4 h5 => ?_⟩
        by_cases hj : j = i
        · rw [hj]; exact hg rfl
        · exact h3 j (by omega) h5
end Go.Proofs.YtdcaabjkklppjaaGreatFmt.A
/- spec.isExprTree at trees with short lists: it ends, and where it is true the tree is good. -/
namespace Go.Proofs.YtdcaabjkklppjaaGreatFmt.A
open Go.RowKit Go.Proofs.YtdcaabjkklppjaaGreatFmtW.PrintWords Go.Proofs.YtdcaabjkklppjaaGreatFmtW.PrintLast Go.Proofs.YtdcaabjkklppjaaGreatFmtW.PrintMore
set_option linter.unusedVariables false
set_option linter.unusedSimpArgs false

/-- The steps ahead of the kinds with nodes below them. -/
theorem tree_j1 (k D : Nat) (f0 f1 : ByteArray) (f2 : List S24) (h1 : ¬ f0.toList = ([110, 97, 109, 101] : List UInt8)) (h2 : ¬ f0.toList = ([105, 110, 116] : List UInt8)) :
    spec_isExprTree.f (k + 2) f0 f1 f2 ((D + 1 : Nat) : Int) = if f0.toList = ([112, 97, 114, 101, 110] : List UInt8) then spec_isExprTree.j1 k ((D + 1 : Nat) : Int) f0 (f0.toList == ([112, 97, 114, 101, 110] : List UInt8)) f0 f1 f2 else spec_isExprTree.j1 k ((D + 1 : Nat) : Int) f0 (f0.toList == ([115, 101, 108, 101, 99, 116, 111, 114] : List UInt8)) f0 f1 f2 := by
  have e2 : (f0.toList == ([105, 110, 116] : List UInt8)) = false := beq_eq_false_iff_ne.2 h2
  rw [spec_isExprTree.f, if_neg (by omega), if_neg h1, e2, spec_isExprTree.j0, if_neg (by decide)]

theorem tree_told (D K : Nat) (hD : D ≤ 1000) (IH : Told D K) : Told (D + 1) (K + 2300) := by
  intro x hS hT
  obtain ⟨f0, f1, f2⟩ := x
  obtain ⟨hl, hkS⟩ := hS
  obtain ⟨hf1, hkT⟩ := hT
  have hl : f2.length ≤ 2000 := hl
  have hf1 : f1.size ≤ 9223372036854775807 := hf1
  have hw : wrap64 (((D + 1 : Nat) : Int) - 1) = (D : Int) := by unfold wrap64; omega
  have are := fun a1 a2 => are_l0 D K IH f2 hl hkS hkT a1 a2 f2.length 0 (by omega) (Nat.zero_le _)
  have leaf : ∀ (b9 : Bool) (k : Nat), b9 = true → spec_isExprTree.j0 (k + 1) ((D + 1 : Nat) : Int) f0 b9 f0 f1 f2 = some (if f1.toList = ([] : List UInt8) then false else ((f2.length : Int) == 0)) := by
    intro b9 k hb
    subst hb
    rw [spec_isExprTree.j0, if_pos rfl]
    split <;> rfl
  have bare : (if f1.toList = ([] : List UInt8) then false else ((f2.length : Int) == 0)) = true → Deep (D + 1) ⟨f0, f1, f2⟩ := by
    intro hb
    split at hb
    · cases hb
    · have hz : f2.length = 0 := by have := beq_iff_eq.1 hb; omega
      exact ⟨fun _ => List.eq_nil_of_length_eq_zero hz, fun i hi => absurd hi (by show ¬ i < f2.length; omega)⟩
  by_cases n1 : f0.toList = ([110, 97, 109, 101] : List UInt8)
  · refine ⟨if f1.toList = ([] : List UInt8) then false else ((f2.length : Int) == 0), fun k hk => ?_, fun hb => ⟨⟨.inl ((list_is _ _).1 n1), .inl (.inl ((list_is _ _).1 n1))⟩, bare hb⟩⟩
    obtain ⟨k, rfl⟩ : ∃ m, k = m + 2 := ⟨k - 2, by omega⟩
    rw [spec_isExprTree.f, if_neg (by omega), if_pos n1]
    exact leaf _ k (beq_iff_eq.2 n1)
  by_cases n2 : f0.toList = ([105, 110, 116] : List UInt8)
  · refine ⟨if f1.toList = ([] : List UInt8) then false else ((f2.length : Int) == 0), fun k hk => ?_, fun hb => ⟨⟨.inr (.inl ((list_is _ _).1 n2)), .inl (.inr ((list_is _ _).1 n2))⟩, bare hb⟩⟩
    obtain ⟨k, rfl⟩ : ∃ m, k = m + 2 := ⟨k - 2, by omega⟩
    rw [spec_isExprTree.f, if_neg (by omega), if_neg n1]
    exact leaf _ k (beq_iff_eq.2 n2)
  have kids : (∀ j : Nat, 0 ≤ j → j < f2.length → GD D (rd_T24 f2 (j : Int))) → ∀ i : Nat, i < f2.length → Good tokS D (rd_T24 f2 (i : Int)) := fun h i hi => (h i (Nat.zero_le _) hi).1
  have deep : (∀ j : Nat, 0 ≤ j → j < f2.length → GD D (rd_T24 f2 (j : Int))) → Deep (D + 1) ⟨f0, f1, f2⟩ := fun h => ⟨fun e => absurd e (fun e => e.elim (fun e => n1 ((list_is _ _).2 e)) (fun e => n2 ((list_is _ _).2 e))), fun i hi => (h i (Nat.zero_le _) hi).2⟩
  obtain ⟨b11, r11, g11⟩ := are 1 1
  obtain ⟨b22, r22, g22⟩ := are 2 2
  obtain ⟨b1n, r1n, g1n⟩ := are 1 20
  by_cases n3 : f0.toList = ([112, 97, 114, 101, 110] : List UInt8)
  · refine ⟨b11, fun k hk => ?_, fun h => ?_⟩
    · obtain ⟨k, rfl⟩ : ∃ m, k = m + 3 := ⟨k - 3, by omega⟩
      have r := r11 k (by omega)
      have e := beq_iff_eq.2 n3
      rw [tree_j1 (k + 1) D f0 f1 f2 n1 n2, if_pos n3, e, spec_isExprTree.j1, if_pos rfl, hw]
      refine (congrArg (fun o => Option.bind o fun t => some t) r).trans rfl
    · obtain ⟨h1, h2, h3⟩ := g11 h
      exact ⟨⟨.inr (.inr (.inl ⟨(list_is _ _).1 n3, by show f2.length = 1; omega⟩)), .inr (kids h3)⟩, deep h3⟩
  by_cases n4 : f0.toList = ([115, 101, 108, 101, 99, 116, 111, 114] : List UInt8)
  · refine ⟨b11, fun k hk => ?_, fun h => ?_⟩
    · obtain ⟨k, rfl⟩ : ∃ m, k = m + 3 := ⟨k - 3, by omega⟩
      have r := r11 k (by omega)
      have e := beq_iff_eq.2 n4
      rw [tree_j1 (k + 1) D f0 f1 f2 n1 n2, if_neg n3, e, spec_isExprTree.j1, if_pos rfl, hw]
      refine (congrArg (fun o => Option.bind o fun t => some t) r).trans rfl
    · obtain ⟨h1, h2, h3⟩ := g11 h
      exact ⟨⟨.inr (.inr (.inr (.inl ⟨(list_is _ _).1 n4, by show f2.length = 1; omega⟩))), .inr (kids h3)⟩, deep h3⟩
  by_cases n5 : f0.toList = ([117, 110, 97, 114, 121] : List UInt8)
  · obtain ⟨bh, rh, gh⟩ : ∃ bh, (∀ k, 200 < k → spec_has.f k unL f1 = some bh) ∧ (bh = true → ∃ t : Nat, t + f1.size ≤ unL.size ∧ (unL.extract t (t + f1.size)).toList = f1.toList) := by
      obtain ⟨b, h1, h2⟩ := has_short unL f1 (by decide) hf1 201 (by decide)
      exact ⟨b, fun k hk => at_rounds (fun k => spec_has.mono _ _ k) (show 201 ≤ k by omega) h1, h2⟩
    refine ⟨bh && (decide ((f1.size : Int) = 1) && (!(decide (f1.toList = ([32] : List UInt8))) && b11)), fun k hk => ?_, fun h => ?_⟩
    · obtain ⟨k, rfl⟩ : ∃ m, k = m + 3 := ⟨k - 3, by omega⟩
      have r := r11 k (by omega)
      have rk := rh k (by omega)
      rw [tree_j1 (k + 1) D f0 f1 f2 n1 n2, if_neg n3, beq_eq_false_iff_ne.2 n4, spec_isExprTree.j1, if_neg (by decide)]
      skip
      rw [if_pos n5, hw]
      refine (congrArg (fun o => Option.bind o _) rk).trans ?_
      simp only [Option.bind_some]
      cases bh with
      | false => rw [if_neg (by decide)]; rfl
      | true =>
        rw [if_pos rfl]
        by_cases z : (f1.size : Int) = 1
        · rw [if_pos z]
          by_cases y : f1.toList = ([32] : List UInt8)
          · rw [if_pos y, decide_eq_true y]; simp
          · rw [if_neg y, decide_eq_false y, decide_eq_true z]
            refine (congrArg (fun o => Option.bind o fun t => some t) r).trans ?_
            simp
        · rw [if_neg z, decide_eq_false z]; rfl
    · simp only [Bool.and_eq_true, decide_eq_true_eq, Bool.not_eq_true', decide_eq_false_iff_not] at h
      obtain ⟨h0, hz, hy, hb⟩ := h
      obtain ⟨h1, h2, h3⟩ := g11 hb
      exact ⟨⟨.inr (.inr (.inr (.inr (.inl ⟨(list_is _ _).1 n5, un_text (p := f1) (by omega) hy (gh h0), by show f2.length = 1; omega⟩)))), .inr (kids h3)⟩, deep h3⟩
  by_cases n6 : f0.toList = ([98, 105, 110, 97, 114, 121] : List UInt8)
  · obtain ⟨bh, rh, gh⟩ : ∃ bh, (∀ k, 200 < k → spec_has.f k biL f1 = some bh) ∧ (bh = true → ∃ t : Nat, t + f1.size ≤ biL.size ∧ (biL.extract t (t + f1.size)).toList = f1.toList) := by
      obtain ⟨b, h1, h2⟩ := has_short biL f1 (by decide) hf1 201 (by decide)
      exact ⟨b, fun k hk => at_rounds (fun k => spec_has.mono _ _ k) (show 201 ≤ k by omega) h1, h2⟩
    refine ⟨bh && (decide ((f1.size : Int) = 1) && (!(decide (f1.toList = ([32] : List UInt8))) && b22)), fun k hk => ?_, fun h => ?_⟩
    · obtain ⟨k, rfl⟩ : ∃ m, k = m + 3 := ⟨k - 3, by omega⟩
      have r := r22 k (by omega)
      have rk := rh k (by omega)
      rw [tree_j1 (k + 1) D f0 f1 f2 n1 n2, if_neg n3, beq_eq_false_iff_ne.2 n4, spec_isExprTree.j1, if_neg (by decide)]
      rw [if_neg n5]
      rw [if_pos n6, hw]
      refine (congrArg (fun o => Option.bind o _) rk).trans ?_
      simp only [Option.bind_some]
      cases bh with
      | false => rw [if_neg (by decide)]; rfl
      | true =>
        rw [if_pos rfl]
        by_cases z : (f1.size : Int) = 1
        · rw [if_pos z]
          by_cases y : f1.toList = ([32] : List UInt8)
          · rw [if_pos y, decide_eq_true y]; simp
          · rw [if_neg y, decide_eq_false y, decide_eq_true z]
            refine (congrArg (fun o => Option.bind o fun t => some t) r).trans ?_
            simp
        · rw [if_neg z, decide_eq_false z]; rfl
    · simp only [Bool.and_eq_true, decide_eq_true_eq, Bool.not_eq_true', decide_eq_false_iff_not] at h
      obtain ⟨h0, hz, hy, hb⟩ := h
      obtain ⟨h1, h2, h3⟩ := g22 hb
      exact ⟨⟨.inr (.inr (.inr (.inr (.inr (.inl ⟨(list_is _ _).1 n6, bi_text (p := f1) (by omega) hy (gh h0), by show f2.length = 2; omega⟩))))), .inr (kids h3)⟩, deep h3⟩
  by_cases n7 : f0.toList = ([105, 110, 100, 101, 120] : List UInt8)
  · refine ⟨b22, fun k hk => ?_, fun h => ?_⟩
    · obtain ⟨k, rfl⟩ : ∃ m, k = m + 3 := ⟨k - 3, by omega⟩
      have r := r22 k (by omega)
      rw [tree_j1 (k + 1) D f0 f1 f2 n1 n2, if_neg n3, beq_eq_false_iff_ne.2 n4, spec_isExprTree.j1, if_neg (by decide), if_neg n5, if_neg n6, if_pos n7, hw]
      refine (congrArg (fun o => Option.bind o fun t => some t) r).trans rfl
    · obtain ⟨h1, h2, h3⟩ := g22 h
      exact ⟨⟨.inr (.inr (.inr (.inr (.inr (.inr (.inl ⟨(list_is _ _).1 n7, by show f2.length = 2; omega⟩)))))), .inr (kids h3)⟩, deep h3⟩
  by_cases n8 : f0.toList = ([99, 97, 108, 108] : List UInt8)
  · refine ⟨b1n, fun k hk => ?_, fun h => ?_⟩
    · obtain ⟨k, rfl⟩ : ∃ m, k = m + 3 := ⟨k - 3, by omega⟩
      have r := r1n k (by omega)
      rw [tree_j1 (k + 1) D f0 f1 f2 n1 n2, if_neg n3, beq_eq_false_iff_ne.2 n4, spec_isExprTree.j1, if_neg (by decide), if_neg n5, if_neg n6, if_neg n7, if_pos n8, hw]
      refine (congrArg (fun o => Option.bind o fun t => some t) r).trans rfl
    · obtain ⟨h1, h2, h3⟩ := g1n h
      exact ⟨⟨.inr (.inr (.inr (.inr (.inr (.inr (.inr ⟨(list_is _ _).1 n8, by show 1 ≤ f2.length; omega, by show f2.length ≤ 1000000; omega⟩)))))), .inr (kids h3)⟩, deep h3⟩
  · refine ⟨false, fun k hk => ?_, fun h => by cases h⟩
    obtain ⟨k, rfl⟩ : ∃ m, k = m + 3 := ⟨k - 3, by omega⟩
    rw [tree_j1 (k + 1) D f0 f1 f2 n1 n2, if_neg n3, beq_eq_false_iff_ne.2 n4, spec_isExprTree.j1, if_neg (by decide), if_neg n5, if_neg n6, if_neg n7, if_neg n8]
end Go.Proofs.YtdcaabjkklppjaaGreatFmt.A
/- spec.IsExprTree: it ends; where it is true the tree is good, deep, small. -/
namespace Go.Proofs.YtdcaabjkklppjaaGreatFmt.A
open Go.RowKit Go.Proofs.YtdcaabjkklppjaaGreatFmtW.PrintWords Go.Proofs.YtdcaabjkklppjaaGreatFmtW.PrintLast Go.Proofs.YtdcaabjkklppjaaGreatFmtW.PrintMore
set_option linter.unusedVariables false
set_option linter.unusedSimpArgs false

theorem tree_all (D : Nat) : D ≤ 100 → ∃ K, K ≤ D * 2300 + 1 ∧ Told D K := by
  induction D with
  | zero => exact fun _ => ⟨1, by omega, fun x hS _ => hS.elim⟩
  | succ D ih =>
    intro hD
    obtain ⟨K, hK, h⟩ := ih (by omega)
    exact ⟨K + 2300, by omega, tree_told D K (by omega) h⟩

theorem fits_some (a0 a1 : ByteArray) (l2 : List S24) : ∃ z, laws_zzFits10.f a0 a1 l2 = some z := by
  unfold laws_zzFits10.f
  split
  · exact ⟨_, rfl⟩
  · split
    · exact ⟨_, rfl⟩
    · split <;> exact ⟨_, rfl⟩
/-- What IsExprTree says. -/
theorem isTree (a0 a1 : ByteArray) (l2 : List S24) (hT : TextOk 12 ⟨a0, a1, l2⟩) : ∃ b, (∀ k, 100000 ≤ k → spec_IsExprTree.f k a0 a1 l2 = some b) ∧ (b = true → Good tokS 12 ⟨a0, a1, l2⟩ ∧ Deep 12 ⟨a0, a1, l2⟩ ∧ cnt 12 ⟨a0, a1, l2⟩ ≤ 16000) := by
  obtain ⟨K, hK, told⟩ := tree_all 12 (by decide)
  obtain ⟨r, hr, _, _⟩ := few_total 12 (by decide) ⟨a0, a1, l2⟩ 2000 100000 (by decide) (by decide) (by omega)
  by_cases c : r ≥ 0
  · obtain ⟨hS, hn⟩ := few_small 12 (by decide) ⟨a0, a1, l2⟩ 2000 r 100000 (by decide) (by decide) hr c
    obtain ⟨b, hb, hg⟩ := told _ hS hT
    refine ⟨b, fun k hk => ?_, fun h => ⟨(hg h).1, (hg h).2, ?_⟩⟩
    · obtain ⟨r', hr', _, _⟩ := few_total 12 (by decide) ⟨a0, a1, l2⟩ 2000 k (by decide) (by decide) (by omega)
      have hm : spec_fewNodes.f k a0 a1 l2 12 2000 = some r := at_rounds (fun k => spec_fewNodes.mono a0 a1 l2 12 2000 k) hk hr
      have hb' : spec_isExprTree.f k a0 a1 l2 12 = some b := hb k (by omega)
      unfold spec_IsExprTree.f
      rw [hm]
      simp only [Option.bind_some]
      rw [if_pos c, hb']
      cases b <;> rfl
    · have := cnt_num 12 ⟨a0, a1, l2⟩
      omega
  · refine ⟨false, fun k hk => ?_, fun h => by cases h⟩
    have hm : spec_fewNodes.f k a0 a1 l2 12 2000 = some r := at_rounds (fun k => spec_fewNodes.mono a0 a1 l2 12 2000 k) hk hr
    unfold spec_IsExprTree.f
    rw [hm]
    simp only [Option.bind_some]
    rw [if_neg c]
end Go.Proofs.YtdcaabjkklppjaaGreatFmt.A
