import Derived.Test.YtdmeackaiamkcaaA5
import Derived.Test.YtdmeackaiamkcaaPure
namespace Go.Proofs.Ytdmeackaiamkcaa.A
open Go.RowKit Go.Proofs.YtdmeackaiamkcaaW.PrintWords Go.Proofs.YtdmeackaiamkcaaW.PrintLast Go.Proofs.YtdmeackaiamkcaaW.PrintMore
set_option linter.unusedVariables false

/-- Two faults with the same fields. -/
def eqF (f x : S26) : Bool := (x.f0.toList == f.f0.toList) && ((x.f1 == f.f1) && ((x.f2 == f.f2) && (x.f3.toList == f.f3.toList)))

theorem times_l0 (f : S26) (l : List S26) (hl : l.length ≤ maxLen) (d : Nat) : ∀ (k : Nat) (a i : Int), 0 ≤ i → i ≤ (l.length : Int) → (l.length : Int) - i = d → d < k → a = ((l.take i.toNat).countP (eqF f) : Nat) →
    laws_times9.l0 k a l (l.length : Int) i f.f0 f.f1 f.f2 f.f3 = some (l.countP (eqF f) : Int) := by
  induction d with
  | zero =>
    intro k a i h0 h1 hd hk ha
    obtain ⟨k, rfl⟩ : ∃ m, k = m + 1 := ⟨k - 1, by omega⟩
    rw [List.take_of_length_le (by omega)] at ha
    simp only [laws_times9.l0]
    rw [if_neg (by omega), ha]
  | succ d ih =>
    intro k a i h0 h1 hd hk ha
    obtain ⟨k, rfl⟩ : ∃ m, k = m + 1 := ⟨k - 1, by omega⟩
    simp only [laws_times9.l0]
    rw [if_pos (by omega), if_pos h0, if_pos (by omega), wrap_next h0 (by omega) hl]
    have e : (i + 1).toNat = i.toNat + 1 := by omega
    have hle : (l.take i.toNat).countP (eqF f) < l.length := Nat.lt_of_le_of_lt List.countP_le_length (by simp; omega)
    have hw : wrap64 (a + 1) = a + 1 := by rw [ha]; exact wrap_next (by omega) (show ((List.countP (eqF f) (l.take i.toNat) : Nat) : Int) < ((l.length : Nat) : Int) by omega) hl
    have hc : (l.take (i + 1).toNat).countP (eqF f) = (l.take i.toNat).countP (eqF f) + (if eqF f (rd_T26 l i) = true then 1 else 0) := by
      rw [e, List.take_succ_eq_append_getElem (by omega), List.countP_append, ← rd26_at h0 (by omega)]
      simp [List.countP_cons]
    split
    · rename_i ht
      rw [hw]
      refine ih k _ _ (by omega) (by omega) (by omega) (by omega) ?_
      rw [hc, if_pos (by exact ht), ha]
      simp
    · rename_i ht
      refine ih k _ _ (by omega) (by omega) (by omega) (by omega) ?_
      rw [hc, if_neg (by exact ht), ha]
      simp

theorem times_any (f : S26) (l : List S26) (hl : l.length ≤ maxLen) (k : Nat) (hk : l.length < k) : laws_times9.f k l f.f0 f.f1 f.f2 f.f3 = some (l.countP (eqF f) : Int) := by
  unfold laws_times9.f
  exact times_l0 f l hl l.length k 0 0 (by omega) (by omega) (by omega) hk (by simp)

theorem fAt_range (l : List S26) : (List.range l.length).map (fAt l) = l := by
  apply List.ext_getElem
  · simp
  · intro i h1 h2
    simp only [List.getElem_map, List.getElem_range]
    unfold fAt
    rw [Nat.mod_eq_of_lt h2, rd26 h2]

theorem sortedBy_perm (l : List S26) : (sortedBy l).Perm l := by
  unfold sortedBy
  split
  · exact List.Perm.refl _
  · have h := (ordOf_perm l).1.2.2
    have e1 : (ordOf l).extract 0 l.length = ordOf l := by rw [Array.extract_eq_self_of_le (by rw [ordOf_size]; omega)]
    have e2 : ((List.range l.length).toArray).extract 0 l.length = (List.range l.length).toArray := by rw [Array.extract_eq_self_of_le (by simp)]
    rw [e1, e2] at h
    have := h.map (fAt l)
    rw [fAt_range] at this
    exact this

theorem sortedBy_le (l : List S26) (i j : Nat) (hij : i < j) (hj : j < l.length) : lessB (rd_T26 (sortedBy l) (j : Int)) (rd_T26 (sortedBy l) (i : Int)) = false := by
  have hl : (sortedBy l).length = l.length := sortedBy_length l
  rw [rd26 (by omega), rd26 (by omega)]
  have hs : sortedBy l = (ordOf l).toList.map (fAt l) := by unfold sortedBy; rw [if_neg (by omega)]
  have h := (ordOf_perm l).2 i j (Nat.zero_le _) hij hj
  have hsz := ordOf_size l
  rw [getElem!_pos _ j (by omega), getElem!_pos _ i (by omega)] at h
  have e : ∀ t (h : t < (sortedBy l).length), (sortedBy l)[t] = fAt l ((ordOf l)[t]'(by omega)) := by
    intro t ht
    simp only [hs, List.getElem_map, Array.getElem_toList]
  rw [e, e]
  exact h

/-- In order by positions. -/
def Ordered (l : List S26) : Prop := ∀ i : Nat, i + 1 < l.length → posB (rd_T26 l ((i + 1 : Nat) : Int)) (rd_T26 l (i : Int)) = false

theorem pos_of_less {x y : S26} (h : lessB x y = false) : posB x y = false := by
  by_cases hs : x.f0.toList = y.f0.toList ∧ x.f1 = y.f1 ∧ x.f2 = y.f2
  · exact pos_same hs
  · rw [← less_pos hs]
    exact h

theorem sortedBy_ordered (l : List S26) : Ordered (sortedBy l) := fun i hi => pos_of_less (sortedBy_le l i (i + 1) (by omega) (by rw [sortedBy_length] at hi; exact hi))

theorem isSorted_l0 (l : List S26) (hl : l.length ≤ maxLen) (ho : Ordered l) (d : Nat) : ∀ (k : Nat) (i : Int), 1 ≤ i → (l.length : Int) ≤ i + d → d < k → laws_isSorted9.l0 k l i = some true := by
  induction d with
  | zero =>
    intro k i h0 hd hk
    obtain ⟨k, rfl⟩ : ∃ m, k = m + 1 := ⟨k - 1, by omega⟩
    simp only [laws_isSorted9.l0]
    rw [if_neg (by omega)]
  | succ d ih =>
    intro k i h0 hd hk
    obtain ⟨k, rfl⟩ : ∃ m, k = m + 1 := ⟨k - 1, by omega⟩
    simp only [laws_isSorted9.l0]
    by_cases hi : i < (l.length : Int)
    · have hw : wrap64 (i - 1) = i - 1 := by unfold maxLen at hl; unfold wrap64; omega
      rw [if_pos hi, if_pos (by omega), hw, if_pos (by omega), if_pos (by omega), before_pos, wrap_next (by omega) hi hl]
      obtain ⟨j, rfl⟩ : ∃ j : Nat, i = ((j + 1 : Nat) : Int) := ⟨(i - 1).toNat, by omega⟩
      have e : ((j + 1 : Nat) : Int) - 1 = (j : Int) := by omega
      rw [e, ho j (by omega)]
      simp only [Option.bind_some]
      rw [if_neg (by decide)]
      exact ih k _ (by omega) (by omega) (by omega)
    · rw [if_neg hi]

theorem isSorted_any (l : List S26) (hl : l.length ≤ maxLen) (ho : Ordered l) (k : Nat) (hk : l.length < k) : laws_isSorted9.f k l = some true := by
  unfold laws_isSorted9.f
  exact isSorted_l0 l hl ho l.length k 1 (by omega) (by omega) hk

theorem sorted_l0 (l g : List S26) (hl : l.length ≤ maxLen) (hg : g.Perm l) (ho : Ordered g) (d : Nat) : ∀ (k : Nat) (i : Int), 0 ≤ i → i ≤ (l.length : Int) → (l.length : Int) - i = d → d + l.length + 1 < k → laws_FnSorted.l0 k l g l (l.length : Int) i = some true := by
  have hgl : g.length = l.length := hg.length_eq
  induction d with
  | zero =>
    intro k i h0 h1 hd hk
    obtain ⟨k, rfl⟩ : ∃ m, k = m + 1 := ⟨k - 1, by omega⟩
    simp only [laws_FnSorted.l0]
    rw [if_neg (by omega), if_pos (by omega), isSorted_any g (by omega) ho k (by omega)]
    rfl
  | succ d ih =>
    intro k i h0 h1 hd hk
    obtain ⟨k, rfl⟩ : ∃ m, k = m + 1 := ⟨k - 1, by omega⟩
    simp only [laws_FnSorted.l0]
    rw [if_pos (by omega), if_pos h0, if_pos (by omega), times_any (rd_T26 l i) g (by omega) k (by omega), times_any (rd_T26 l i) l hl k (by omega), wrap_next h0 (by omega) hl]
    simp only [Option.bind_some]
    rw [if_pos (by rw [hg.countP_eq])]
    exact ih k (i + 1) (by omega) (by omega) (by omega) (by omega)

theorem pure_FnSorted (l0 : List S26) (hl : l0.length ≤ maxLen) (_ : l0.length * 48 ≤ 140737488351232) (_ : ∀ x ∈ l0, ok26 x) : ∃ k, laws_FnSorted.f k l0 = some true := by
  obtain ⟨b, hb⟩ := zz4_any l0 hl
  obtain ⟨c, hc, hfew⟩ := few_any l0 hl
  refine ⟨l0.length + l0.length + 2, ?_⟩
  unfold laws_FnSorted.f
  rw [hb _ (by omega), hc _ (by omega)]
  simp only [Option.bind_some]
  cases b with
  | false => rfl
  | true =>
    rw [if_pos rfl]
    cases c with
    | false => rfl
    | true =>
      have h50 := (hfew rfl).1
      have h1 : impl_Sorted.f l0 = some (sortedBy l0) := by unfold impl_Sorted.f; rw [if_pos h50]
      rw [if_pos rfl, h1]
      simp only [Option.bind_some]
      exact sorted_l0 l0 _ hl (sortedBy_perm l0) (sortedBy_ordered l0) l0.length _ 0 (by omega) (by omega) (by omega) (by omega)
end Go.Proofs.Ytdmeackaiamkcaa.A
