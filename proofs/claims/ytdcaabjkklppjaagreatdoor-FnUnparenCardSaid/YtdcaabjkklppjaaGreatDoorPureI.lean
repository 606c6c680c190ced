/- spec.isExprTree at trees with short lists: it ends, and where it is true the tree is good. -/
import Derived.Test.YtdcaabjkklppjaaGreatDoorPureH
namespace Go.Proofs.YtdcaabjkklppjaaGreatDoor.A
open Go.RowKit Go.Proofs.YtdcaabjkklppjaaGreatDoorW.PrintWords Go.Proofs.YtdcaabjkklppjaaGreatDoorW.PrintLast Go.Proofs.YtdcaabjkklppjaaGreatDoorW.PrintMore
set_option linter.unusedVariables false
set_option linter.unusedSimpArgs false

/-- The steps ahead of the kinds with nodes below them. -/
theorem tree_j1 (k D : Nat) (f0 f1 : ByteArray) (f2 : List S24) (h1 : ¬ f0.toList = ([110, 97, 109, 101] : List UInt8)) (h2 : ¬ f0.toList = ([105, 110, 116] : List UInt8)) :
    spec_isExprTree.f (k + 2) f0 f1 f2 ((D + 1 : Nat) : Int) = if f0.toList = ([112, 97, 114, 101, 110] : List UInt8) then spec_isExprTree.j1 k ((D + 1 : Nat) : Int) f0 (f0.toList == ([112, 97, 114, 101, 110] : List UInt8)) f0 f1 f2 else spec_isExprTree.j1 k ((D + 1 : Nat) : Int) f0 (f0.toList == ([115, 101, 108, 101, 99, 116, 111, 114] : List UInt8)) f0 f1 f2 := by
  have e2 : (f0.toList == ([105, 110, 116] : List UInt8)) = false := beq_eq_false_iff_ne.2 h2
  rw [spec_isExprTree.f, if_neg (by omega), if_neg h1, e2, spec_isExprTree.j0, if_neg (by decide)]

theorem tree_told (D K : Nat) (hD : D ≤ 1000) (IH : Told D K) : Told (D + 1) (K + 2300) := by
  intro x hS hT
  obtain ⟨f0, f1, f2⟩ := x
  obtain ⟨hl, hkS⟩ := hS
  obtain ⟨hf1, hkT⟩ := hT
  have hl : f2.length ≤ 2000 := hl
  have hf1 : f1.size ≤ 9223372036854775807 := hf1
  have hw : wrap64 (((D + 1 : Nat) : Int) - 1) = (D : Int) := by unfold wrap64; omega
  have are := fun a1 a2 => are_l0 D K IH f2 hl hkS hkT a1 a2 f2.length 0 (by omega) (Nat.zero_le _)
  have leaf : ∀ (b9 : Bool) (k : Nat), b9 = true → spec_isExprTree.j0 (k + 1) ((D + 1 : Nat) : Int) f0 b9 f0 f1 f2 = some (if f1.toList = ([] : List UInt8) then false else ((f2.length : Int) == 0)) := by
    intro b9 k hb
    subst hb
    rw [spec_isExprTree.j0, if_pos rfl]
    split <;> rfl
  by_cases n1 : f0.toList = ([110, 97, 109, 101] : List UInt8)
  · refine ⟨if f1.toList = ([] : List UInt8) then false else ((f2.length : Int) == 0), fun k hk => ?_, fun _ => ⟨.inl ((list_is _ _).1 n1), .inl (.inl ((list_is _ _).1 n1))⟩⟩
    obtain ⟨k, rfl⟩ : ∃ m, k = m + 2 := ⟨k - 2, by omega⟩
    rw [spec_isExprTree.f, if_neg (by omega), if_pos n1]
    exact leaf _ k (beq_iff_eq.2 n1)
  by_cases n2 : f0.toList = ([105, 110, 116] : List UInt8)
  · refine ⟨if f1.toList = ([] : List UInt8) then false else ((f2.length : Int) == 0), fun k hk => ?_, fun _ => ⟨.inr (.inl ((list_is _ _).1 n2)), .inl (.inr ((list_is _ _).1 n2))⟩⟩
    obtain ⟨k, rfl⟩ : ∃ m, k = m + 2 := ⟨k - 2, by omega⟩
    rw [spec_isExprTree.f, if_neg (by omega), if_neg n1]
    exact leaf _ k (beq_iff_eq.2 n2)
  have kids : (∀ j : Nat, 0 ≤ j → j < f2.length → Good tokS D (rd_T24 f2 (j : Int))) → ∀ i : Nat, i < f2.length → Good tokS D (rd_T24 f2 (i : Int)) := fun h i hi => h i (Nat.zero_le _) hi
  obtain ⟨b11, r11, g11⟩ := are 1 1
  obtain ⟨b22, r22, g22⟩ := are 2 2
  obtain ⟨b1n, r1n, g1n⟩ := are 1 20
  by_cases n3 : f0.toList = ([112, 97, 114, 101, 110] : List UInt8)
  · refine ⟨b11, fun k hk => ?_, fun h => ?_⟩
    · obtain ⟨k, rfl⟩ : ∃ m, k = m + 3 := ⟨k - 3, by omega⟩
      have r := r11 k (by omega)
      have e := beq_iff_eq.2 n3
      rw [tree_j1 (k + 1) D f0 f1 f2 n1 n2, if_pos n3, e, spec_isExprTree.j1, if_pos rfl, hw]
      refine (congrArg (fun o => Option.bind o fun t => some t) r).trans rfl
    · obtain ⟨h1, h2, h3⟩ := g11 h
      exact ⟨.inr (.inr (.inl ⟨(list_is _ _).1 n3, by show f2.length = 1; omega⟩)), .inr (kids h3)⟩
  by_cases n4 : f0.toList = ([115, 101, 108, 101, 99, 116, 111, 114] : List UInt8)
  · refine ⟨b11, fun k hk => ?_, fun h => ?_⟩
    · obtain ⟨k, rfl⟩ : ∃ m, k = m + 3 := ⟨k - 3, by omega⟩
      have r := r11 k (by omega)
      have e := beq_iff_eq.2 n4
      rw [tree_j1 (k + 1) D f0 f1 f2 n1 n2, if_neg n3, e, spec_isExprTree.j1, if_pos rfl, hw]
      refine (congrArg (fun o => Option.bind o fun t => some t) r).trans rfl
    · obtain ⟨h1, h2, h3⟩ := g11 h
      exact ⟨.inr (.inr (.inr (.inl ⟨(list_is _ _).1 n4, by show f2.length = 1; omega⟩))), .inr (kids h3)⟩
  by_cases n5 : f0.toList = ([117, 110, 97, 114, 121] : List UInt8)
  · obtain ⟨bh, rh, gh⟩ : ∃ bh, (∀ k, 200 < k → spec_has.f k unL f1 = some bh) ∧ (bh = true → ∃ t : Nat, t + f1.size ≤ unL.size ∧ (unL.extract t (t + f1.size)).toList = f1.toList) := by
      obtain ⟨b, h1, h2⟩ := has_short unL f1 (by decide) hf1 201 (by decide)
      exact ⟨b, fun k hk => at_rounds (fun k => spec_has.mono _ _ k) (show 201 ≤ k by omega) h1, h2⟩
    refine ⟨bh && (decide ((f1.size : Int) = 1) && (!(decide (f1.toList = ([32] : List UInt8))) && b11)), fun k hk => ?_, fun h => ?_⟩
    · obtain ⟨k, rfl⟩ : ∃ m, k = m + 3 := ⟨k - 3, by omega⟩
      have r := r11 k (by omega)
      have rk := rh k (by omega)
      rw [tree_j1 (k + 1) D f0 f1 f2 n1 n2, if_neg n3, beq_eq_false_iff_ne.2 n4, spec_isExprTree.j1, if_neg (by decide)]
      skip
      rw [if_pos n5, hw]
      refine (congrArg (fun o => Option.bind o _) rk).trans ?_
      simp only [Option.bind_some]
      cases bh with
      | false => rw [if_neg (by decide)]; rfl
      | true =>
        rw [if_pos rfl]
        by_cases z : (f1.size : Int) = 1
        · rw [if_pos z]
          by_cases y : f1.toList = ([32] : List UInt8)
          · rw [if_pos y, decide_eq_true y]; simp
          · rw [if_neg y, decide_eq_false y, decide_eq_true z]
            refine (congrArg (fun o => Option.bind o fun t => some t) r).trans ?_
            simp
        · rw [if_neg z, decide_eq_false z]; rfl
    · simp only [Bool.and_eq_true, decide_eq_true_eq, Bool.not_eq_true', decide_eq_false_iff_not] at h
      obtain ⟨h0, hz, hy, hb⟩ := h
      obtain ⟨h1, h2, h3⟩ := g11 hb
      exact ⟨.inr (.inr (.inr (.inr (.inl ⟨(list_is _ _).1 n5, un_text (p := f1) (by omega) hy (gh h0), by show f2.length = 1; omega⟩)))), .inr (kids h3)⟩
  by_cases n6 : f0.toList = ([98, 105, 110, 97, 114, 121] : List UInt8)
  · obtain ⟨bh, rh, gh⟩ : ∃ bh, (∀ k, 200 < k → spec_has.f k biL f1 = some bh) ∧ (bh = true → ∃ t : Nat, t + f1.size ≤ biL.size ∧ (biL.extract t (t + f1.size)).toList = f1.toList) := by
      obtain ⟨b, h1, h2⟩ := has_short biL f1 (by decide) hf1 201 (by decide)
      exact ⟨b, fun k hk => at_rounds (fun k => spec_has.mono _ _ k) (show 201 ≤ k by omega) h1, h2⟩
    refine ⟨bh && (decide ((f1.size : Int) = 1) && (!(decide (f1.toList = ([32] : List UInt8))) && b22)), fun k hk => ?_, fun h => ?_⟩
    · obtain ⟨k, rfl⟩ : ∃ m, k = m + 3 := ⟨k - 3, by omega⟩
      have r := r22 k (by omega)
      have rk := rh k (by omega)
      rw [tree_j1 (k + 1) D f0 f1 f2 n1 n2, if_neg n3, beq_eq_false_iff_ne.2 n4, spec_isExprTree.j1, if_neg (by decide)]
      rw [if_neg n5]
      rw [if_pos n6, hw]
      refine (congrArg (fun o => Option.bind o _) rk).trans ?_
      simp only [Option.bind_some]
      cases bh with
      | false => rw [if_neg (by decide)]; rfl
      | true =>
        rw [if_pos rfl]
        by_cases z : (f1.size : Int) = 1
        · rw [if_pos z]
          by_cases y : f1.toList = ([32] : List UInt8)
          · rw [if_pos y, decide_eq_true y]; simp
          · rw [if_neg y, decide_eq_false y, decide_eq_true z]
            refine (congrArg (fun o => Option.bind o fun t => some t) r).trans ?_
            simp
        · rw [if_neg z, decide_eq_false z]; rfl
    · simp only [Bool.and_eq_true, decide_eq_true_eq, Bool.not_eq_true', decide_eq_false_iff_not] at h
      obtain ⟨h0, hz, hy, hb⟩ := h
      obtain ⟨h1, h2, h3⟩ := g22 hb
      exact ⟨.inr (.inr (.inr (.inr (.inr (.inl ⟨(list_is _ _).1 n6, bi_text (p := f1) (by omega) hy (gh h0), by show f2.length = 2; omega⟩))))), .inr (kids h3)⟩
  by_cases n7 : f0.toList = ([105, 110, 100, 101, 120] : List UInt8)
  · refine ⟨b22, fun k hk => ?_, fun h => ?_⟩
    · obtain ⟨k, rfl⟩ : ∃ m, k = m + 3 := ⟨k - 3, by omega⟩
      have r := r22 k (by omega)
      rw [tree_j1 (k + 1) D f0 f1 f2 n1 n2, if_neg n3, beq_eq_false_iff_ne.2 n4, spec_isExprTree.j1, if_neg (by decide), if_neg n5, if_neg n6, if_pos n7, hw]
      refine (congrArg (fun o => Option.bind o fun t => some t) r).trans rfl
    · obtain ⟨h1, h2, h3⟩ := g22 h
      exact ⟨.inr (.inr (.inr (.inr (.inr (.inr (.inl ⟨(list_is _ _).1 n7, by show f2.length = 2; omega⟩)))))), .inr (kids h3)⟩
  by_cases n8 : f0.toList = ([99, 97, 108, 108] : List UInt8)
  · refine ⟨b1n, fun k hk => ?_, fun h => ?_⟩
    · obtain ⟨k, rfl⟩ : ∃ m, k = m + 3 := ⟨k - 3, by omega⟩
      have r := r1n k (by omega)
      rw [tree_j1 (k + 1) D f0 f1 f2 n1 n2, if_neg n3, beq_eq_false_iff_ne.2 n4, spec_isExprTree.j1, if_neg (by decide), if_neg n5, if_neg n6, if_neg n7, if_pos n8, hw]
      refine (congrArg (fun o => Option.bind o fun t => some t) r).trans rfl
    · obtain ⟨h1, h2, h3⟩ := g1n h
      exact ⟨.inr (.inr (.inr (.inr (.inr (.inr (.inr ⟨(list_is _ _).1 n8, by show 1 ≤ f2.length; omega, by show f2.length ≤ 1000000; omega⟩)))))), .inr (kids h3)⟩
  · refine ⟨false, fun k hk => ?_, fun h => by cases h⟩
    obtain ⟨k, rfl⟩ : ∃ m, k = m + 3 := ⟨k - 3, by omega⟩
    rw [tree_j1 (k + 1) D f0 f1 f2 n1 n2, if_neg n3, beq_eq_false_iff_ne.2 n4, spec_isExprTree.j1, if_neg (by decide), if_neg n5, if_neg n6, if_neg n7, if_neg n8]
end Go.Proofs.YtdcaabjkklppjaaGreatDoor.A
