import Derived.Test.YtdmeackaiamkcaaA7
import Derived.Test.YtdmeackaiamkcaaPureFnSorted
namespace Go.Proofs.Ytdmeackaiamkcaa.A
open Go.RowKit Go.Proofs.YtdmeackaiamkcaaW.PrintWords Go.Proofs.YtdmeackaiamkcaaW.PrintLast Go.Proofs.YtdmeackaiamkcaaW.PrintMore
set_option linter.unusedVariables false

/-! ### Legal faults -/
theorem legal_l0 (l : List S26) (hl : l.length ≤ maxLen) (d : Nat) : ∀ (k : Nat) (i : Int), 0 ≤ i → i ≤ (l.length : Int) → (l.length : Int) - i = d → d + l.length + 1 < k →
    (∀ x ∈ l.take i.toNat, 1 ≤ x.f1) → ∃ b, laws_legal9.l0 k l l (l.length : Int) i = some b ∧ (b = true → Few l ∧ ∀ x ∈ l, 1 ≤ x.f1) := by
  induction d with
  | zero =>
    intro k i h0 h1 hd hk hall
    obtain ⟨k, rfl⟩ : ∃ m, k = m + 1 := ⟨k - 1, by omega⟩
    rw [List.take_of_length_le (by omega)] at hall
    obtain ⟨b, hb, h⟩ := few_any l hl
    refine ⟨b, by simp only [laws_legal9.l0]; rw [if_neg (by omega), hb k (by omega)]; rfl, fun e => ⟨h e, hall⟩⟩
  | succ d ih =>
    intro k i h0 h1 hd hk hall
    obtain ⟨k, rfl⟩ : ∃ m, k = m + 1 := ⟨k - 1, by omega⟩
    simp only [laws_legal9.l0]
    rw [if_pos (by omega), if_pos h0, if_pos (by omega)]
    split
    · exact ⟨false, rfl, fun h => by cases h⟩
    · rw [wrap_next h0 (by omega) hl]
      refine ih k (i + 1) (by omega) (by omega) (by omega) (by omega) ?_
      intro x hx
      have e : (i + 1).toNat = i.toNat + 1 := by omega
      rw [e, List.take_succ_eq_append_getElem (by omega)] at hx
      rcases List.mem_append.1 hx with hx | hx
      · exact hall x hx
      · have hx := List.mem_singleton.1 hx
        rw [hx, ← rd26_at h0 (by omega)]
        omega

theorem legal_any (l : List S26) (hl : l.length ≤ maxLen) : ∃ b, (∀ k, l.length + l.length + 2 ≤ k → laws_legal9.f k l = some b) ∧ (b = true → Few l ∧ ∀ x ∈ l, 1 ≤ x.f1) := by
  obtain ⟨b, hb, h⟩ := legal_l0 l hl l.length (l.length + l.length + 2) 0 (by omega) (by omega) (by omega) (by omega) (fun x hx => by simp at hx)
  exact ⟨b, fun k hk => at_rounds (fun k => laws_legal9.mono_l k _ _ _ _) hk hb, h⟩

/-! ### The order, and lines of files -/
/-- x stands ahead of y, or in no order with it. -/
def Rle (x y : S26) : Prop := lessB y x = false
/-- Of the same line of the same file. -/
def Kq (x y : S26) : Prop := x.f0.toList = y.f0.toList ∧ x.f1 = y.f1
instance (x y : S26) : Decidable (Kq x y) := inferInstanceAs (Decidable (_ ∧ _))

theorem Kq.symm {x y : S26} (h : Kq x y) : Kq y x := ⟨h.1.symm, h.2.symm⟩
theorem Kq.trans {x y z : S26} (h : Kq x y) (g : Kq y z) : Kq x z := ⟨h.1.trans g.1, h.2.trans g.2⟩

theorem Rle.col {x y : S26} (h : Rle x y) (k : Kq x y) : x.f2 ≤ y.f2 := by
  unfold Rle lessB at h
  rw [if_pos k.1.symm, if_pos k.2.symm] at h
  by_cases e : y.f2 = x.f2
  · omega
  · rw [if_neg e] at h
    have := of_decide_eq_false h
    omega

theorem Rle.between {v x z : S26} (h1 : Rle v x) (h2 : Rle x z) (k : Kq v z) : Kq v x := by
  unfold Rle lessB at h1 h2
  obtain ⟨k0, k1⟩ := k
  by_cases e0 : x.f0.toList = v.f0.toList
  · rw [if_pos e0] at h1
    rw [if_pos (by rw [← k0, e0])] at h2
    by_cases e1 : x.f1 = v.f1
    · exact ⟨e0.symm, e1.symm⟩
    · rw [if_neg e1] at h1
      rw [if_neg (by omega)] at h2
      have a1 := of_decide_eq_false h1
      have a2 := of_decide_eq_false h2
      omega
  · rw [if_neg e0] at h1
    rw [if_neg (by rw [← k0]; exact Ne.symm e0), ← k0] at h2
    exact absurd (sto_bytes.tri _ _ h1 h2) e0

theorem sortedBy_pairwise (l : List S26) : (sortedBy l).Pairwise Rle := by
  rw [List.pairwise_iff_getElem]
  intro i j hi hj hij
  have h := sortedBy_le l i j hij (by rw [sortedBy_length] at hj; exact hj)
  rw [rd26 hj, rd26 hi] at h
  exact h

/-! ### The errors without multiples -/
theorem sg_sublist (f : ByteArray) (n : Int) (l : List S26) : (sg f n l).Sublist l := by
  induction l generalizing f n with
  | nil => exact List.Sublist.refl _
  | cons x xs ih =>
    rw [sg]
    split
    · exact (ih f n).cons x
    · exact (ih x.f0 x.f1).cons_cons x

theorem sg_none (v f : S26) (s : List S26) (h : (v :: s).Pairwise Rle) (k : Kq v f) : ∀ o ∈ sg v.f0 v.f1 s, ¬ Kq o f := by
  induction s generalizing v with
  | nil => intro o ho; simp [sg] at ho
  | cons x xs ih =>
    rw [List.pairwise_cons] at h
    obtain ⟨h1, h2⟩ := h
    rw [sg]
    split
    · exact ih v (List.pairwise_cons.2 ⟨fun a ha => h1 a (List.mem_cons_of_mem _ ha), (List.pairwise_cons.1 h2).2⟩) k
    · rename_i hne
      intro o ho ko
      have hvo : Kq v o := k.trans ko.symm
      rcases List.mem_cons.1 ho with rfl | ho
      · exact hne ⟨hvo.1.symm, hvo.2.symm⟩
      · have hm := (sg_sublist _ _ _).subset ho
        have := (h1 x (List.mem_cons_self)).between ((List.pairwise_cons.1 h2).1 o hm) hvo
        exact hne ⟨this.1.symm, this.2.symm⟩

theorem sg_one (v f : S26) (s : List S26) (h : (v :: s).Pairwise Rle) (k : ¬ Kq v f) (hy : ∃ y ∈ s, Kq y f) :
    (sg v.f0 v.f1 s).countP (fun o => decide (Kq o f)) = 1 ∧ ∀ o ∈ sg v.f0 v.f1 s, Kq o f → ∀ y ∈ s, Kq y f → o.f2 ≤ y.f2 := by
  induction s generalizing v with
  | nil => obtain ⟨y, hy, _⟩ := hy; simp at hy
  | cons x xs ih =>
    obtain ⟨h1, h2⟩ := List.pairwise_cons.1 h
    obtain ⟨y, hm, ky⟩ := hy
    rw [sg]
    split
    · rename_i he
      have hxv : Kq v x := ⟨he.1.symm, he.2.symm⟩
      have hxf : ¬ Kq x f := fun g => k (hxv.trans g)
      have hm' : y ∈ xs := by
        rcases List.mem_cons.1 hm with rfl | hm
        · exact absurd ky hxf
        · exact hm
      obtain ⟨c, d⟩ := ih v (List.pairwise_cons.2 ⟨fun a ha => h1 a (List.mem_cons_of_mem _ ha), (List.pairwise_cons.1 h2).2⟩) k ⟨y, hm', ky⟩
      refine ⟨c, fun o ho ko z hz kz => ?_⟩
      rcases List.mem_cons.1 hz with rfl | hz
      · exact absurd kz hxf
      · exact d o ho ko z hz kz
    · by_cases hxf : Kq x f
      · have hn := sg_none x f xs h2 hxf
        refine ⟨?_, fun o ho ko z hz kz => ?_⟩
        · rw [List.countP_cons, List.countP_eq_zero.2 (fun o ho => by simpa using hn o ho)]
          simp [hxf]
        · rcases List.mem_cons.1 ho with rfl | ho
          · rcases List.mem_cons.1 hz with rfl | hz
            · exact Int.le_refl _
            · exact ((List.pairwise_cons.1 h2).1 z hz).col (hxf.trans kz.symm)
          · exact absurd ko (hn o ho)
      · have hm' : y ∈ xs := by
          rcases List.mem_cons.1 hm with rfl | hm
          · exact absurd ky hxf
          · exact hm
        obtain ⟨c, d⟩ := ih x h2 hxf ⟨y, hm', ky⟩
        refine ⟨?_, fun o ho ko z hz kz => ?_⟩
        · rw [List.countP_cons, c]
          simp [hxf]
        · rcases List.mem_cons.1 ho with rfl | ho
          · exact absurd ko hxf
          · rcases List.mem_cons.1 hz with rfl | hz
            · exact absurd kz hxf
            · exact d o ho ko z hz kz

/-- The position ahead of all legal ones. -/
def first26 : S26 := ⟨⟨#[]⟩, 0, -1, ⟨#[]⟩⟩

theorem first_le {y : S26} (h : 1 ≤ y.f1) : Rle first26 y ∧ ¬ Kq first26 y := by
  refine ⟨?_, fun g => ?_⟩
  · unfold Rle lessB first26
    by_cases e : y.f0.toList = (⟨#[]⟩ : ByteArray).toList
    · rw [if_pos e, if_neg (by show ¬ y.f1 = 0; omega)]
      exact decide_eq_false (by show ¬ y.f1 < 0; omega)
    · rw [if_neg e]
      have e0 : ({ data := #[] } : ByteArray).toList = [] := by unfold ByteArray.toList ByteArray.toList.loop; rfl
      simp only [e0]
      cases y.f0.toList <;> rfl
  · have := g.2
    have e : (first26).f1 = 0 := rfl
    omega

theorem singles_facts (l : List S26) (h1 : ∀ x ∈ l, 1 ≤ x.f1) (f : S26) (hf : f ∈ l) :
    (sg ⟨#[]⟩ 0 (sortedBy l)).countP (fun o => decide (Kq o f)) = 1 ∧ ∀ o ∈ sg ⟨#[]⟩ 0 (sortedBy l), Kq o f → o.f2 ≤ f.f2 := by
  have hp := sortedBy_perm l
  have hm : f ∈ sortedBy l := hp.mem_iff.2 hf
  obtain ⟨c, d⟩ := sg_one first26 f (sortedBy l) (List.pairwise_cons.2 ⟨fun y hy => (first_le (h1 y (hp.mem_iff.1 hy))).1, sortedBy_pairwise l⟩) (first_le (h1 f hf)).2 ⟨f, hm, rfl, rfl⟩
  exact ⟨c, fun o ho ko => d o ho ko f hm ⟨rfl, rfl⟩⟩

theorem pairwise_ordered {g : List S26} (h : g.Pairwise Rle) : Ordered g := fun i hi => by
  rw [rd26 hi, rd26 (by omega)]
  exact pos_of_less ((List.pairwise_iff_getElem.1 h) i (i + 1) (by omega) hi (by omega))

theorem sg_pairwise (l : List S26) (f : ByteArray) (n : Int) : (sg f n (sortedBy l)).Pairwise Rle := (sortedBy_pairwise l).sublist (sg_sublist _ _ _)
end Go.Proofs.Ytdmeackaiamkcaa.A
