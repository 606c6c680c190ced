import Derived.Test.YtdmeackaiamkcaaPureSg
namespace Go.Proofs.Ytdmeackaiamkcaa.A
open Go.RowKit Go.Proofs.YtdmeackaiamkcaaW.PrintWords Go.Proofs.YtdmeackaiamkcaaW.PrintLast Go.Proofs.YtdmeackaiamkcaaW.PrintMore
set_option linter.unusedVariables false

/-- True from some number of rounds on. -/
def Ev (F : Nat → Option Bool) : Prop := ∃ K, ∀ k, K ≤ k → F k = some true

theorem single_l2 (l g : List S26) (hl : l.length ≤ maxLen) (hg : g.length ≤ maxLen) (ho : Ordered g) (hsub : ∀ o ∈ g, o ∈ l) (d : Nat) : ∀ (i : Int), 0 ≤ i → i ≤ (g.length : Int) → (g.length : Int) - i = d → Ev fun k => laws_FnSingles.l2 k l g g (g.length : Int) i := by
  induction d with
  | zero =>
    intro i h0 h1 hd
    refine ⟨g.length + 2, fun k hk => ?_⟩
    obtain ⟨k, rfl⟩ : ∃ m, k = m + 1 := ⟨k - 1, by omega⟩
    simp only [laws_FnSingles.l2]
    rw [if_neg (by omega), isSorted_any g hg ho k (by omega)]
    rfl
  | succ d ih =>
    intro i h0 h1 hd
    obtain ⟨K, hK⟩ := ih (i + 1) (by omega) (by omega) (by omega)
    refine ⟨K + l.length + 2, fun k hk => ?_⟩
    obtain ⟨k, rfl⟩ : ∃ m, k = m + 1 := ⟨k - 1, by omega⟩
    simp only [laws_FnSingles.l2]
    rw [if_pos (by omega), if_pos h0, if_pos (by omega), times_any (rd_T26 g i) l hl k (by omega), wrap_next h0 (by omega) hg]
    simp only [Option.bind_some]
    have hmem : rd_T26 g i ∈ l := by rw [rd26_at h0 (by omega)]; exact hsub _ (List.getElem_mem _)
    have hpos : 0 < l.countP (eqF (rd_T26 g i)) := List.countP_pos_iff.2 ⟨_, hmem, by simp [eqF]⟩
    rw [if_neg (by omega)]
    exact hK k (by omega)

theorem single_l1 (l g : List S26) (f : S26) (hg : g.length ≤ maxLen) (j n : Int) (hcol : ∀ o ∈ g, Kq o f → o.f2 ≤ f.f2) (hone : g.countP (fun o => decide (Kq o f)) = 1)
    (hnext : Ev fun k => laws_FnSingles.l0 k l g l n (wrap64 (j + 1))) (d : Nat) : ∀ (i a : Int), 0 ≤ i → i ≤ (g.length : Int) → (g.length : Int) - i = d → a = ((g.take i.toNat).countP (fun o => decide (Kq o f)) : Nat) →
    Ev fun k => laws_FnSingles.l1 k l g a l n j g (g.length : Int) i f.f0 f.f1 f.f2 f.f3 := by
  induction d with
  | zero =>
    intro i a h0 h1 hd ha
    obtain ⟨K, hK⟩ := hnext
    refine ⟨K + 1, fun k hk => ?_⟩
    obtain ⟨k, rfl⟩ : ∃ m, k = m + 1 := ⟨k - 1, by omega⟩
    rw [List.take_of_length_le (by omega), hone] at ha
    simp only [laws_FnSingles.l1]
    rw [if_neg (by omega), if_pos (by omega)]
    exact hK k (by omega)
  | succ d ih =>
    intro i a h0 h1 hd ha
    have e : (i + 1).toNat = i.toNat + 1 := by omega
    have hlt : (g.take i.toNat).countP (fun o => decide (Kq o f)) < g.length := Nat.lt_of_le_of_lt List.countP_le_length (by simp; omega)
    have hw : wrap64 (a + 1) = a + 1 := by rw [ha]; exact wrap_next (by omega) (show ((List.countP (fun o => decide (Kq o f)) (g.take i.toNat) : Nat) : Int) < ((g.length : Nat) : Int) by omega) hg
    have hmem : rd_T26 g i ∈ g := by rw [rd26_at h0 (by omega)]; exact List.getElem_mem _
    have hc : (g.take (i + 1).toNat).countP (fun o => decide (Kq o f)) = (g.take i.toNat).countP (fun o => decide (Kq o f)) + (if Kq (rd_T26 g i) f then 1 else 0) := by
      rw [e, List.take_succ_eq_append_getElem (by omega), List.countP_append, ← rd26_at h0 (by omega)]
      simp [List.countP_cons]
    by_cases hk : Kq (rd_T26 g i) f
    · obtain ⟨K, hK⟩ := ih (i + 1) (a + 1) (by omega) (by omega) (by omega) (by rw [hc, if_pos hk, ha]; simp)
      refine ⟨K + 2, fun k hkk => ?_⟩
      obtain ⟨k, rfl⟩ : ∃ m, k = m + 2 := ⟨k - 2, by omega⟩
      simp only [laws_FnSingles.l1, laws_FnSingles.j2]
      rw [if_pos (by omega), if_pos h0, if_pos (by omega), if_pos hk.1, if_pos (by simpa using hk.2), if_neg (by have := hcol _ hmem hk; omega), hw, wrap_next h0 (by omega) hg]
      exact hK k (by omega)
    · obtain ⟨K, hK⟩ := ih (i + 1) a (by omega) (by omega) (by omega) (by rw [hc, if_neg hk, ha]; simp)
      refine ⟨K + 2, fun k hkk => ?_⟩
      obtain ⟨k, rfl⟩ : ∃ m, k = m + 2 := ⟨k - 2, by omega⟩
      simp only [laws_FnSingles.l1, laws_FnSingles.j2]
      rw [if_pos (by omega), if_pos h0, if_pos (by omega), wrap_next h0 (by omega) hg]
      by_cases h0' : (rd_T26 g i).f0.toList = f.f0.toList
      · have h1' : ¬ (rd_T26 g i).f1 = f.f1 := fun q => hk ⟨h0', q⟩
        rw [if_pos h0', if_neg (by simpa using h1')]
        exact hK k (by omega)
      · rw [if_neg h0', if_neg (by decide)]
        exact hK k (by omega)

theorem single_l0 (l g : List S26) (hl : l.length ≤ maxLen) (hg : g.length ≤ maxLen) (ho : Ordered g) (hsub : ∀ o ∈ g, o ∈ l)
    (hf : ∀ f ∈ l, g.countP (fun o => decide (Kq o f)) = 1 ∧ ∀ o ∈ g, Kq o f → o.f2 ≤ f.f2) (d : Nat) : ∀ (i : Int), 0 ≤ i → i ≤ (l.length : Int) → (l.length : Int) - i = d → Ev fun k => laws_FnSingles.l0 k l g l (l.length : Int) i := by
  induction d with
  | zero =>
    intro i h0 h1 hd
    obtain ⟨K, hK⟩ := single_l2 l g hl hg ho hsub g.length 0 (by omega) (by omega) (by omega)
    refine ⟨K + 1, fun k hk => ?_⟩
    obtain ⟨k, rfl⟩ : ∃ m, k = m + 1 := ⟨k - 1, by omega⟩
    simp only [laws_FnSingles.l0]
    rw [if_neg (by omega)]
    exact hK k (by omega)
  | succ d ih =>
    intro i h0 h1 hd
    have hmem : rd_T26 l i ∈ l := by rw [rd26_at h0 (by omega)]; exact List.getElem_mem _
    obtain ⟨hone, hcol⟩ := hf _ hmem
    have hn := ih (i + 1) (by omega) (by omega) (by omega)
    rw [← wrap_next h0 (by omega) hl] at hn
    obtain ⟨K, hK⟩ := single_l1 l g (rd_T26 l i) hg i (l.length : Int) hcol hone hn g.length 0 0 (by omega) (by omega) (by omega) (by simp)
    refine ⟨K + 1, fun k hk => ?_⟩
    obtain ⟨k, rfl⟩ : ∃ m, k = m + 1 := ⟨k - 1, by omega⟩
    simp only [laws_FnSingles.l0]
    rw [if_pos (by omega), if_pos h0, if_pos (by omega)]
    exact hK k (by omega)

theorem pure_FnSingles (l0 : List S26) (hl : l0.length ≤ maxLen) (_ : l0.length * 48 ≤ 140737488351232) (_ : ∀ x ∈ l0, ok26 x) : ∃ k, laws_FnSingles.f k l0 = some true := by
  obtain ⟨b, hb⟩ := zz4_any l0 hl
  obtain ⟨c, hc, hleg⟩ := legal_any l0 hl
  by_cases hbc : b = true ∧ c = true
  · obtain ⟨rfl, rfl⟩ := hbc
    obtain ⟨⟨h50, _⟩, h1⟩ := hleg rfl
    have hs : impl_Singles.f l0 = some (sg ⟨#[]⟩ 0 (sortedBy l0)) := by unfold impl_Singles.f; rw [if_pos h50]
    have hgl : (sg ⟨#[]⟩ 0 (sortedBy l0)).length ≤ l0.length := by have := sg_length ⟨#[]⟩ 0 (sortedBy l0); rw [sortedBy_length] at this; exact this
    obtain ⟨K, hK⟩ := single_l0 l0 (sg ⟨#[]⟩ 0 (sortedBy l0)) hl (by omega) (pairwise_ordered (sg_pairwise l0 _ _)) (fun o ho => (sortedBy_perm l0).mem_iff.1 ((sg_sublist _ _ _).subset ho)) (fun f hf => singles_facts l0 h1 f hf) l0.length 0 (by omega) (by omega) (by omega)
    refine ⟨K + l0.length + l0.length + 2, ?_⟩
    unfold laws_FnSingles.f
    rw [hb _ (by omega), hc _ (by omega), hs]
    exact hK _ (by omega)
  · refine ⟨l0.length + l0.length + 2, ?_⟩
    unfold laws_FnSingles.f
    rw [hb _ (by omega), hc _ (by omega)]
    simp only [Option.bind_some]
    cases b with
    | false => rfl
    | true =>
      cases c with
      | false => rfl
      | true => exact absurd ⟨rfl, rfl⟩ hbc
end Go.Proofs.Ytdmeackaiamkcaa.A
