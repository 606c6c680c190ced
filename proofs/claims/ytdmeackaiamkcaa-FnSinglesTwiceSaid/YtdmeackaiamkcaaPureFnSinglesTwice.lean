import Derived.Test.YtdmeackaiamkcaaA8
import Derived.Test.YtdmeackaiamkcaaPureSg
import Derived.Test.YtdmeackaiamkcaaPureFnAdded
namespace Go.Proofs.Ytdmeackaiamkcaa.A
open Go.RowKit Go.Proofs.YtdmeackaiamkcaaW.PrintWords Go.Proofs.YtdmeackaiamkcaaW.PrintLast Go.Proofs.YtdmeackaiamkcaaW.PrintMore
set_option linter.unusedVariables false

theorem bytes_inj {a b : ByteArray} (h : a.toList = b.toList) : a = b := by
  rw [ByteArray.toList_eq, ByteArray.toList_eq] at h
  cases a
  cases b
  congr 1
  exact Array.toList_inj.1 h

theorem Rle.antisymm {x y : S26} (h1 : Rle x y) (h2 : Rle y x) : x = y := by
  unfold Rle lessB at h1 h2
  obtain ⟨a0, a1, a2, a3⟩ := x
  obtain ⟨b0, b1, b2, b3⟩ := y
  dsimp only at h1 h2
  by_cases e0 : a0.toList = b0.toList
  · rw [if_pos e0.symm] at h1
    rw [if_pos e0] at h2
    by_cases e1 : a1 = b1
    · rw [if_pos e1.symm] at h1
      rw [if_pos e1] at h2
      by_cases e2 : a2 = b2
      · rw [if_pos e2.symm] at h1
        rw [if_pos e2] at h2
        have e3 := sto_bytes.tri _ _ h2 h1
        rw [bytes_inj e0, e1, e2, bytes_inj e3]
      · rw [if_neg (Ne.symm e2)] at h1
        rw [if_neg e2] at h2
        have p := of_decide_eq_false h1
        have q := of_decide_eq_false h2
        omega
    · rw [if_neg (Ne.symm e1)] at h1
      rw [if_neg e1] at h2
      have p := of_decide_eq_false h1
      have q := of_decide_eq_false h2
      omega
  · rw [if_neg (Ne.symm e0)] at h1
    rw [if_neg e0] at h2
    exact absurd (sto_bytes.tri _ _ h2 h1) e0

theorem sortedBy_sorted {g : List S26} (h : g.Pairwise Rle) : sortedBy g = g :=
  List.Perm.eq_of_pairwise (fun a b _ _ h1 h2 => Rle.antisymm h1 h2) (sortedBy_pairwise g) h (sortedBy_perm g)

theorem sg_again (f : ByteArray) (n : Int) (s : List S26) : sg f n (sg f n s) = sg f n s := by
  induction s generalizing f n with
  | nil => rfl
  | cons x xs ih =>
    by_cases h : x.f0.toList = f.toList ∧ x.f1 = n
    · rw [sg, if_pos h]
      exact ih f n
    · rw [sg, if_neg h, sg, if_neg h, ih]

theorem pure_FnSinglesTwice (l0 : List S26) (hl : l0.length ≤ maxLen) (_ : l0.length * 48 ≤ 140737488351232) (_ : ∀ x ∈ l0, ok26 x) : ∃ k, laws_FnSinglesTwice.f k l0 = some true := by
  obtain ⟨b, hb⟩ := zz4_any l0 hl
  obtain ⟨c, hc, hleg⟩ := legal_any l0 hl
  refine ⟨l0.length + l0.length + 2, ?_⟩
  unfold laws_FnSinglesTwice.f
  rw [hb _ (by omega), hc _ (by omega)]
  simp only [Option.bind_some]
  cases b with
  | false => rfl
  | true =>
    cases c with
    | false => rfl
    | true =>
      obtain ⟨⟨h50, _⟩, h1⟩ := hleg rfl
      have hs : impl_Singles.f l0 = some (sg ⟨#[]⟩ 0 (sortedBy l0)) := by unfold impl_Singles.f; rw [if_pos h50]
      have hfact := singles_facts l0 h1
      have hgp := sg_pairwise l0 ⟨#[]⟩ 0
      have hgl : (sg ⟨#[]⟩ 0 (sortedBy l0)).length ≤ l0.length := by have := sg_length ⟨#[]⟩ 0 (sortedBy l0); rw [sortedBy_length] at this; exact this
      have hag := sg_again ⟨#[]⟩ 0 (sortedBy l0)
      generalize sg ⟨#[]⟩ 0 (sortedBy l0) = g at hs hfact hgp hgl hag
      have hsg := sortedBy_sorted hgp
      have hs2 : impl_Singles.f g = some g := by unfold impl_Singles.f; rw [if_pos (by omega), hsg, hag]
      have hs3 : impl_Sorted.f g = some g := by unfold impl_Sorted.f; rw [if_pos (by omega), hsg]
      have hlen : decide ((g.length : Int) > 0) = decide ((l0.length : Int) > 0) := by
        refine decide_eq_decide.2 ⟨fun h => by omega, fun h => ?_⟩
        have hm : l0[0]'(by omega) ∈ l0 := List.getElem_mem _
        have := (hfact _ hm).1
        have hle := List.countP_le_length (p := fun o => decide (Kq o (l0[0]'(by omega)))) (l := g)
        omega
      rw [if_pos rfl, if_pos rfl, hs]
      simp only [Option.bind_some]
      rw [hs2]
      simp only [Option.bind_some]
      rw [hs3]
      simp only [Option.bind_some]
      rw [same_refl g (by omega) _ (by omega)]
      simp only [Option.bind_some]
      rw [hlen]
      simp
end Go.Proofs.Ytdmeackaiamkcaa.A
