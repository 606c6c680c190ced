import Derived.Test.YtdmeackaiamkcaaGAdd
import Derived.Shelf.GgSortMore.SortSort
import Derived.Sort.Walk0
import Derived.Sort.LotA
namespace Go.Proofs.Ytdmeackaiamkcaa.A
set_option linter.unusedVariables false
open Go.RowKit Go.Proofs.YtdmeackaiamkcaaW.PrintWords Go.Proofs.YtdmeackaiamkcaaW.PrintLast Go.Proofs.YtdmeackaiamkcaaW.PrintMore
open Go.Sort (SWO)

/-- A strict total order. -/
structure STO {κ : Type} (lt : κ → κ → Bool) : Prop where
  irrefl : ∀ x, lt x x = false
  trans : ∀ x y z, lt x y = true → lt y z = true → lt x z = true
  tri : ∀ x y, lt x y = false → lt y x = false → x = y

theorem STO.swo {κ α : Type} {lt : κ → κ → Bool} (h : STO lt) (k : α → κ) : SWO (fun x y => lt (k x) (k y)) where
  irrefl := fun x => h.irrefl _
  trans := fun x y z => h.trans _ _ _
  ntrans := fun x y z h1 h2 => by
    cases h3 : lt (k x) (k z) with
    | false => rfl
    | true =>
      cases h4 : lt (k y) (k x) with
      | true => have := h.trans _ _ _ h4 h3; rw [h2] at this; cases this
      | false =>
        have e := h.tri _ _ h1 h4
        rw [e] at h3
        rw [h2] at h3
        cases h3

theorem SWO.lex {κ α : Type} [DecidableEq κ] {ltk : κ → κ → Bool} {lt2 : α → α → Bool} (h : STO ltk) (h2 : SWO lt2) (k : α → κ) : SWO (fun x y => if k x = k y then lt2 x y else ltk (k x) (k y)) where
  irrefl := fun x => by simp [h2.irrefl]
  trans := fun x y z => by
    intro a b
    by_cases e1 : k x = k y
    · by_cases e2 : k y = k z
      · rw [if_pos e1] at a
        rw [if_pos e2] at b
        rw [if_pos (e1.trans e2)]
        exact h2.trans _ _ _ a b
      · rw [if_neg e2] at b
        rw [if_neg (by rw [e1]; exact e2), e1]
        exact b
    · by_cases e2 : k y = k z
      · rw [if_neg e1] at a
        rw [if_neg (by rw [← e2]; exact e1), ← e2]
        exact a
      · rw [if_neg e1] at a
        rw [if_neg e2] at b
        have c := h.trans _ _ _ a b
        by_cases e3 : k x = k z
        · rw [e3, h.irrefl] at c
          cases c
        · rw [if_neg e3]
          exact c
  ntrans := fun x y z => by
    intro a b
    by_cases e1 : k x = k y
    · by_cases e2 : k y = k z
      · rw [if_pos e1] at a
        rw [if_pos e2] at b
        rw [if_pos (e1.trans e2)]
        exact h2.ntrans _ _ _ a b
      · rw [if_neg e2] at b
        rw [if_neg (by rw [e1]; exact e2), e1]
        exact b
    · by_cases e2 : k y = k z
      · rw [if_neg e1] at a
        rw [if_neg (by rw [← e2]; exact e1), ← e2]
        exact a
      · rw [if_neg e1] at a
        rw [if_neg e2] at b
        have c := (STO.swo h id).ntrans (k x) (k y) (k z) a b
        by_cases e3 : k x = k z
        · rw [← e3] at b
          exact absurd (h.tri _ _ a b) e1
        · rw [if_neg e3]
          exact c

theorem sto_int : STO (fun (x y : Int) => decide (x < y)) where
  irrefl := fun x => by simp
  trans := fun x y z h1 h2 => by simp at *; omega
  tri := fun x y h1 h2 => by simp at *; omega

theorem bytes_tri : ∀ (x y : List UInt8), Op.bytesLess x y = false → Op.bytesLess y x = false → x = y
  | [], [], _, _ => rfl
  | _ :: _, [], _, h => by simp [Op.bytesLess] at h
  | [], _ :: _, h, _ => by simp [Op.bytesLess] at h
  | a :: x, b :: y, h1, h2 => by
    simp [Op.bytesLess] at h1 h2
    have hab : a = b := by
      have := h1.1
      have := h2.1
      exact UInt8.le_antisymm (by assumption) (by assumption)
    subst hab
    rw [bytes_tri x y (by simpa using h1) (by simpa using h2)]

theorem sto_bytes : STO Op.bytesLess where
  irrefl := fun x => by rw [bytesLess_eq]; simp [List.lt_irrefl]
  trans := fun x y z h1 h2 => by
    rw [bytesLess_eq] at *
    simp at *
    exact List.lt_trans h1 h2
  tri := bytes_tri

theorem swo_lessB : SWO lessB := by
  have h3 : SWO (fun x y : S26 => Op.bytesLess x.f3.toList y.f3.toList) := STO.swo sto_bytes (fun x : S26 => x.f3.toList)
  have h2 := SWO.lex sto_int h3 (fun x : S26 => x.f2)
  have h1 := SWO.lex sto_int h2 (fun x : S26 => x.f1)
  exact SWO.lex sto_bytes h1 (fun x : S26 => x.f0.toList)
end Go.Proofs.Ytdmeackaiamkcaa.A
