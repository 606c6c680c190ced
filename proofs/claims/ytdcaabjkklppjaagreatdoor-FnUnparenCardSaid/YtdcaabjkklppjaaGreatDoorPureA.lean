/- spec.Parens at trees of expressions. -/
import Derived.Test.YtdcaabjkklppjaaGreatDoorA7
import Derived.Lib.Strings
namespace Go.Proofs.YtdcaabjkklppjaaGreatDoor.A
open Go.RowKit Go.Proofs.YtdcaabjkklppjaaGreatDoorW.PrintWords Go.Proofs.YtdcaabjkklppjaaGreatDoorW.PrintLast Go.Proofs.YtdcaabjkklppjaaGreatDoorW.PrintMore
set_option linter.unusedVariables false
set_option linter.unusedSimpArgs false

theorem list_is (s : ByteArray) (l : List UInt8) : s.toList = l ↔ s = ⟨l.toArray⟩ := by
  rw [Go.Lib.toList_data]
  constructor
  · intro h
    cases s with
    | mk d => cases d with
      | mk x => simp at h; rw [h]
  · rintro rfl
    simp

theorem Good.paren_one {S : Nat → ByteArray} {D : Nat} {n : S24} (h : Good S (D + 1) n) (hp : n.f0 = bParen) : n.f2.length = 1 ∧ Good S D (rd_T24 n.f2 ((0 : Nat) : Int)) := by
  obtain ⟨hk, hkids⟩ := h
  have h1 : ¬ bParen = bName := by decide +kernel
  have h2 : ¬ bParen = bInt := by decide +kernel
  have h3 : ¬ bParen = bSel := by decide +kernel
  have h4 : ¬ bParen = bUn := by decide +kernel
  have h5 : ¬ bParen = bBin := by decide +kernel
  have h6 : ¬ bParen = bIdx := by decide +kernel
  have h7 : ¬ bParen = bCall := by decide +kernel
  have hl : n.f2.length = 1 := by
    rw [hp] at hk
    rcases hk with h | h | ⟨h, hl⟩ | ⟨h, hl⟩ | ⟨h, _, hl⟩ | ⟨h, _, hl⟩ | ⟨h, hl⟩ | ⟨h, hl⟩
    · exact absurd h h1
    · exact absurd h h2
    · exact hl
    · exact absurd h h3
    · exact absurd h h4
    · exact absurd h h5
    · exact absurd h h6
    · exact absurd h h7
  refine ⟨hl, hkids.resolve_left ?_ 0 (by omega)⟩
  rw [hp]
  rintro (h | h)
  · exact h1 h
  · exact h2 h

theorem parens_l0 (S : Nat → ByteArray) : ∀ (D : Nat) (n : S24) (c k : Nat), Good S D n → D < k → c + D ≤ 1000 → spec_Parens.l0 k (c : Int) n.f0 n.f1 n.f2 = some ((c + parens D n : Nat) : Int)
  | 0, n, c, k, h, _, _ => h.elim
  | D + 1, n, c, k, h, hk, hc => by
    obtain ⟨k, rfl⟩ : ∃ m, k = m + 1 := ⟨k - 1, by omega⟩
    simp only [spec_Parens.l0]
    unfold parens
    by_cases hp : n.f0 = bParen
    · obtain ⟨hl, hg⟩ := h.paren_one hp
      have hw : wrap64 ((c : Int) + 1) = ((c + 1 : Nat) : Int) := by unfold wrap64; omega
      have e : n.f0.toList = ([112, 97, 114, 101, 110] : List UInt8) := (list_is _ _).2 hp
      have ih := parens_l0 S D _ (c + 1) k hg (by omega) (by omega)
      rw [if_pos e, if_pos (by omega), if_pos (by omega), hw, if_pos hp]
      refine ih.trans ?_
      congr 2
      omega
    · have e : ¬ n.f0.toList = ([112, 97, 114, 101, 110] : List UInt8) := fun h => hp ((list_is _ _).1 h)
      rw [if_neg e, if_neg hp]
      rfl
end Go.Proofs.YtdcaabjkklppjaaGreatDoor.A
