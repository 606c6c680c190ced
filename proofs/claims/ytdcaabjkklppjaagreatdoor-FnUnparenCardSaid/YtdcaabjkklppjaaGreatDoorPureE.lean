/- spec.has over a short text. -/
import Derived.Test.YtdcaabjkklppjaaGreatDoorPureA
namespace Go.Proofs.YtdcaabjkklppjaaGreatDoor.A
open Go.RowKit Go.Proofs.YtdcaabjkklppjaaGreatDoorW.PrintWords Go.Proofs.YtdcaabjkklppjaaGreatDoorW.PrintLast Go.Proofs.YtdcaabjkklppjaaGreatDoorW.PrintMore
set_option linter.unusedVariables false
set_option linter.unusedSimpArgs false

theorem find_l0 (s p : ByteArray) (hs : s.size ≤ 100) (hp : p.size ≤ 9223372036854775000) (d : Nat) : ∀ (k i : Nat), s.size + 1 ≤ i + d → i ≤ s.size + 1 → d < k →
    ∃ j : Int, spec_find.l0 k s p (i : Int) = some j ∧ (0 ≤ j → ∃ t : Nat, t + p.size ≤ s.size ∧ (s.extract t (t + p.size)).toList = p.toList) := by
  induction d with
  | zero =>
    intro k i h0 h1 hk
    obtain ⟨k, rfl⟩ : ∃ m, k = m + 1 := ⟨k - 1, by omega⟩
    have hw : wrap64 ((i : Int) + (p.size : Int)) = ((i + p.size : Nat) : Int) := by unfold wrap64; omega
    simp only [spec_find.l0]
    rw [hw, if_neg (by omega)]
    exact ⟨-1, rfl, fun h => by omega⟩
  | succ d ih =>
    intro k i h0 h1 hk
    obtain ⟨k, rfl⟩ : ∃ m, k = m + 1 := ⟨k - 1, by omega⟩
    have hw : wrap64 ((i : Int) + (p.size : Int)) = ((i + p.size : Nat) : Int) := by unfold wrap64; omega
    have hw1 : wrap64 ((i : Int) + 1) = ((i + 1 : Nat) : Int) := by unfold wrap64; omega
    simp only [spec_find.l0]
    rw [hw, hw1]
    by_cases c : ((i + p.size : Nat) : Int) ≤ (s.size : Int)
    · rw [if_pos c, if_pos (by omega), if_pos (by omega), Int.toNat_natCast, Int.toNat_natCast]
      by_cases e : (s.extract i (i + p.size)).toList = p.toList
      · rw [if_pos e]
        exact ⟨_, rfl, fun _ => ⟨i, by omega, e⟩⟩
      · rw [if_neg e]
        exact ih k (i + 1) (by omega) (by omega) (by omega)
    · rw [if_neg c]
      exact ⟨-1, rfl, fun h => by omega⟩

theorem has_short (s p : ByteArray) (hs : s.size ≤ 100) (hp : p.size ≤ 9223372036854775807) (k : Nat) (hk : 200 < k) : ∃ b, spec_has.f k s p = some b ∧ (b = true → ∃ t : Nat, t + p.size ≤ s.size ∧ (s.extract t (t + p.size)).toList = p.toList) := by
  obtain ⟨j, hj, h⟩ : ∃ j : Int, spec_find.l0 k s p ((0 : Nat) : Int) = some j ∧ (0 ≤ j → ∃ t : Nat, t + p.size ≤ s.size ∧ (s.extract t (t + p.size)).toList = p.toList) := by
    by_cases hps : p.size ≤ s.size
    · exact find_l0 s p hs (by omega) (s.size + 1) k 0 (by omega) (by omega) (by omega)
    · obtain ⟨k, rfl⟩ : ∃ m, k = m + 1 := ⟨k - 1, by omega⟩
      have hw : wrap64 (((0 : Nat) : Int) + (p.size : Int)) = (p.size : Int) := by unfold wrap64; omega
      simp only [spec_find.l0]
      rw [hw, if_neg (by omega)]
      exact ⟨-1, rfl, fun h => by omega⟩
  have hj' : spec_find.f k s p = some j := hj
  unfold spec_has.f
  rw [hj']
  simp only [Option.bind_some]
  exact ⟨_, rfl, fun hb => h (by simpa using hb)⟩
end Go.Proofs.YtdcaabjkklppjaaGreatDoor.A
