/- Where spec.fewNodes leaves nodes over, each list of a tree is short. -/
import Derived.Test.YtdcaabjkklppjaaGreatDoorPureB
namespace Go.Proofs.YtdcaabjkklppjaaGreatDoor.A
open Go.RowKit Go.Proofs.YtdcaabjkklppjaaGreatDoorW.PrintWords Go.Proofs.YtdcaabjkklppjaaGreatDoorW.PrintLast Go.Proofs.YtdcaabjkklppjaaGreatDoorW.PrintMore
set_option linter.unusedVariables false
set_option linter.unusedSimpArgs false

/-- Each list of nodes, so deep, has at most 2000 of them. -/
def Small : Nat → S24 → Prop
  | 0, _ => False
  | D + 1, n => n.f2.length ≤ 2000 ∧ ∀ i : Nat, i < n.f2.length → Small D (rd_T24 n.f2 (i : Int))

theorem few_small (D : Nat) : D ≤ 1000 → ∀ (n : S24) (left r : Int) (k : Nat), 0 ≤ left → left ≤ 2000 → spec_fewNodes.f k n.f0 n.f1 n.f2 (D : Int) left = some r → 0 ≤ r → Small D n ∧ r ≤ left - 1 := by
  induction D with
  | zero =>
    intro hD n left r k h0 h1 h hr
    cases k with
    | zero => simp [spec_fewNodes.f] at h
    | succ k =>
      simp only [spec_fewNodes.f] at h
      rw [if_pos (by omega)] at h
      have := Option.some.inj h
      omega
  | succ D ih =>
    intro hD n left r k h0 h1 h hr
    cases k with
    | zero => simp [spec_fewNodes.f] at h
    | succ k =>
      have hw : wrap64 (left - 1) = left - 1 := by unfold wrap64; omega
      simp only [spec_fewNodes.f] at h
      rw [if_neg (by omega), hw] at h
      have loop : ∀ (k i : Nat) (x2 : Int), (i : Int) + x2 ≤ left - 1 → x2 ≤ 2000 → -1 ≤ x2 → i ≤ n.f2.length → spec_fewNodes.l0 k ((D + 1 : Nat) : Int) x2 (i : Int) n.f0 n.f1 n.f2 = some r →
          ((n.f2.length : Int) ≤ left - 1 ∧ ∀ j : Nat, i ≤ j → j < n.f2.length → Small D (rd_T24 n.f2 (j : Int))) ∧ r ≤ x2 := by
        intro k
        induction k with
        | zero => intro i x2 _ _ _ _ h; simp [spec_fewNodes.l0] at h
        | succ k ihk =>
          intro i x2 hx h2 hm hi h
          simp only [spec_fewNodes.l0] at h
          by_cases c1 : (i : Int) < (n.f2.length : Int)
          · rw [if_pos c1] at h
            by_cases c2 : x2 ≥ 0
            · have hw0 : wrap64 (((D + 1 : Nat) : Int) - 1) = (D : Int) := by unfold wrap64; omega
              have hw1 : wrap64 ((i : Int) + 1) = ((i + 1 : Nat) : Int) := by unfold wrap64; omega
              rw [if_pos c2, if_pos (by omega), hw0] at h
              obtain ⟨t, ht, h⟩ := Option.bind_eq_some_iff.1 h
              rw [hw1] at h
              by_cases ht0 : 0 ≤ t
              · obtain ⟨hs, hlt⟩ := ih (by omega) _ x2 t k c2 h2 ht ht0
                obtain ⟨⟨ha, hb⟩, hc⟩ := ihk (i + 1) t (by omega) (by omega) (by omega) (by omega) h
                refine ⟨⟨ha, fun j hj1 hj2 => ?_⟩, by omega⟩
                by_cases hji : j = i
                · rw [hji]; exact hs
                · exact hb j (by omega) hj2
              · -- nothing left: the loop ends with a number below zero
                exfalso
                cases k with
                | zero => simp [spec_fewNodes.l0] at h
                | succ k =>
                  simp only [spec_fewNodes.l0] at h
                  have e : t = r := by
                    split at h
                    · first
                        | exact Option.some.inj h
                        | (rw [if_neg (by omega)] at h; exact Option.some.inj h)
                    · exact Option.some.inj h
                  omega
            · rw [if_neg c2] at h
              have := Option.some.inj h
              omega
          · rw [if_neg c1] at h
            have e := Option.some.inj h
            exact ⟨⟨by omega, fun j h3 h4 => absurd h4 (by omega)⟩, by omega⟩
      obtain ⟨⟨ha, hb⟩, hc⟩ := loop k 0 (left - 1) (by omega) (by omega) (by omega) (Nat.zero_le _) h
      exact ⟨⟨by omega, fun i hi => hb i (Nat.zero_le _) hi⟩, hc⟩
end Go.Proofs.YtdcaabjkklppjaaGreatDoor.A
