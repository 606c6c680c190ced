import Derived.Test.YtdmeackaiamkcaaGSic
namespace Go.Proofs.Ytdmeackaiamkcaa.A
set_option linter.unusedVariables false
set_option linter.unusedSimpArgs false
open Go.RowKit Go.Lib Go.Sort Go.Proofs.YtdmeackaiamkcaaW.PrintWords Go.Proofs.YtdmeackaiamkcaaW.PrintLast Go.Proofs.YtdmeackaiamkcaaW.PrintMore
section
variable {enc : Nat → Value} {lt : Nat → Nat → Bool} {W0 W : World} {sv : Value} {b q n : Nat} {d : Array Nat}

set_option maxHeartbeats 4000000 in
set_option maxRecDepth 100000 in
theorem ptr_partialInsertionSort (C : PS enc lt W0 sv b q n) (a z : Nat) (S : Row enc W0 b n d W) (haz : a < z) (hz : z ≤ n) :
    Calls Try.prog 43 #[.iface 53 (.pointer (some ⟨q, 0, none⟩)), .int .i64 a, .int .i64 z] W fun e w' => e = .returned (.bool (Sort.partialInsertionSort lt d a z).2) ∧ Row enc W0 b n (Sort.partialInsertionSort lt d a z).1 w' := by
  have hn := C.few
  have CC := Aside0.mk C
  clear C
  go_enter Try.func43, Try.ntmps43
  go_wp2
  go_loopg [7, 8] 5 (fun g1 vi vs wr => ∃ (i s : Nat) (dk : Array Nat), vi = .int .i64 i ∧ vs = .int .i64 s ∧ s ≤ 5 ∧ 5 - s ≤ g1 ∧ a < i ∧ i ≤ z ∧ Row enc W0 b n dk wr ∧ Hid (partialIns lt a z (5 - s) i dk = partialIns lt a z 5 (a + 1) d))
  case atStart => exact ⟨a + 1, 0, d, by go_num, rfl, by omega, by omega, by omega, by omega, S, rfl⟩
  case round =>
    clear S
    obtain ⟨i, s, dk, rfl, rfl, hs5, hg1, hai, hiz, hR, HO⟩ := hrel
    by_cases hs : s < 5
    · have hsz5 : (s : Int) < 5 := by omega
      go_wp2
      go_loopg [7] (z - i) (fun g2 vi wr2 => ∃ (kx : Nat), vi = .int .i64 kx ∧ i ≤ kx ∧ kx ≤ z ∧ z - kx ≤ g2 ∧ Row enc W0 b n dk wr2 ∧ Hid (scanSorted lt dk z kx = scanSorted lt dk z i))
      case atStart => exact ⟨i, rfl, Nat.le_refl _, hiz, Nat.le_refl _, hR, rfl⟩
      case round =>
        clear hR
        obtain ⟨kx, rfl, hik, hkz0, hg2, hR, HSc⟩ := hrel
        have mL := hR.mL CC.out
        by_cases hkb' : kx < z
        · have hkz : (kx : Int) < (z : Int) := by omega
          cases hlv : lt dk[kx]! dk[kx - 1]! with
          | false =>
            go_wp2_with (go_at_call 24; refine (hR.lessZ CC.out kx (kx - 1) hlv _ _ (by omega) (by omega) (by omega) (by omega)).mono ?_; rintro e w1 ⟨rfl, hR1⟩)
            go_roundg (z - (kx + 1))
            case measure => omega
            case rel => exact ⟨kx + 1, by go_num, by omega, by omega, Nat.le_refl _, hR1, (show Hid _ from by rw [← HSc.out, scanSorted_go lt dk z kx hkb' hlv]; exact rfl)⟩
          | true =>
            have HK : Hid (scanSorted lt dk z i = kx) := by show _ = _; rw [← HSc.out, scanSorted_stop lt dk z kx (Or.inr hlv)]
            have hkne : ((kx : Int) == (z : Int)) = false := beq_eq_false_iff_ne.2 (by omega)
            by_cases h50 : z - a < 50
            · have h50z : (z : Int) - (a : Int) < 50 := by omega
              go_wp2_with (go_at_call 24; refine (hR.lessZ CC.out kx (kx - 1) hlv _ _ (by omega) (by omega) (by omega) (by omega)).mono ?_; rintro e w1 ⟨rfl, hR1⟩)
              have hv : Sort.partialInsertionSort lt d a z = (dk, false) := by
                unfold Sort.partialInsertionSort
                rw [← HO.out, pi_short lt a z s i dk hs (by rw [HK.out]; omega) h50]
              rw [hv]
              go_ret
              exact ⟨rfl, hR1⟩
            · have h50z : ¬ ((z : Int) - (a : Int) < 50) := by omega
              by_cases hka : kx - a ≥ 2
              · have hkaz : (2 : Int) ≤ (kx : Int) - (a : Int) := by omega
                go_wp2_with (first
                  | (go_at_call 24; refine (hR.lessZ CC.out kx (kx - 1) hlv _ _ (by omega) (by omega) (by omega) (by omega)).mono ?_; rintro e w1 ⟨rfl, hR1⟩; have mS1 := hR1.mS CC.out)
                  | (go_at_call 23; refine (hR1.swapZ CC.out kx (kx - 1) _ _ (by omega) (by omega) (by omega) (by omega)).mono ?_; rintro e w2 ⟨rfl, hR2⟩))
                go_loopg [9] (kx - 1) (fun g3 vj wr3 => ∃ (j : Nat) (dj : Array Nat), vj = .int .i64 j ∧ j ≤ kx - 1 ∧ j ≤ g3 ∧ Row enc W0 b n dj wr3 ∧ Hid (shiftDown lt j dj = shiftDown lt (kx - 1) (swp dk kx (kx - 1))))
                case atStart => exact ⟨kx - 1, (swp dk kx (kx - 1)), by congr 1; omega, Nat.le_refl _, Nat.le_refl _, hR2, rfl⟩
                case round =>
                  clear mL mS1 hR hR1 hR2
                  obtain ⟨j, dj, rfl, hjk, hg3, hR, HDn⟩ := hrel
                  have mL := hR.mL CC.out
                  by_cases hj1 : 1 ≤ j
                  · have hj1z : (1 : Int) ≤ (j : Int) := by omega
                    cases hlv2 : lt dj[j]! dj[j - 1]! with
                    | true =>
                      go_wp2_with (first
                        | (go_at_call 24; refine (hR.lessZ CC.out j (j - 1) hlv2 _ _ (by omega) (by omega) (by omega) (by omega)).mono ?_; rintro e w1 ⟨rfl, hR1⟩; have mS1 := hR1.mS CC.out)
                        | (go_at_call 23; refine (hR1.swapZ CC.out j (j - 1) _ _ (by omega) (by omega) (by omega) (by omega)).mono ?_; rintro e w2 ⟨rfl, hR2⟩))
                      go_roundg (j - 1)
                      case measure => omega
                      case rel => exact ⟨j - 1, swp dj j (j - 1), by congr 1; omega, by omega, Nat.le_refl _, hR2, (show Hid _ from by rw [← HDn.out, shiftDown_go lt j dj hj1 hlv2]; exact rfl)⟩
                    | false =>
                      have HD : Hid (fixDown lt a kx (swp dk kx (kx - 1)) = dj) := by show _ = _; unfold fixDown; rw [if_pos hka, ← HDn.out, shiftDown_stop lt j dj (Or.inr hlv2)]
                      by_cases hbk : z - kx ≥ 2
                      · have hbkz : (2 : Int) ≤ (z : Int) - (kx : Int) := by omega
                        go_wp2_with (go_at_call 24; refine (hR.lessZ CC.out j (j - 1) hlv2 _ _ (by omega) (by omega) (by omega) (by omega)).mono ?_; rintro e w1 ⟨rfl, hR1⟩)
                        go_loopg [10] (z - (kx + 1)) (fun g4 vj wr4 => ∃ (ju : Nat) (du : Array Nat), vj = .int .i64 ju ∧ kx + 1 ≤ ju ∧ ju ≤ z ∧ z - ju ≤ g4 ∧ Row enc W0 b n du wr4 ∧ Hid (shiftUp lt z ju du = shiftUp lt z (kx + 1) dj))
                        case atStart => exact ⟨kx + 1, dj, by go_num, Nat.le_refl _, by omega, Nat.le_refl _, hR1, rfl⟩
                        case round =>
                          clear hR hR1 mL
                          obtain ⟨ju, du, rfl, hkj, hjz0, hg4, hR, HU⟩ := hrel
                          have mL := hR.mL CC.out
                          by_cases hjb' : ju < z
                          · have hjz : (ju : Int) < (z : Int) := by omega
                            cases hlv3 : lt du[ju]! du[ju - 1]! with
                            | true =>
                              go_wp2_with (first
                                | (go_at_call 24; refine (hR.lessZ CC.out ju (ju - 1) hlv3 _ _ (by omega) (by omega) (by omega) (by omega)).mono ?_; rintro e w1 ⟨rfl, hR1⟩; have mS1 := hR1.mS CC.out)
                                | (go_at_call 23; refine (hR1.swapZ CC.out ju (ju - 1) _ _ (by omega) (by omega) (by omega) (by omega)).mono ?_; rintro e w2 ⟨rfl, hR2⟩))
                              go_roundg (z - (ju + 1))
                              case measure => omega
                              case rel => exact ⟨ju + 1, swp du ju (ju - 1), by go_num, by omega, by omega, Nat.le_refl _, hR2, (show Hid _ from by rw [← HU.out, shiftUp_go lt z ju du hjb' hlv3]; exact rfl)⟩
                            | false =>
                              have HF : Hid (fixUp lt z kx dj = du) := by show _ = _; unfold fixUp; rw [if_pos hbk, ← HU.out, shiftUp_stop lt z ju du (Or.inr hlv3)]
                              go_wp2_with (go_at_call 24; refine (hR.lessZ CC.out ju (ju - 1) hlv3 _ _ (by omega) (by omega) (by omega) (by omega)).mono ?_; rintro e w1 ⟨rfl, hR1⟩)
                              go_roundg (5 - (s + 1))
                              case measure => omega
                              case rel => exact ⟨kx, s + 1, du, rfl, by go_num, by omega, Nat.le_refl _, by omega, by omega, hR1, (show Hid _ from by rw [← HO.out, pi_go lt a z s i kx dk hs HK.out (by omega) h50, HD.out, HF.out]; exact rfl)⟩
                          · have hjz : ¬ (ju : Int) < (z : Int) := by omega
                            have HF : Hid (fixUp lt z kx dj = du) := by show _ = _; unfold fixUp; rw [if_pos hbk, ← HU.out, shiftUp_stop lt z ju du (Or.inl hjb')]
                            go_wp2
                            go_roundg (5 - (s + 1))
                            case measure => omega
                            case rel => exact ⟨kx, s + 1, du, rfl, by go_num, by omega, Nat.le_refl _, by omega, by omega, hR, (show Hid _ from by rw [← HO.out, pi_go lt a z s i kx dk hs HK.out (by omega) h50, HD.out, HF.out]; exact rfl)⟩
                      · have hbkz : ¬ (2 : Int) ≤ (z : Int) - (kx : Int) := by omega
                        go_wp2_with (go_at_call 24; refine (hR.lessZ CC.out j (j - 1) hlv2 _ _ (by omega) (by omega) (by omega) (by omega)).mono ?_; rintro e w1 ⟨rfl, hR1⟩)
                        have HF : Hid (fixUp lt z kx dj = dj) := by show _ = _; unfold fixUp; rw [if_neg hbk]
                        go_roundg (5 - (s + 1))
                        case measure => omega
                        case rel => exact ⟨kx, s + 1, dj, rfl, by go_num, by omega, Nat.le_refl _, by omega, by omega, hR1, (show Hid _ from by rw [← HO.out, pi_go lt a z s i kx dk hs HK.out (by omega) h50, HD.out, HF.out]; exact rfl)⟩
                  · have hj1z : ¬ (1 : Int) ≤ (j : Int) := by omega
                    have HD : Hid (fixDown lt a kx (swp dk kx (kx - 1)) = dj) := by show _ = _; unfold fixDown; rw [if_pos hka, ← HDn.out, shiftDown_stop lt j dj (Or.inl (by omega))]
                    by_cases hbk : z - kx ≥ 2
                    · have hbkz : (2 : Int) ≤ (z : Int) - (kx : Int) := by omega
                      go_wp2
                      go_loopg [10] (z - (kx + 1)) (fun g4 vj wr4 => ∃ (ju : Nat) (du : Array Nat), vj = .int .i64 ju ∧ kx + 1 ≤ ju ∧ ju ≤ z ∧ z - ju ≤ g4 ∧ Row enc W0 b n du wr4 ∧ Hid (shiftUp lt z ju du = shiftUp lt z (kx + 1) dj))
                      case atStart => exact ⟨kx + 1, dj, by go_num, Nat.le_refl _, by omega, Nat.le_refl _, hR, rfl⟩
                      case round =>
                        clear hR mL
                        obtain ⟨ju, du, rfl, hkj, hjz0, hg4, hR, HU⟩ := hrel
                        have mL := hR.mL CC.out
                        by_cases hjb' : ju < z
                        · have hjz : (ju : Int) < (z : Int) := by omega
                          cases hlv3 : lt du[ju]! du[ju - 1]! with
                          | true =>
                            go_wp2_with (first
                              | (go_at_call 24; refine (hR.lessZ CC.out ju (ju - 1) hlv3 _ _ (by omega) (by omega) (by omega) (by omega)).mono ?_; rintro e w1 ⟨rfl, hR1⟩; have mS1 := hR1.mS CC.out)
                              | (go_at_call 23; refine (hR1.swapZ CC.out ju (ju - 1) _ _ (by omega) (by omega) (by omega) (by omega)).mono ?_; rintro e w2 ⟨rfl, hR2⟩))
                            go_roundg (z - (ju + 1))
                            case measure => omega
                            case rel => exact ⟨ju + 1, swp du ju (ju - 1), by go_num, by omega, by omega, Nat.le_refl _, hR2, (show Hid _ from by rw [← HU.out, shiftUp_go lt z ju du hjb' hlv3]; exact rfl)⟩
                          | false =>
                            have HF : Hid (fixUp lt z kx dj = du) := by show _ = _; unfold fixUp; rw [if_pos hbk, ← HU.out, shiftUp_stop lt z ju du (Or.inr hlv3)]
                            go_wp2_with (go_at_call 24; refine (hR.lessZ CC.out ju (ju - 1) hlv3 _ _ (by omega) (by omega) (by omega) (by omega)).mono ?_; rintro e w1 ⟨rfl, hR1⟩)
                            go_roundg (5 - (s + 1))
                            case measure => omega
                            case rel => exact ⟨kx, s + 1, du, rfl, by go_num, by omega, Nat.le_refl _, by omega, by omega, hR1, (show Hid _ from by rw [← HO.out, pi_go lt a z s i kx dk hs HK.out (by omega) h50, HD.out, HF.out]; exact rfl)⟩
                        · have hjz : ¬ (ju : Int) < (z : Int) := by omega
                          have HF : Hid (fixUp lt z kx dj = du) := by show _ = _; unfold fixUp; rw [if_pos hbk, ← HU.out, shiftUp_stop lt z ju du (Or.inl hjb')]
                          go_wp2
                          go_roundg (5 - (s + 1))
                          case measure => omega
                          case rel => exact ⟨kx, s + 1, du, rfl, by go_num, by omega, Nat.le_refl _, by omega, by omega, hR, (show Hid _ from by rw [← HO.out, pi_go lt a z s i kx dk hs HK.out (by omega) h50, HD.out, HF.out]; exact rfl)⟩
                    · have hbkz : ¬ (2 : Int) ≤ (z : Int) - (kx : Int) := by omega
                      go_wp2
                      have HF : Hid (fixUp lt z kx dj = dj) := by show _ = _; unfold fixUp; rw [if_neg hbk]
                      go_roundg (5 - (s + 1))
                      case measure => omega
                      case rel => exact ⟨kx, s + 1, dj, rfl, by go_num, by omega, Nat.le_refl _, by omega, by omega, hR, (show Hid _ from by rw [← HO.out, pi_go lt a z s i kx dk hs HK.out (by omega) h50, HD.out, HF.out]; exact rfl)⟩
              · have hkaz : ¬ (2 : Int) ≤ (kx : Int) - (a : Int) := by omega
                have HD : Hid (fixDown lt a kx (swp dk kx (kx - 1)) = (swp dk kx (kx - 1))) := by show _ = _; unfold fixDown; rw [if_neg hka]
                by_cases hbk : z - kx ≥ 2
                · have hbkz : (2 : Int) ≤ (z : Int) - (kx : Int) := by omega
                  go_wp2_with (first
                    | (go_at_call 24; refine (hR.lessZ CC.out kx (kx - 1) hlv _ _ (by omega) (by omega) (by omega) (by omega)).mono ?_; rintro e w1 ⟨rfl, hR1⟩; have mS1 := hR1.mS CC.out)
                    | (go_at_call 23; refine (hR1.swapZ CC.out kx (kx - 1) _ _ (by omega) (by omega) (by omega) (by omega)).mono ?_; rintro e w2 ⟨rfl, hR2⟩))
                  go_loopg [10] (z - (kx + 1)) (fun g4 vj wr4 => ∃ (ju : Nat) (du : Array Nat), vj = .int .i64 ju ∧ kx + 1 ≤ ju ∧ ju ≤ z ∧ z - ju ≤ g4 ∧ Row enc W0 b n du wr4 ∧ Hid (shiftUp lt z ju du = shiftUp lt z (kx + 1) (swp dk kx (kx - 1))))
                  case atStart => exact ⟨kx + 1, (swp dk kx (kx - 1)), by go_num, Nat.le_refl _, by omega, Nat.le_refl _, hR2, rfl⟩
                  case round =>
                    clear hR hR1 hR2 mL mS1
                    obtain ⟨ju, du, rfl, hkj, hjz0, hg4, hR, HU⟩ := hrel
                    have mL := hR.mL CC.out
                    by_cases hjb' : ju < z
                    · have hjz : (ju : Int) < (z : Int) := by omega
                      cases hlv3 : lt du[ju]! du[ju - 1]! with
                      | true =>
                        go_wp2_with (first
                          | (go_at_call 24; refine (hR.lessZ CC.out ju (ju - 1) hlv3 _ _ (by omega) (by omega) (by omega) (by omega)).mono ?_; rintro e w1 ⟨rfl, hR1⟩; have mS1 := hR1.mS CC.out)
                          | (go_at_call 23; refine (hR1.swapZ CC.out ju (ju - 1) _ _ (by omega) (by omega) (by omega) (by omega)).mono ?_; rintro e w2 ⟨rfl, hR2⟩))
                        go_roundg (z - (ju + 1))
                        case measure => omega
                        case rel => exact ⟨ju + 1, swp du ju (ju - 1), by go_num, by omega, by omega, Nat.le_refl _, hR2, (show Hid _ from by rw [← HU.out, shiftUp_go lt z ju du hjb' hlv3]; exact rfl)⟩
                      | false =>
                        have HF : Hid (fixUp lt z kx (swp dk kx (kx - 1)) = du) := by show _ = _; unfold fixUp; rw [if_pos hbk, ← HU.out, shiftUp_stop lt z ju du (Or.inr hlv3)]
                        go_wp2_with (go_at_call 24; refine (hR.lessZ CC.out ju (ju - 1) hlv3 _ _ (by omega) (by omega) (by omega) (by omega)).mono ?_; rintro e w1 ⟨rfl, hR1⟩)
                        go_roundg (5 - (s + 1))
                        case measure => omega
                        case rel => exact ⟨kx, s + 1, du, rfl, by go_num, by omega, Nat.le_refl _, by omega, by omega, hR1, (show Hid _ from by rw [← HO.out, pi_go lt a z s i kx dk hs HK.out (by omega) h50, HD.out, HF.out]; exact rfl)⟩
                    · have hjz : ¬ (ju : Int) < (z : Int) := by omega
                      have HF : Hid (fixUp lt z kx (swp dk kx (kx - 1)) = du) := by show _ = _; unfold fixUp; rw [if_pos hbk, ← HU.out, shiftUp_stop lt z ju du (Or.inl hjb')]
                      go_wp2
                      go_roundg (5 - (s + 1))
                      case measure => omega
                      case rel => exact ⟨kx, s + 1, du, rfl, by go_num, by omega, Nat.le_refl _, by omega, by omega, hR, (show Hid _ from by rw [← HO.out, pi_go lt a z s i kx dk hs HK.out (by omega) h50, HD.out, HF.out]; exact rfl)⟩
                · exfalso; omega
        · obtain rfl : kx = z := by omega
          have hkz : ¬ (kx : Int) < (kx : Int) := by omega
          go_wp2
          have hv : Sort.partialInsertionSort lt d a kx = (dk, true) := by
            unfold Sort.partialInsertionSort
            rw [← HO.out, pi_true lt a kx s i dk hs (by rw [← HSc.out, scanSorted_stop lt dk kx kx (Or.inl (by omega))])]
          rw [hv]
          go_ret
          exact ⟨rfl, hR⟩
    · obtain rfl : s = 5 := by omega
      go_wp2
      have hv : Sort.partialInsertionSort lt d a z = (dk, false) := by
        unfold Sort.partialInsertionSort
        rw [← HO.out, pi_end]
      rw [hv]
      go_ret
      exact ⟨rfl, hR⟩
end
end Go.Proofs.Ytdmeackaiamkcaa.A
