import Derived.Test.YtdmeackaiamkcaaGSih
namespace Go.Proofs.Ytdmeackaiamkcaa.A
set_option linter.unusedVariables false
set_option linter.unusedSimpArgs false
open Go.RowKit Go.Lib Go.Sort Go.Proofs.YtdmeackaiamkcaaW.PrintWords Go.Proofs.YtdmeackaiamkcaaW.PrintLast Go.Proofs.YtdmeackaiamkcaaW.PrintMore
section
variable {enc : Nat → Value} {lt : Nat → Nat → Bool} {W0 : World} {sv : Value} {b q n : Nat}

set_option maxHeartbeats 12800000 in
set_option maxRecDepth 1000000 in
theorem ptr_pdqsort (C0 : PS enc lt W0 sv b q n) (hO : SWO lt) :
    ∀ (N a z limit : Nat) (d : Array Nat) (W : World), z - a < N → Row enc W0 b n d W → a ≤ z → z ≤ n → limit < 4611686018427387904 → Sort.Below lt a z d →
    Calls Try.prog 35 #[.iface 53 (.pointer (some ⟨q, 0, none⟩)), .int .i64 a, .int .i64 z, .int .i64 limit] W fun e w' => e = .returned (.tuple #[]) ∧ Row enc W0 b n (pdq lt d a z limit true true) w' := by
  have hn := C0.few
  have CC := Aside0.mk C0
  clear C0
  intro N
  induction N with
  | zero => intro _ _ _ _ _ h; exact absurd h (Nat.not_lt_zero _)
  | succ N ih =>
    intro a z limit d W hN S haz hz hlimit hBel0
    have hd0 := S.size
    go_enter Try.func35, Try.ntmps35
    go_wp2
    go_loopg [1, 2, 3, 8, 9] (z - a) (fun k s1 s2 s3 s8 s9 wr => ∃ (a' b' lim : Nat) (wb wp : Bool) (dk : Array Nat), s1 = .int .i64 a' ∧ s2 = .int .i64 b' ∧ s3 = .int .i64 lim ∧ s8 = .bool wb ∧ s9 = .bool wp ∧
      a' ≤ b' ∧ b' ≤ n ∧ b' - a' ≤ k ∧ k ≤ z - a ∧ lim ≤ limit ∧ Sort.Below lt a' b' dk ∧ Row enc W0 b n dk wr ∧ Aside0 (pdq lt dk a' b' lim wb wp = pdq lt d a z limit true true))
    case atStart => exact ⟨a, z, limit, true, true, d, rfl, rfl, rfl, rfl, rfl, haz, hz, Nat.le_refl _, Nat.le_refl _, Nat.le_refl _, hBel0, S, ⟨rfl⟩⟩
    case round =>
      clear S
      obtain ⟨a', b', lim, wb, wp, dk, rfl, rfl, rfl, rfl, rfl, hab', hb', hk, hkN, hlim, hBel, hR, A⟩ := hrel
      have hds := hR.size
      by_cases h12 : b' - a' ≤ 12
      · have h12z : (b' : Int) - (a' : Int) ≤ 12 := by omega
        go_wp2_with (go_at_call 38; refine (ptr_insertionSort CC.out a' b' hR hab' hb').mono ?_; rintro e w1 ⟨rfl, hR1⟩)
        (try simp only [Exit.inBlock, Exit.then]); refine bodyPost_ret (results_none rfl _ _ _) rfl ?_
        refine ⟨rfl, ?_⟩
        rw [← A.out, pdq_small h12]
        exact hR1
      · have h12z : ¬ ((b' : Int) - (a' : Int) ≤ 12) := by omega
        by_cases hl0 : lim = 0
        · subst hl0
          go_wp2_with (go_at_call 39; refine (ptr_heapSort CC.out a' b' hR hab' hb').mono ?_; rintro e w1 ⟨rfl, hR1⟩)
          (try simp only [Exit.inBlock, Exit.then]); refine bodyPost_ret (results_none rfl _ _ _) rfl ?_
          refine ⟨rfl, ?_⟩
          rw [← A.out, pdq_heap h12 rfl]
          exact hR1
        · have hl0z : ¬ ((lim : Int) = 0) := by omega
          obtain ⟨s1, B1, hc1, s2, B2, hpv, s3, B3⟩ := rd_facts (lt := lt) (limit := lim) (wb := wb) (wp := wp) hO partialInsertionSort_holds reverseRange_holds (show a' < b' by omega) (show b' ≤ dk.size by omega) hBel
          go_upto_if 35 with fail
          go_cut [3] from 19 (fun s3 wc => s3 = .int .i64 (rd lt dk a' b' lim wb wp).lim ∧ Row enc W0 b n (rd lt dk a' b' lim wb wp).d1 wc)
          case first =>
            cases wb
            · go_wp2_with (go_at_call 40; refine (ptr_breakPatterns CC.out a' b' hR hab' hb').mono ?_; rintro e w1 ⟨rfl, hR1⟩)
              go_meet
              case rel =>
                refine ⟨?_, hR1⟩
                show Value.int .i64 ((lim : Int) - 1) = Value.int .i64 ((lim - 1 : Nat) : Int)
                congr 1
                omega
            · go_wp2_with fail
              go_meet
              case rel => exact ⟨rfl, hR⟩
          case rest =>
            clear hR
            obtain ⟨rfl, hR1⟩ := hcut
            have hc17 : Calls Try.prog 41 #[.iface 53 (.pointer (some ⟨q, 0, none⟩)), .int .i64 a', .int .i64 b'] wc fun e w' => e = .returned (.tuple #[.int .i64 (rd lt dk a' b' lim wb wp).c.1, .int .i64 (hintCode (rd lt dk a' b' lim wb wp).c.2)]) ∧ Row enc W0 b n (rd lt dk a' b' lim wb wp).d1 w' :=
              ptr_choosePivot CC.out a' b' hR1 (by omega) hb'
            clear hR1
            go_upto_if 50 with (go_at_call 41; refine hc17.mono ?_; clear hc17; rintro e w2 ⟨rfl, hR2⟩)
            go_cut [11, 12] from 19 (fun s11 s12 wc => s11 = .int .i64 (rd lt dk a' b' lim wb wp).pivot ∧ s12 = .int .i64 (hintCode (rd lt dk a' b' lim wb wp).hint) ∧ Row enc W0 b n (rd lt dk a' b' lim wb wp).d2 wc)
            case first =>
              by_cases hh : (rd lt dk a' b' lim wb wp).c.2 = .decreasing
              · have hcode : hintCode (rd lt dk a' b' lim wb wp).c.2 = 2 := by rw [hh]; rfl
                obtain ⟨e2, epv, eht⟩ := rd_dec hh
                go_wp2_with (go_at_call 42; refine (ptr_reverseRange CC.out a' b' hR2 hab' hb').mono ?_; rintro e w3 ⟨rfl, hR3⟩)
                go_meet
                case rel =>
                  refine ⟨?_, by rw [eht]; rfl, by rw [e2]; exact hR3⟩
                  rw [epv]
                  congr 1
                  omega
              · have hcode : ¬ (hintCode (rd lt dk a' b' lim wb wp).c.2 = 2) := fun h => hh (hintCode_two h)
                obtain ⟨e2, epv, eht⟩ := rd_not hh
                go_wp2_with fail
                go_meet
                case rel => exact ⟨by rw [epv], by rw [eht], by rw [e2]; exact hR2⟩
            case rest =>
              obtain ⟨rfl, rfl, hR3⟩ := hcut
              clear hR2
              go_upto_region 15 with fail
              go_cut [12, 68] from 19 (fun s12 s68 wx => s12 = .int .i64 (hintCode (rd lt dk a' b' lim wb wp).hint) ∧ s68 = .bool (wb && wp && decide ((rd lt dk a' b' lim wb wp).hint = .increasing)) ∧ wx = wc)
              case first =>
                cases wb <;> cases wp <;> cases hh3 : (rd lt dk a' b' lim _ _).hint <;>
                  (have hcode3 := congrArg hintCode hh3
                   simp only [hintCode] at hcode3
                   go_wp2_with fail
                   go_meet
                   exact ⟨by simp [hh3, hintCode], by simp [hh3, hintCode], rfl⟩)
              case rest =>
                obtain ⟨rfl, rfl, rfl⟩ := hcut
                go_upto_if 68 with fail
                go_cut [] from 19 (fun wx => (rd lt dk a' b' lim wb wp).pi.2 = false ∧ Row enc W0 b n (rd lt dk a' b' lim wb wp).pi.1 wx)
                case first =>
                  cases h68 : (wb && wp && decide ((rd lt dk a' b' lim wb wp).hint = .increasing))
                  · have epi := rd_pi_no h68
                    go_wp2_with fail
                    go_meet
                    case rel => exact ⟨by rw [epi], by rw [epi]; exact hR3⟩
                  · have epi := rd_pi_yes h68
                    have hc19 := ptr_partialInsertionSort CC.out a' b' hR3 (by omega) hb'
                    rw [← epi] at hc19
                    go_wp2_with (go_at_call 43; refine hc19.mono ?_; clear hc19; rintro e w4 ⟨rfl, hR4⟩)
                    all_goals first
                      | (have hp2 : (rd lt dk a' b' lim wb wp).pi.2 = false := by rw [epi]; assumption
                         go_meet
                         exact ⟨hp2, hR4⟩)
                      | (have hp2 : (rd lt dk a' b' lim wb wp).pi.2 = true := by rw [epi]; assumption
                         (try simp only [Exit.inBlock, Exit.then]); refine bodyPost_ret (results_none rfl _ _ _) rfl ?_
                         refine ⟨rfl, ?_⟩
                         rw [← A.out, pdq_done h12 hl0 hp2]
                         exact hR4)
                case rest =>
                  clear hR3
                  obtain ⟨hp2, hR5⟩ := hcut
                  go_upto_region 17 with fail
                  go_cut [82] from 19 (fun s82 wx => s82 = .bool (decide (a' > 0) && !lt (rd lt dk a' b' lim wb wp).pi.1[a' - 1]! (rd lt dk a' b' lim wb wp).pi.1[(rd lt dk a' b' lim wb wp).pivot]!) ∧ Row enc W0 b n (rd lt dk a' b' lim wb wp).pi.1 wx)
                  case first =>
                    rcases Nat.eq_zero_or_pos a' with ha0 | ha0
                    · have ha0z : decide ((a' : Int) > 0) = false := decide_eq_false (by omega)
                      go_wp2_with fail
                      go_meet
                      case rel => exact ⟨by simp [ha0], hR5⟩
                    · have ha0z : (a' : Int) > 0 := by omega
                      have mL := hR5.mL CC.out
                      cases hlv : lt (rd lt dk a' b' lim wb wp).pi.1[a' - 1]! (rd lt dk a' b' lim wb wp).pi.1[(rd lt dk a' b' lim wb wp).pivot]! <;>
                        (go_wp2_with (go_at_call 24; refine (hR5.lessZ CC.out (a' - 1) (rd lt dk a' b' lim wb wp).pivot hlv _ _ (by omega) rfl (by omega) (by omega)).mono ?_; rintro e w6 ⟨rfl, hR6⟩)
                         go_meet
                         exact ⟨by simp [ha0, hlv], hR6⟩)
                  case rest =>
                    clear hR5
                    obtain ⟨rfl, hR6⟩ := hcut
                    cases h87 : (decide (a' > 0) && !lt (rd lt dk a' b' lim wb wp).pi.1[a' - 1]! (rd lt dk a' b' lim wb wp).pi.1[(rd lt dk a' b' lim wb wp).pivot]!)
                    · obtain ⟨mid, ap, d4, hx⟩ : ∃ mid ap d4, partition lt (rd lt dk a' b' lim wb wp).pi.1 a' b' (rd lt dk a' b' lim wb wp).pivot = (mid, ap, d4) := ⟨_, _, _, rfl⟩
                      obtain ⟨r1, r2, r3, r4, r5, r6, r7⟩ := round_part hO (partition_holds lt) hpv.1 hpv.2 (show b' ≤ (rd lt dk a' b' lim wb wp).pi.1.size by omega) B3 hx
                      have hc22 := ptr_partition CC.out a' b' (rd lt dk a' b' lim wb wp).pivot hR6 hpv.1 hpv.2 hb'
                      rw [hx] at hc22
                      have X := Aside0.mk hx
                      clear hx
                      go_upto_if 108 with (go_at_call 45; refine hc22.mono ?_; clear hc22; rintro e w7 ⟨rfl, hR7⟩)
                      have hx := X.out
                      have hs4 : d4.size = n := hR7.size
                      by_cases h4 : mid - a' < b' - mid
                      · have h4z : (mid : Int) - (a' : Int) < (b' : Int) - (mid : Int) := by omega
                        have hih := ih a' mid (rd lt dk a' b' lim wb wp).lim d4 w7 (by omega) hR7 (by omega) (by omega) (Nat.lt_of_le_of_lt (Nat.le_trans rd_lim_le hlim) hlimit) r4
                        obtain ⟨pL, sL⟩ := pdq_sorts lt hO d4 a' mid (rd lt dk a' b' lim wb wp).lim true true (by omega) (by omega) r4
                        go_wp2_with (go_at_call 35; refine hih.mono ?_; clear hih; rintro e w8 ⟨rfl, hR8⟩)
                        go_roundg (b' - (mid + 1))
                        case measure => omega
                        case rel =>
                          refine ⟨mid + 1, b', (rd lt dk a' b' lim wb wp).lim, decide (mid - a' ≥ (b' - a') / 8), ap, pdq lt d4 a' mid (rd lt dk a' b' lim wb wp).lim true true, by simp, rfl, rfl, ?_, rfl, by omega, by omega, Nat.le_refl _, by omega, Nat.le_trans rd_lim_le hlim, (r6 _ pL sL).1, hR8, ⟨?_⟩⟩
                          · exact congrArg Value.bool (eighth (by omega) (by omega))
                          · rw [← A.out, pdq_left h12 hl0 hp2 h87 (by rw [hx]; exact ⟨r1, r2⟩) (by rw [hx]; exact h4), hx]
                      · have h4z : ¬ ((mid : Int) - (a' : Int) < (b' : Int) - (mid : Int)) := by omega
                        have hih := ih (mid + 1) b' (rd lt dk a' b' lim wb wp).lim d4 w7 (by omega) hR7 (by omega) (by omega) (Nat.lt_of_le_of_lt (Nat.le_trans rd_lim_le hlim) hlimit) r5
                        rw [show ((mid + 1 : Nat) : Int) = (mid : Int) + 1 by omega] at hih
                        obtain ⟨pL, sL⟩ := pdq_sorts lt hO d4 (mid + 1) b' (rd lt dk a' b' lim wb wp).lim true true (by omega) (by omega) r5
                        go_wp2_with (go_at_call 35; refine hih.mono ?_; clear hih; rintro e w8 ⟨rfl, hR8⟩)
                        go_roundg (mid - a')
                        case measure => omega
                        case rel =>
                          refine ⟨a', mid, (rd lt dk a' b' lim wb wp).lim, decide (b' - mid ≥ (b' - a') / 8), ap, pdq lt d4 (mid + 1) b' (rd lt dk a' b' lim wb wp).lim true true, rfl, rfl, rfl, ?_, rfl, by omega, by omega, Nat.le_refl _, by omega, Nat.le_trans rd_lim_le hlim, (r7 _ pL sL).1, hR8, ⟨?_⟩⟩
                          · exact congrArg Value.bool (eighth (by omega) (by omega))
                          · rw [← A.out, pdq_right h12 hl0 hp2 h87 (by rw [hx]; exact ⟨r1, r2⟩) (by rw [hx]; exact h4), hx]
                    · have h87' := h87
                      simp only [Bool.and_eq_true, decide_eq_true_eq, Bool.not_eq_true'] at h87'
                      obtain ⟨mid, d4, hx⟩ : ∃ mid d4, partitionEqual lt (rd lt dk a' b' lim wb wp).pi.1 a' b' (rd lt dk a' b' lim wb wp).pivot = (mid, d4) := ⟨_, _, rfl⟩
                      obtain ⟨r1, r2, r3, r4, _⟩ := round_eq hO (partitionEqual_holds lt) h87'.1 hpv.1 hpv.2 (show b' ≤ (rd lt dk a' b' lim wb wp).pi.1.size by omega) B3 h87'.2 hx
                      have hc21 := ptr_partitionEqual CC.out a' b' (rd lt dk a' b' lim wb wp).pivot hR6 hpv.1 hpv.2 hb'
                      rw [hx] at hc21
                      have X := Aside0.mk hx
                      clear hx
                      go_wp2_with (go_at_call 44; refine hc21.mono ?_; clear hc21; rintro e w7 ⟨rfl, hR7⟩)
                      go_roundg (b' - mid)
                      case measure => omega
                      case rel =>
                        have hx := X.out
                        exact ⟨mid, b', (rd lt dk a' b' lim wb wp).lim, wb, wp, d4, rfl, rfl, rfl, rfl, rfl, r2, hb', Nat.le_refl _, by omega, Nat.le_trans rd_lim_le hlim, r4, hR7, ⟨by rw [← A.out, pdq_eq h12 hl0 hp2 h87 (by rw [hx]; exact ⟨r1, r2⟩), hx]⟩⟩
end
end Go.Proofs.Ytdmeackaiamkcaa.A
