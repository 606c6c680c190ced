-- Written by a program of this session (gprint.py) out of the kit's print of the translation. Not trusted: Lean checks it.
import Derived.Test.YtcjiafjahfmdoaaFmtA0
namespace Go.Proofs.YtcjiafjahfmdoaaFmt.A
open Go.RowKit Go.Proofs.YtcjiafjahfmdoaaFmtW.PrintWords Go.Proofs.YtcjiafjahfmdoaaFmtW.PrintLast Go.Proofs.YtcjiafjahfmdoaaFmtW.PrintMore
attribute [local go_sem] max2_int min2_int max_two min_two max_three min_three max_four min_four   -- for this text's walks alone
set_option linter.unusedVariables false
set_option linter.unusedSimpArgs false

/-! ### strconv_unhex: function 48 -/
mutual
def strconv_unhex.j0 : Nat → Int → Bool → Int → Bool → Option (Int × Bool)
  | 0, _, _, _, _ => none
  | k + 1, x2, x3, x4, x7 => if x7 = true then (some (wrap32 (x4 - 48), true)) else (if 97 ≤ x4 then (strconv_unhex.j1 k x2 x3 x4 (decide (x4 ≤ 102))) else (strconv_unhex.j1 k x2 x3 x4 false))
def strconv_unhex.j1 : Nat → Int → Bool → Int → Bool → Option (Int × Bool)
  | 0, _, _, _, _ => none
  | k + 1, x2, x3, x4, x16 => if x16 = true then (some (wrap32 ((wrap32 (x4 - 97)) + 10), true)) else (if 65 ≤ x4 then (if x4 ≤ 70 then (some (wrap32 ((wrap32 (x4 - 65)) + 10), true)) else (some (x2, x3))) else (some (x2, x3)))
end
def strconv_unhex.f (k : Nat) (a0 : Int) : Option (Int × Bool) := if 48 ≤ (wrap32 (a0)) then (strconv_unhex.j0 k 0 false (wrap32 (a0)) (decide ((wrap32 (a0)) ≤ 57))) else (strconv_unhex.j0 k 0 false (wrap32 (a0)) false)
theorem strconv_unhex.mono_l : ∀ k, (∀ y0 y1 y2 y3, LeO (strconv_unhex.j0 k y0 y1 y2 y3) (strconv_unhex.j0 (k + 1) y0 y1 y2 y3)) ∧ (∀ y0 y1 y2 y3, LeO (strconv_unhex.j1 k y0 y1 y2 y3) (strconv_unhex.j1 (k + 1) y0 y1 y2 y3))
  | 0 => ⟨fun _ _ _ _ r h => by simp [strconv_unhex.j0] at h, fun _ _ _ _ r h => by simp [strconv_unhex.j1] at h⟩
  | k + 1 => by
    obtain ⟨ih0, ih1⟩ := strconv_unhex.mono_l k
    refine ⟨?_, ?_⟩
    · intro y0 y1 y2 y3
      unfold strconv_unhex.j0
      repeat' first
      | (with_reducible exact ih0 _ _ _ _)
      | (with_reducible exact ih1 _ _ _ _)
      | (with_reducible exact LeO.refl _)
      | (with_reducible exact LeO.none _)
      | (with_reducible refine LeO.ite ?_ ?_)
      | (with_reducible refine LeO.bind ?_ (fun _ => ?_))
      | exact ih0 _ _ _ _
      | exact ih1 _ _ _ _
      | exact LeO.none _
      | refine LeO.ite ?_ ?_
      | refine LeO.bind ?_ (fun _ => ?_)
    · intro y0 y1 y2 y3
      unfold strconv_unhex.j1
      repeat' first
      | (with_reducible exact ih0 _ _ _ _)
      | (with_reducible exact ih1 _ _ _ _)
      | (with_reducible exact LeO.refl _)
      | (with_reducible exact LeO.none _)
      | (with_reducible refine LeO.ite ?_ ?_)
      | (with_reducible refine LeO.bind ?_ (fun _ => ?_))
      | exact ih0 _ _ _ _
      | exact ih1 _ _ _ _
      | exact LeO.none _
      | refine LeO.ite ?_ ?_
      | refine LeO.bind ?_ (fun _ => ?_)
theorem strconv_unhex.mono : ∀ a0 k, LeO (strconv_unhex.f k a0) (strconv_unhex.f (k + 1) a0) := by
  intro a0 k
  obtain ⟨ih0, ih1⟩ := strconv_unhex.mono_l k
  unfold strconv_unhex.f
  repeat' first
      | (with_reducible exact ih0 _ _ _ _)
      | (with_reducible exact ih1 _ _ _ _)
      | (with_reducible exact LeO.refl _)
      | (with_reducible exact LeO.none _)
      | (with_reducible refine LeO.ite ?_ ?_)
      | (with_reducible refine LeO.bind ?_ (fun _ => ?_))
      | exact ih0 _ _ _ _
      | exact ih1 _ _ _ _
      | exact LeO.none _
      | refine LeO.ite ?_ ?_
      | refine LeO.bind ?_ (fun _ => ?_)
set_option maxHeartbeats 8000000 in
set_option maxRecDepth 100000 in
theorem strconv_unhex.calls (k : Nat) (a0 : Int) (r1 : Int) (r2 : Bool) (w : World) (h : strconv_unhex.f k a0 = some (r1, r2)) :
    Calls Tryf.prog 48 #[.int .u8 a0] w fun e w' => e = .returned (.tuple #[.int .i32 r1, .bool r2]) ∧ Drawn0 w w' := by
  have H : (if 48 ≤ (wrap32 (a0)) then (strconv_unhex.j0 k 0 false (wrap32 (a0)) (decide ((wrap32 (a0)) ≤ 57))) else (strconv_unhex.j0 k 0 false (wrap32 (a0)) false)) = some (r1, r2) := h
  clear h
  have HC2 := Aside0.mk H
  clear H
  go_enter Tryf.func48, Tryf.ntmps48
  go_upto_region 2 with (fail)
  go_cut [7] (fun v7 wc => ∃ (kq : Nat) (x7_1 : Bool), v7 = .bool x7_1 ∧ Aside0 (strconv_unhex.j0 kq 0 false (wrap32 (a0)) x7_1 = some (r1, r2)) ∧ Aside0 (kq ≤ k) ∧ Drawn0 w wc)
  case first =>
    have H := HC2.out
    clear HC2
    by_cases c3 : 48 ≤ (wrap32 (a0))
    · rw [if_pos c3] at H
      have c3b0 : decide (48 ≤ (wrap32 (a0))) = true := decide_eq_true c3
      clear c3
      (first | rw [c3b0] | (simp only [i64_w, i32_w]; rw [c3b0]) | skip)
      have H' := Aside0.mk H
      clear H
      go_wp2
      go_meet
      case rel => exact ⟨_, (decide ((wrap32 (a0)) ≤ 57)), (by first | rfl | (simp; done) | (simp [*]; done)), H', ⟨by first | omega | exact Nat.le_refl _⟩, by repeat (first | exact Drawn0.refl _ | apply Drawn0.step)⟩
    · rw [if_neg c3] at H
      have c3b0 : decide (48 ≤ (wrap32 (a0))) = false := decide_eq_false c3
      clear c3
      (first | rw [c3b0] | (simp only [i64_w, i32_w]; rw [c3b0]) | skip)
      have H' := Aside0.mk H
      clear H
      go_wp2
      go_meet
      case rel => exact ⟨_, (false), (by first | rfl | (simp; done) | (simp [*]; done)), H', ⟨by first | omega | exact Nat.le_refl _⟩, by repeat (first | exact Drawn0.refl _ | apply Drawn0.step)⟩
  case rest =>
    clear HC2
    try clear p2
    try clear c3
    try clear c3b0
    try clear p3
    obtain ⟨kq, x7_1, rfl, HA, HJ1, ⟨mc1, rfl⟩⟩ := hcut
    cases kq with
    | zero => exact absurd HA.out (by simp [strconv_unhex.j0])
    | succ kj1 =>
      have H := HA.out
      clear HA
      simp only [strconv_unhex.j0] at H
      by_cases c4 : x7_1 = true
      · subst c4
        have H1 : (some (wrap32 ((wrap32 (a0)) - 48), true)) = some (r1, r2) := by rw [if_pos rfl] at H; exact H
        clear H
        have H := H1
        clear H1
        simp only [Option.some.injEq, Prod.mk.injEq] at H
        obtain ⟨rfl, rfl⟩ := H
        go_wp2
        go_ret2
        exact ⟨by first | rfl | (simp; done) | (simp [*]; done), by repeat (first | exact Drawn0.refl _ | apply Drawn0.step)⟩
      · replace c4 := Bool.eq_false_iff.mpr c4
        subst c4
        have H1 : (if 97 ≤ (wrap32 (a0)) then (strconv_unhex.j1 kj1 0 false (wrap32 (a0)) (decide ((wrap32 (a0)) ≤ 102))) else (strconv_unhex.j1 kj1 0 false (wrap32 (a0)) false)) = some (r1, r2) := by rw [if_neg (show ¬ (false = true) by decide)] at H; exact H
        clear H
        have H := H1
        clear H1
        have HC5 := Aside0.mk H
        clear H
        go_upto_region 4 with (fail)
        go_cut [16] (fun v16 wc => ∃ (kq : Nat) (x16_4 : Bool), v16 = .bool x16_4 ∧ Aside0 (strconv_unhex.j1 kq 0 false (wrap32 (a0)) x16_4 = some (r1, r2)) ∧ Aside0 (kq ≤ kj1) ∧ Drawn0 w wc)
        case first =>
          have H := HC5.out
          clear HC5
          by_cases c6 : 97 ≤ (wrap32 (a0))
          · rw [if_pos c6] at H
            have c6b0 : decide (97 ≤ (wrap32 (a0))) = true := decide_eq_true c6
            clear c6
            (first | rw [c6b0] | (simp only [i64_w, i32_w]; rw [c6b0]) | skip)
            have H' := Aside0.mk H
            clear H
            go_wp2
            go_meet
            case rel => exact ⟨_, (decide ((wrap32 (a0)) ≤ 102)), (by first | rfl | (simp; done) | (simp [*]; done)), H', ⟨by have := HJ1.out; first | omega | exact Nat.le_refl _⟩, by repeat (first | exact Drawn0.refl _ | apply Drawn0.step)⟩
          · rw [if_neg c6] at H
            have c6b0 : decide (97 ≤ (wrap32 (a0))) = false := decide_eq_false c6
            clear c6
            (first | rw [c6b0] | (simp only [i64_w, i32_w]; rw [c6b0]) | skip)
            have H' := Aside0.mk H
            clear H
            go_wp2
            go_meet
            case rel => exact ⟨_, (false), (by first | rfl | (simp; done) | (simp [*]; done)), H', ⟨by have := HJ1.out; first | omega | exact Nat.le_refl _⟩, by repeat (first | exact Drawn0.refl _ | apply Drawn0.step)⟩
        case rest =>
          clear HC5
          try clear c1
          try clear p2
          try clear c3
          try clear c3b0
          try clear p3
          try clear c4
          try clear c6
          try clear c6b0
          try clear p2
          try clear p3
          obtain ⟨kq, x16_4, rfl, HA, HJ4, ⟨mc4, rfl⟩⟩ := hcut
          cases kq with
          | zero => exact absurd HA.out (by simp [strconv_unhex.j1])
          | succ kj4 =>
            have H := HA.out
            clear HA
            simp only [strconv_unhex.j1] at H
            by_cases c7 : x16_4 = true
            · subst c7
              have H1 : (some (wrap32 ((wrap32 ((wrap32 (a0)) - 97)) + 10), true)) = some (r1, r2) := by rw [if_pos rfl] at H; exact H
              clear H
              have H := H1
              clear H1
              simp only [Option.some.injEq, Prod.mk.injEq] at H
              obtain ⟨rfl, rfl⟩ := H
              go_wp2
              go_ret2
              exact ⟨by first | rfl | (simp; done) | (simp [*]; done), by repeat (first | exact Drawn0.refl _ | apply Drawn0.step)⟩
            · replace c7 := Bool.eq_false_iff.mpr c7
              subst c7
              have H1 : (if 65 ≤ (wrap32 (a0)) then (if (wrap32 (a0)) ≤ 70 then (some (wrap32 ((wrap32 ((wrap32 (a0)) - 65)) + 10), true)) else (some (0, false))) else (some (0, false))) = some (r1, r2) := by rw [if_neg (show ¬ (false = true) by decide)] at H; exact H
              clear H
              have H := H1
              clear H1
              by_cases c8 : 65 ≤ (wrap32 (a0))
              · rw [if_pos c8] at H
                have c8b0 : decide (65 ≤ (wrap32 (a0))) = true := decide_eq_true c8
                clear c8
                by_cases c9 : (wrap32 (a0)) ≤ 70
                · rw [if_pos c9] at H
                  have c9b0 : decide ((wrap32 (a0)) ≤ 70) = true := decide_eq_true c9
                  clear c9
                  simp only [Option.some.injEq, Prod.mk.injEq] at H
                  obtain ⟨rfl, rfl⟩ := H
                  go_wp2
                  go_ret2
                  exact ⟨by first | rfl | (simp; done) | (simp [*]; done), by repeat (first | exact Drawn0.refl _ | apply Drawn0.step)⟩
                · rw [if_neg c9] at H
                  have c9b0 : decide ((wrap32 (a0)) ≤ 70) = false := decide_eq_false c9
                  clear c9
                  simp only [Option.some.injEq, Prod.mk.injEq] at H
                  obtain ⟨rfl, rfl⟩ := H
                  go_wp2
                  go_ret2
                  exact ⟨by first | rfl | (simp; done) | (simp [*]; done), by repeat (first | exact Drawn0.refl _ | apply Drawn0.step)⟩
              · rw [if_neg c8] at H
                have c8b0 : decide (65 ≤ (wrap32 (a0))) = false := decide_eq_false c8
                clear c8
                simp only [Option.some.injEq, Prod.mk.injEq] at H
                obtain ⟨rfl, rfl⟩ := H
                go_wp2
                go_ret2
                exact ⟨by first | rfl | (simp; done) | (simp [*]; done), by repeat (first | exact Drawn0.refl _ | apply Drawn0.step)⟩

end Go.Proofs.YtcjiafjahfmdoaaFmt.A
