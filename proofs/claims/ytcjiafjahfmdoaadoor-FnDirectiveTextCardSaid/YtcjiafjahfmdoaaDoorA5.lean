-- Written by a program of this session (gprint.py) out of the kit's print of the translation. Not trusted: Lean checks it.
import Derived.Test.YtcjiafjahfmdoaaDoorA0
import Derived.Test.YtcjiafjahfmdoaaDoorA4
namespace Go.Proofs.YtcjiafjahfmdoaaDoor.A
open Go.RowKit Go.Proofs.YtcjiafjahfmdoaaDoorW.PrintWords Go.Proofs.YtcjiafjahfmdoaaDoorW.PrintLast Go.Proofs.YtcjiafjahfmdoaaDoorW.PrintMore
attribute [local go_sem] max2_int min2_int max_two min_two max_three min_three max_four min_four   -- for this text's walks alone
set_option linter.unusedVariables false
set_option linter.unusedSimpArgs false

/-! ### spec_colonOf: function 13 -/
mutual
def spec_colonOf.l0 : Nat → ByteArray → Int → Int → Option (Int)
  | 0, _, _, _ => none
  | k + 1, x0, x5, x6 => if x6 < x5 then (if 0 ≤ x6 then (if x6 < (x0.size : Int) then (if (bt x0 x6) = 58 then (if x6 > 0 then (if (wrap64 (x6 + 1)) < (x0.size : Int) then (if 0 ≤ (wrap64 (x6 + 1)) then ((spec_isSmall.f (bt x0 (wrap64 (x6 + 1)))).bind fun t103 => (spec_colonOf.j1 k x0 x6 x5 x6 t103)) else (none)) else (spec_colonOf.j1 k x0 x6 x5 x6 false)) else (spec_colonOf.j1 k x0 x6 x5 x6 false)) else (spec_colonOf.j1 k x0 x6 x5 x6 false)) else (none)) else (none)) else (some (-1))
def spec_colonOf.j1 : Nat → ByteArray → Int → Int → Int → Bool → Option (Int)
  | 0, _, _, _, _, _ => none
  | k + 1, x0, x3, x5, x6, x30 => if x30 = true then (some x3) else (if 0 ≤ x3 then (if x3 < (x0.size : Int) then ((spec_isSmall.f (bt x0 x3)).bind fun t104 => (if t104 = true then (spec_colonOf.l0 k x0 x5 (wrap64 (x6 + 1))) else (some (-1)))) else (none)) else (none))
end
def spec_colonOf.f (k : Nat) (a0 : ByteArray) : Option (Int) := spec_colonOf.l0 k a0 (a0.size : Int) 0
theorem spec_colonOf.mono_l : ∀ k, (∀ y0 y1 y2, LeO (spec_colonOf.l0 k y0 y1 y2) (spec_colonOf.l0 (k + 1) y0 y1 y2)) ∧ (∀ y0 y1 y2 y3 y4, LeO (spec_colonOf.j1 k y0 y1 y2 y3 y4) (spec_colonOf.j1 (k + 1) y0 y1 y2 y3 y4))
  | 0 => ⟨fun _ _ _ r h => by simp [spec_colonOf.l0] at h, fun _ _ _ _ _ r h => by simp [spec_colonOf.j1] at h⟩
  | k + 1 => by
    obtain ⟨ih0, ih1⟩ := spec_colonOf.mono_l k
    refine ⟨?_, ?_⟩
    · intro y0 y1 y2
      unfold spec_colonOf.l0
      repeat' first
      | (with_reducible exact ih0 _ _ _)
      | (with_reducible exact ih1 _ _ _ _ _)
      | (with_reducible exact LeO.refl _)
      | (with_reducible exact LeO.none _)
      | (with_reducible refine LeO.ite ?_ ?_)
      | (with_reducible refine LeO.bind ?_ (fun _ => ?_))
      | exact ih0 _ _ _
      | exact ih1 _ _ _ _ _
      | exact LeO.none _
      | refine LeO.ite ?_ ?_
      | refine LeO.bind ?_ (fun _ => ?_)
    · intro y0 y1 y2 y3 y4
      unfold spec_colonOf.j1
      repeat' first
      | (with_reducible exact ih0 _ _ _)
      | (with_reducible exact ih1 _ _ _ _ _)
      | (with_reducible exact LeO.refl _)
      | (with_reducible exact LeO.none _)
      | (with_reducible refine LeO.ite ?_ ?_)
      | (with_reducible refine LeO.bind ?_ (fun _ => ?_))
      | exact ih0 _ _ _
      | exact ih1 _ _ _ _ _
      | exact LeO.none _
      | refine LeO.ite ?_ ?_
      | refine LeO.bind ?_ (fun _ => ?_)
theorem spec_colonOf.mono : ∀ a0 k, LeO (spec_colonOf.f k a0) (spec_colonOf.f (k + 1) a0) := by
  intro a0 k
  obtain ⟨ih0, ih1⟩ := spec_colonOf.mono_l k
  unfold spec_colonOf.f
  repeat' first
      | (with_reducible exact ih0 _ _ _)
      | (with_reducible exact ih1 _ _ _ _ _)
      | (with_reducible exact LeO.refl _)
      | (with_reducible exact LeO.none _)
      | (with_reducible refine LeO.ite ?_ ?_)
      | (with_reducible refine LeO.bind ?_ (fun _ => ?_))
      | exact ih0 _ _ _
      | exact ih1 _ _ _ _ _
      | exact LeO.none _
      | refine LeO.ite ?_ ?_
      | refine LeO.bind ?_ (fun _ => ?_)
set_option maxHeartbeats 8000000 in
set_option maxRecDepth 100000 in
theorem spec_colonOf.calls (k : Nat) (a0 : ByteArray) (r : Int) (w : World) (h : spec_colonOf.f k a0 = some r) :
    Calls Tryd.prog 13 #[.string a0] w fun e w' => e = .returned (.int .i64 r) ∧ Drawn0 w w' := by
  have H : (spec_colonOf.l0 k a0 (a0.size : Int) 0) = some r := h
  clear h
  have H' := Aside0.mk H
  clear H
  go_enter Tryd.func13, Tryd.ntmps13
  go_wp2
  go_loopg [6] k (fun kq v6 w' => ∃ (x6_1 : Int), v6 = .int .i64 x6_1 ∧ Aside0 (spec_colonOf.l0 kq a0 (a0.size : Int) x6_1 = some r) ∧ Aside0 (kq ≤ k) ∧ Drawn0 w w')
  case atStart => exact ⟨(0), (by first | rfl | (simp; done) | (simp [*]; done)), H', ⟨Nat.le_refl _⟩, by repeat (first | exact Drawn0.refl _ | apply Drawn0.step)⟩
  case round =>
    clear H'
    try clear c1
    obtain ⟨x6_1, rfl, HA, HK1, ⟨m1, rfl⟩⟩ := hrel
    cases gk with
    | zero => exact absurd HA.out (by simp [spec_colonOf.l0])
    | succ k1 =>
      have H := HA.out
      clear HA
      simp only [spec_colonOf.l0] at H
      by_cases c2 : x6_1 < (a0.size : Int)
      · rw [if_pos c2] at H
        have c2b0 : decide (x6_1 < (a0.size : Int)) = true := decide_eq_true c2
        clear c2
        have HC3 := Aside0.mk H
        clear H
        go_upto_region 4 with (fail)
        go_cut [30] (fun v30 wc => ∃ (kq : Nat) (x30_2 : Bool), v30 = .bool x30_2 ∧ Aside0 (spec_colonOf.j1 kq a0 x6_1 (a0.size : Int) x6_1 x30_2 = some r) ∧ Aside0 (kq ≤ k1) ∧ Drawn0 w wc)
        case first =>
          have H := HC3.out
          clear HC3
          by_cases c4 : 0 ≤ x6_1
          · rw [if_pos c4] at H
            have c4b0 : decide (0 ≤ x6_1) = true := decide_eq_true c4
            clear c4
            (first | rw [c4b0] | (simp only [i64_w, i32_w]; rw [c4b0]) | skip)
            by_cases c5 : x6_1 < (a0.size : Int)
            · rw [if_pos c5] at H
              have c5b0 : decide (x6_1 < (a0.size : Int)) = true := decide_eq_true c5
              clear c5
              by_cases c7 : (bt a0 x6_1) = 58
              · rw [if_pos c7] at H
                have c7b0 : ((bt a0 x6_1) == 58) = true := beq_iff_eq.mpr c7
                have c7b1 : ((bt a0 x6_1) != 58) = false := bne_eq_false_iff_eq.mpr c7
                clear c7
                by_cases c8 : x6_1 > 0
                · rw [if_pos c8] at H
                  have c8b0 : decide (0 < x6_1) = true := decide_eq_true c8
                  clear c8
                  by_cases c9 : (wrap64 (x6_1 + 1)) < (a0.size : Int)
                  · rw [if_pos c9] at H
                    have c9b0 : decide ((wrap64 (x6_1 + 1)) < (a0.size : Int)) = true := decide_eq_true c9
                    clear c9
                    obtain ⟨ji10, hji10⟩ : ∃ j_ : Int, (wrap64 (x6_1 + 1)) = j_ := ⟨_, rfl⟩
                    replace H : (if 0 ≤ (ji10) then ((spec_isSmall.f (bt a0 (ji10))).bind fun t103 => (spec_colonOf.j1 k1 a0 x6_1 (a0.size : Int) x6_1 t103)) else (none)) = some r := by first | (rw [hji10] at H; exact H) | (simp only [hji10] at H ⊢; exact H)
                    (try rw [hji10] at c9b0)
                    have hji10w : (IntKind.i64.wrap (x6_1 + 1)) = ji10 := (i64_w _).trans hji10
                    by_cases c11 : 0 ≤ (ji10)
                    · rw [if_pos c11] at H
                      have c11b0 : decide (0 ≤ (ji10)) = true := decide_eq_true c11
                      clear c11
                      replace H := Option.bind_eq_some_iff.mp H
                      obtain ⟨t103, A130, H⟩ := H
                      replace H : (spec_colonOf.j1 k1 a0 x6_1 (a0.size : Int) x6_1 t103) = some r := H
                      have A13 := Aside0.mk A130
                      clear A130
                      have H' := Aside0.mk H
                      clear H
                      have p6 : 0 ≤ (x6_1 : Int) := of_decide_eq_true (by first | (with_reducible assumption) | assumption)
                      have q6 : x6_1 < (a0.size : Int) := of_decide_eq_true (by first | (with_reducible assumption) | assumption)
                      have hx6 := bt_at a0 x6_1
                      replace p6 := eq_true p6
                      replace q6 := eq_true q6
                      have p12 : 0 ≤ ((ji10) : Int) := of_decide_eq_true (by first | (with_reducible assumption) | assumption)
                      have q12 : (ji10) < (a0.size : Int) := of_decide_eq_true (by first | (with_reducible assumption) | assumption)
                      have hx12 := bt_at a0 (ji10)
                      replace p12 := eq_true p12
                      replace q12 := eq_true q12
                      go_wp2_with (first | (go_at_call 20; (with_reducible refine (spec_isSmall.calls (bt a0 (ji10)) t103 _ A13.out).mono ?_); rintro e w' ⟨rfl, ⟨nd, rfl⟩⟩))
                      go_meet
                      case rel => exact ⟨_, (t103), (by first | rfl | (simp; done) | (simp [*]; done)), H', ⟨by have := HK1.out; first | omega | exact Nat.le_refl _⟩, by repeat (first | exact Drawn0.refl _ | apply Drawn0.step)⟩
                    · rw [if_neg c11] at H
                      exact absurd H (by simp)
                  · rw [if_neg c9] at H
                    have c9b0 : decide ((wrap64 (x6_1 + 1)) < (a0.size : Int)) = false := decide_eq_false c9
                    clear c9
                    have H' := Aside0.mk H
                    clear H
                    have p6 : 0 ≤ (x6_1 : Int) := of_decide_eq_true (by first | (with_reducible assumption) | assumption)
                    have q6 : x6_1 < (a0.size : Int) := of_decide_eq_true (by first | (with_reducible assumption) | assumption)
                    have hx6 := bt_at a0 x6_1
                    replace p6 := eq_true p6
                    replace q6 := eq_true q6
                    go_wp2
                    go_meet
                    case rel => exact ⟨_, (false), (by first | rfl | (simp; done) | (simp [*]; done)), H', ⟨by have := HK1.out; first | omega | exact Nat.le_refl _⟩, by repeat (first | exact Drawn0.refl _ | apply Drawn0.step)⟩
                · rw [if_neg c8] at H
                  have c8b0 : decide (0 < x6_1) = false := decide_eq_false c8
                  clear c8
                  have H' := Aside0.mk H
                  clear H
                  have p6 : 0 ≤ (x6_1 : Int) := of_decide_eq_true (by first | (with_reducible assumption) | assumption)
                  have q6 : x6_1 < (a0.size : Int) := of_decide_eq_true (by first | (with_reducible assumption) | assumption)
                  have hx6 := bt_at a0 x6_1
                  replace p6 := eq_true p6
                  replace q6 := eq_true q6
                  go_wp2
                  go_meet
                  case rel => exact ⟨_, (false), (by first | rfl | (simp; done) | (simp [*]; done)), H', ⟨by have := HK1.out; first | omega | exact Nat.le_refl _⟩, by repeat (first | exact Drawn0.refl _ | apply Drawn0.step)⟩
              · rw [if_neg c7] at H
                have c7b0 : ((bt a0 x6_1) == 58) = false := beq_eq_false_iff_ne.mpr c7
                have c7b1 : ((bt a0 x6_1) != 58) = true := bne_iff_ne.mpr c7
                have H' := Aside0.mk H
                clear H
                have p6 : 0 ≤ (x6_1 : Int) := of_decide_eq_true (by first | (with_reducible assumption) | assumption)
                have q6 : x6_1 < (a0.size : Int) := of_decide_eq_true (by first | (with_reducible assumption) | assumption)
                have hx6 := bt_at a0 x6_1
                replace p6 := eq_true p6
                replace q6 := eq_true q6
                go_wp2
                go_meet
                case rel => exact ⟨_, (false), (by first | rfl | (simp; done) | (simp [*]; done)), H', ⟨by have := HK1.out; first | omega | exact Nat.le_refl _⟩, by repeat (first | exact Drawn0.refl _ | apply Drawn0.step)⟩
            · rw [if_neg c5] at H
              exact absurd H (by simp)
          · rw [if_neg c4] at H
            exact absurd H (by simp)
        case rest =>
          clear HC3
          try clear c1
          try clear p1
          try clear q1
          try clear hx1
          try clear c2
          try clear c2b0
          try clear p2
          try clear c4
          try clear c4b0
          try clear c5
          try clear c5b0
          try clear p6
          try clear q6
          try clear hx6
          try clear c7
          try clear c7b0
          try clear c7b1
          try clear c8
          try clear c8b0
          try clear c9
          try clear c9b0
          try clear c11
          try clear c11b0
          try clear p12
          try clear q12
          try clear hx12
          try clear c13
          try clear p12
          try clear p6
          try clear q12
          try clear q6
          obtain ⟨kq, x30_2, rfl, HA, HJ2, ⟨mc2, rfl⟩⟩ := hcut
          cases kq with
          | zero => exact absurd HA.out (by simp [spec_colonOf.j1])
          | succ kj2 =>
            have H := HA.out
            clear HA
            simp only [spec_colonOf.j1] at H
            by_cases c14 : x30_2 = true
            · subst c14
              have H1 : (some x6_1) = some r := by rw [if_pos rfl] at H; exact H
              clear H
              have H := H1
              clear H1
              obtain rfl := Option.some.inj H
              go_wp2
              go_ret
              exact ⟨by first | rfl | (simp; done) | (simp [*]; done), by repeat (first | exact Drawn0.refl _ | apply Drawn0.step)⟩
            · replace c14 := Bool.eq_false_iff.mpr c14
              subst c14
              have H1 : (if 0 ≤ x6_1 then (if x6_1 < (a0.size : Int) then ((spec_isSmall.f (bt a0 x6_1)).bind fun t104 => (if t104 = true then (spec_colonOf.l0 kj2 a0 (a0.size : Int) (wrap64 (x6_1 + 1))) else (some (-1)))) else (none)) else (none)) = some r := by rw [if_neg (show ¬ (false = true) by decide)] at H; exact H
              clear H
              have H := H1
              clear H1
              by_cases c15 : 0 ≤ x6_1
              · rw [if_pos c15] at H
                have c15b0 : decide (0 ≤ x6_1) = true := decide_eq_true c15
                clear c15
                by_cases c16 : x6_1 < (a0.size : Int)
                · rw [if_pos c16] at H
                  have c16b0 : decide (x6_1 < (a0.size : Int)) = true := decide_eq_true c16
                  clear c16
                  replace H := Option.bind_eq_some_iff.mp H
                  obtain ⟨t104, A180, H⟩ := H
                  replace H : (if t104 = true then (spec_colonOf.l0 kj2 a0 (a0.size : Int) (wrap64 (x6_1 + 1))) else (some (-1))) = some r := H
                  have A18 := Aside0.mk A180
                  clear A180
                  by_cases c19 : t104 = true
                  · subst c19
                    have H1 : (spec_colonOf.l0 kj2 a0 (a0.size : Int) (wrap64 (x6_1 + 1))) = some r := by rw [if_pos rfl] at H; exact H
                    clear H
                    have H := H1
                    clear H1
                    have H' := Aside0.mk H
                    clear H
                    have p17 : 0 ≤ (x6_1 : Int) := of_decide_eq_true (by first | (with_reducible assumption) | assumption)
                    have q17 : x6_1 < (a0.size : Int) := of_decide_eq_true (by first | (with_reducible assumption) | assumption)
                    have hx17 := bt_at a0 x6_1
                    replace p17 := eq_true p17
                    replace q17 := eq_true q17
                    go_wp2_with (first | ((with_reducible refine gate_callee (f := 20) rfl ?_); refine goesL_ (some 35) rfl rfl Tryd.func20 (by kernel_rfl) rfl #[.int .u8 (bt a0 x6_1)] rfl (by (try simp only [List.map_toArray, List.map_cons, List.map_nil]); first | done | rfl | (simp only [List.length_drop, List.length_take]; rfl)) ?_; (with_reducible refine (spec_isSmall.calls (bt a0 x6_1) true _ A18.out).mono ?_); rintro e w' ⟨rfl, ⟨nd, rfl⟩⟩; refine ⟨_, rfl, ?_⟩))
                    go_roundg kj2
                    case measure => have := HK1.out; have := HJ2.out; omega
                    case rel => exact ⟨(wrap64 (x6_1 + 1)), (by first | rfl | (simp; done) | (simp [*]; done)), H', ⟨by have := HK1.out; have := HJ2.out; omega⟩, by repeat (first | exact Drawn0.refl _ | apply Drawn0.step)⟩
                  · replace c19 := Bool.eq_false_iff.mpr c19
                    subst c19
                    have H1 : (some (-1)) = some r := by rw [if_neg (show ¬ (false = true) by decide)] at H; exact H
                    clear H
                    have H := H1
                    clear H1
                    obtain rfl := Option.some.inj H
                    have p17 : 0 ≤ (x6_1 : Int) := of_decide_eq_true (by first | (with_reducible assumption) | assumption)
                    have q17 : x6_1 < (a0.size : Int) := of_decide_eq_true (by first | (with_reducible assumption) | assumption)
                    have hx17 := bt_at a0 x6_1
                    replace p17 := eq_true p17
                    replace q17 := eq_true q17
                    go_wp2_with (first | ((with_reducible refine gate_callee (f := 20) rfl ?_); refine goesL_ (some 35) rfl rfl Tryd.func20 (by kernel_rfl) rfl #[.int .u8 (bt a0 x6_1)] rfl (by (try simp only [List.map_toArray, List.map_cons, List.map_nil]); first | done | rfl | (simp only [List.length_drop, List.length_take]; rfl)) ?_; (with_reducible refine (spec_isSmall.calls (bt a0 x6_1) false _ A18.out).mono ?_); rintro e w' ⟨rfl, ⟨nd, rfl⟩⟩; refine ⟨_, rfl, ?_⟩))
                    go_ret
                    exact ⟨by first | rfl | (simp; done) | (simp [*]; done), by repeat (first | exact Drawn0.refl _ | apply Drawn0.step)⟩
                · rw [if_neg c16] at H
                  exact absurd H (by simp)
              · rw [if_neg c15] at H
                exact absurd H (by simp)
      · rw [if_neg c2] at H
        have c2b0 : decide (x6_1 < (a0.size : Int)) = false := decide_eq_false c2
        clear c2
        obtain rfl := Option.some.inj H
        go_wp2
        go_ret
        exact ⟨by first | rfl | (simp; done) | (simp [*]; done), by repeat (first | exact Drawn0.refl _ | apply Drawn0.step)⟩

end Go.Proofs.YtcjiafjahfmdoaaDoor.A
