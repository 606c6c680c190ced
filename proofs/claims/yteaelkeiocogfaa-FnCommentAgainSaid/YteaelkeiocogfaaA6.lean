-- Written by a program of this session (gprint.py) out of the kit's print of the translation. Not trusted: Lean checks it.
import Derived.Test.YteaelkeiocogfaaA0
import Derived.Test.YteaelkeiocogfaaA1
import Derived.Test.YteaelkeiocogfaaA3
import Derived.Test.YteaelkeiocogfaaA5
namespace Go.Proofs.Yteaelkeiocogfaa.A
open Go.RowKit Go.Proofs.YteaelkeiocogfaaW.PrintWords Go.Proofs.YteaelkeiocogfaaW.PrintLast Go.Proofs.YteaelkeiocogfaaW.PrintMore
attribute [local go_sem] max2_int min2_int max_two min_two max_three min_three max_four min_four   -- for this text's walks alone
set_option linter.unusedVariables false
set_option linter.unusedSimpArgs false

/-! ### spec_colonOf: function 58 -/
mutual
def spec_colonOf.l0 : Nat → ByteArray → Int → Int → Option (Int)
  | 0, _, _, _ => none
  | k + 1, x0, x5, x6 => if x6 < x5 then (if 0 ≤ x6 then (if x6 < (x0.size : Int) then (if (bt x0 x6) = 58 then (if x6 > 0 then (if (wrap64 (x6 + 1)) < (x0.size : Int) then (if 0 ≤ (wrap64 (x6 + 1)) then ((spec_isSmall.f (bt x0 (wrap64 (x6 + 1)))).bind fun t169 => (spec_colonOf.j1 k x0 x6 x5 x6 t169)) else (none)) else (spec_colonOf.j1 k x0 x6 x5 x6 false)) else (spec_colonOf.j1 k x0 x6 x5 x6 false)) else (spec_colonOf.j1 k x0 x6 x5 x6 false)) else (none)) else (none)) else (some (-1))
def spec_colonOf.j1 : Nat → ByteArray → Int → Int → Int → Bool → Option (Int)
  | 0, _, _, _, _, _ => none
  | k + 1, x0, x3, x5, x6, x30 => if x30 = true then (some x3) else (if 0 ≤ x3 then (if x3 < (x0.size : Int) then ((spec_isSmall.f (bt x0 x3)).bind fun t170 => (if t170 = true then (spec_colonOf.l0 k x0 x5 (wrap64 (x6 + 1))) else (some (-1)))) else (none)) else (none))
end
def spec_colonOf.f (k : Nat) (a0 : ByteArray) : Option (Int) := spec_colonOf.l0 k a0 (a0.size : Int) 0
theorem spec_colonOf.mono_l : ∀ k, (∀ y0 y1 y2, LeO (spec_colonOf.l0 k y0 y1 y2) (spec_colonOf.l0 (k + 1) y0 y1 y2)) ∧ (∀ y0 y1 y2 y3 y4, LeO (spec_colonOf.j1 k y0 y1 y2 y3 y4) (spec_colonOf.j1 (k + 1) y0 y1 y2 y3 y4))
  | 0 => ⟨fun _ _ _ r h => by simp [spec_colonOf.l0] at h, fun _ _ _ _ _ r h => by simp [spec_colonOf.j1] at h⟩
  | k + 1 => by
    obtain ⟨ih0, ih1⟩ := spec_colonOf.mono_l k
    refine ⟨?_, ?_⟩
    · intro y0 y1 y2
      unfold spec_colonOf.l0
      repeat' first
      | (with_reducible exact ih0 _ _ _)
      | (with_reducible exact ih1 _ _ _ _ _)
      | (with_reducible exact LeO.refl _)
      | (with_reducible exact LeO.none _)
      | (with_reducible refine LeO.ite ?_ ?_)
      | (with_reducible refine LeO.bind ?_ (fun _ => ?_))
      | exact ih0 _ _ _
      | exact ih1 _ _ _ _ _
      | exact LeO.none _
      | refine LeO.ite ?_ ?_
      | refine LeO.bind ?_ (fun _ => ?_)
    · intro y0 y1 y2 y3 y4
      unfold spec_colonOf.j1
      repeat' first
      | (with_reducible exact ih0 _ _ _)
      | (with_reducible exact ih1 _ _ _ _ _)
      | (with_reducible exact LeO.refl _)
      | (with_reducible exact LeO.none _)
      | (with_reducible refine LeO.ite ?_ ?_)
      | (with_reducible refine LeO.bind ?_ (fun _ => ?_))
      | exact ih0 _ _ _
      | exact ih1 _ _ _ _ _
      | exact LeO.none _
      | refine LeO.ite ?_ ?_
      | refine LeO.bind ?_ (fun _ => ?_)
theorem spec_colonOf.mono : ∀ a0 k, LeO (spec_colonOf.f k a0) (spec_colonOf.f (k + 1) a0) := by
  intro a0 k
  obtain ⟨ih0, ih1⟩ := spec_colonOf.mono_l k
  unfold spec_colonOf.f
  repeat' first
      | (with_reducible exact ih0 _ _ _)
      | (with_reducible exact ih1 _ _ _ _ _)
      | (with_reducible exact LeO.refl _)
      | (with_reducible exact LeO.none _)
      | (with_reducible refine LeO.ite ?_ ?_)
      | (with_reducible refine LeO.bind ?_ (fun _ => ?_))
      | exact ih0 _ _ _
      | exact ih1 _ _ _ _ _
      | exact LeO.none _
      | refine LeO.ite ?_ ?_
      | refine LeO.bind ?_ (fun _ => ?_)
set_option maxHeartbeats 8000000 in
set_option maxRecDepth 100000 in
theorem spec_colonOf.calls (k : Nat) (a0 : ByteArray) (r : Int) (w : World) (h : spec_colonOf.f k a0 = some r) :
    Calls Try.prog 58 #[.string a0] w fun e w' => e = .returned (.int .i64 r) ∧ Drawn0 w w' := by
  have H : (spec_colonOf.l0 k a0 (a0.size : Int) 0) = some r := h
  clear h
  have H' := Aside0.mk H
  clear H
  go_enter Try.func58, Try.ntmps58
  go_wp2
  go_loopg [6] k (fun kq v6 w' => ∃ (x6_1 : Int), v6 = .int .i64 x6_1 ∧ Aside0 (spec_colonOf.l0 kq a0 (a0.size : Int) x6_1 = some r) ∧ Aside0 (kq ≤ k) ∧ Drawn0 w w')
  case atStart => exact ⟨(0), (by first | rfl | (simp; done) | (simp [*]; done)), H', ⟨Nat.le_refl _⟩, by repeat (first | exact Drawn0.refl _ | apply Drawn0.step)⟩
  case round =>
    clear H'
    obtain ⟨x6_1, rfl, HA, HK1, ⟨m1, rfl⟩⟩ := hrel
    cases gk with
    | zero => exact absurd HA.out (by simp [spec_colonOf.l0])
    | succ k1 =>
      have H := HA.out
      clear HA
      simp only [spec_colonOf.l0] at H
      by_cases c2 : x6_1 < (a0.size : Int)
      · rw [if_pos c2] at H
        have c2b0 : decide (x6_1 < (a0.size : Int)) = true := decide_eq_true c2
        clear c2
        have HC3 := Aside0.mk H
        clear H
        go_upto_region 4 with (fail)
        go_cut [30] (fun v30 wc => ∃ (kq : Nat) (x30_2 : Bool), v30 = .bool x30_2 ∧ Aside0 (spec_colonOf.j1 kq a0 x6_1 (a0.size : Int) x6_1 x30_2 = some r) ∧ Aside0 (kq ≤ k1) ∧ Drawn0 w wc)
        case first =>
          have H := HC3.out
          clear HC3
          by_cases c4 : 0 ≤ x6_1
          · rw [if_pos c4] at H
            have c4b0 : decide (0 ≤ x6_1) = true := decide_eq_true c4
            clear c4
            (first | rw [c4b0] | (simp only [i64_w, i32_w]; rw [c4b0]) | skip)
            by_cases c5 : x6_1 < (a0.size : Int)
            · rw [if_pos c5] at H
              have c5b0 : decide (x6_1 < (a0.size : Int)) = true := decide_eq_true c5
              clear c5
              by_cases c7 : (bt a0 x6_1) = 58
              · rw [if_pos c7] at H
                have c7b0 : ((bt a0 x6_1) == 58) = true := beq_iff_eq.mpr c7
                have c7b1 : ((bt a0 x6_1) != 58) = false := bne_eq_false_iff_eq.mpr c7
                clear c7
                by_cases c8 : x6_1 > 0
                · rw [if_pos c8] at H
                  have c8b0 : decide (0 < x6_1) = true := decide_eq_true c8
                  clear c8
                  by_cases c9 : (wrap64 (x6_1 + 1)) < (a0.size : Int)
                  · rw [if_pos c9] at H
                    have c9b0 : decide ((wrap64 (x6_1 + 1)) < (a0.size : Int)) = true := decide_eq_true c9
                    clear c9
                    obtain ⟨ji10, hji10⟩ : ∃ j_ : Int, (wrap64 (x6_1 + 1)) = j_ := ⟨_, rfl⟩
                    replace H : (if 0 ≤ (ji10) then ((spec_isSmall.f (bt a0 (ji10))).bind fun t169 => (spec_colonOf.j1 k1 a0 x6_1 (a0.size : Int) x6_1 t169)) else (none)) = some r := by first | (rw [hji10] at H; exact H) | (simp only [hji10] at H ⊢; exact H)
                    (try rw [hji10] at c9b0)
                    have hji10w : (IntKind.i64.wrap (x6_1 + 1)) = ji10 := (i64_w _).trans hji10
                    by_cases c11 : 0 ≤ (ji10)
                    · rw [if_pos c11] at H
                      have c11b0 : decide (0 ≤ (ji10)) = true := decide_eq_true c11
                      clear c11
                      replace H := Option.bind_eq_some_iff.mp H
                      obtain ⟨t169, A130, H⟩ := H
                      replace H : (spec_colonOf.j1 k1 a0 x6_1 (a0.size : Int) x6_1 t169) = some r := H
                      have A13 := Aside0.mk A130
                      clear A130
                      have H' := Aside0.mk H
                      clear H
                      have p6 : 0 ≤ (x6_1 : Int) := of_decide_eq_true (by first | (with_reducible assumption) | assumption)
                      have q6 : x6_1 < (a0.size : Int) := of_decide_eq_true (by first | (with_reducible assumption) | assumption)
                      have hx6 := bt_at a0 x6_1
                      replace p6 := eq_true p6
                      replace q6 := eq_true q6
                      have p12 : 0 ≤ ((ji10) : Int) := of_decide_eq_true (by first | (with_reducible assumption) | assumption)
                      have q12 : (ji10) < (a0.size : Int) := of_decide_eq_true (by first | (with_reducible assumption) | assumption)
                      have hx12 := bt_at a0 (ji10)
                      replace p12 := eq_true p12
                      replace q12 := eq_true q12
                      go_wp2_with (first | (go_at_call 64; (with_reducible refine (spec_isSmall.calls (bt a0 (ji10)) t169 _ A13.out).mono ?_); rintro e w' ⟨rfl, ⟨nd, rfl⟩⟩))
                      go_meet
                      case rel => exact ⟨_, (t169), (by first | rfl | (simp; done) | (simp [*]; done)), H', ⟨by have := HK1.out; first | omega | exact Nat.le_refl _⟩, by repeat (first | exact Drawn0.refl _ | apply Drawn0.step)⟩
                    · rw [if_neg c11] at H
                      exact absurd H (by simp)
                  · rw [if_neg c9] at H
                    have c9b0 : decide ((wrap64 (x6_1 + 1)) < (a0.size : Int)) = false := decide_eq_false c9
                    clear c9
                    have H' := Aside0.mk H
                    clear H
                    have p6 : 0 ≤ (x6_1 : Int) := of_decide_eq_true (by first | (with_reducible assumption) | assumption)
                    have q6 : x6_1 < (a0.size : Int) := of_decide_eq_true (by first | (with_reducible assumption) | assumption)
                    have hx6 := bt_at a0 x6_1
                    replace p6 := eq_true p6
                    replace q6 := eq_true q6
                    go_wp2
                    go_meet
                    case rel => exact ⟨_, (false), (by first | rfl | (simp; done) | (simp [*]; done)), H', ⟨by have := HK1.out; first | omega | exact Nat.le_refl _⟩, by repeat (first | exact Drawn0.refl _ | apply Drawn0.step)⟩
                · rw [if_neg c8] at H
                  have c8b0 : decide (0 < x6_1) = false := decide_eq_false c8
                  clear c8
                  have H' := Aside0.mk H
                  clear H
                  have p6 : 0 ≤ (x6_1 : Int) := of_decide_eq_true (by first | (with_reducible assumption) | assumption)
                  have q6 : x6_1 < (a0.size : Int) := of_decide_eq_true (by first | (with_reducible assumption) | assumption)
                  have hx6 := bt_at a0 x6_1
                  replace p6 := eq_true p6
                  replace q6 := eq_true q6
                  go_wp2
                  go_meet
                  case rel => exact ⟨_, (false), (by first | rfl | (simp; done) | (simp [*]; done)), H', ⟨by have := HK1.out; first | omega | exact Nat.le_refl _⟩, by repeat (first | exact Drawn0.refl _ | apply Drawn0.step)⟩
              · rw [if_neg c7] at H
                have c7b0 : ((bt a0 x6_1) == 58) = false := beq_eq_false_iff_ne.mpr c7
                have c7b1 : ((bt a0 x6_1) != 58) = true := bne_iff_ne.mpr c7
                have H' := Aside0.mk H
                clear H
                have p6 : 0 ≤ (x6_1 : Int) := of_decide_eq_true (by first | (with_reducible assumption) | assumption)
                have q6 : x6_1 < (a0.size : Int) := of_decide_eq_true (by first | (with_reducible assumption) | assumption)
                have hx6 := bt_at a0 x6_1
                replace p6 := eq_true p6
                replace q6 := eq_true q6
                go_wp2
                go_meet
                case rel => exact ⟨_, (false), (by first | rfl | (simp; done) | (simp [*]; done)), H', ⟨by have := HK1.out; first | omega | exact Nat.le_refl _⟩, by repeat (first | exact Drawn0.refl _ | apply Drawn0.step)⟩
            · rw [if_neg c5] at H
              exact absurd H (by simp)
          · rw [if_neg c4] at H
            exact absurd H (by simp)
        case rest =>
          clear HC3
          try clear c1
          try clear p1
          try clear q1
          try clear hx1
          try clear c2
          try clear c2b0
          try clear p2
          try clear c4
          try clear c4b0
          try clear c5
          try clear c5b0
          try clear p6
          try clear q6
          try clear hx6
          try clear c7
          try clear c7b0
          try clear c7b1
          try clear c8
          try clear c8b0
          try clear c9
          try clear c9b0
          try clear c11
          try clear c11b0
          try clear p12
          try clear q12
          try clear hx12
          try clear p12
          try clear p6
          try clear q12
          try clear q6
          obtain ⟨kq, x30_2, rfl, HA, HJ2, ⟨mc2, rfl⟩⟩ := hcut
          cases kq with
          | zero => exact absurd HA.out (by simp [spec_colonOf.j1])
          | succ kj2 =>
            have H := HA.out
            clear HA
            simp only [spec_colonOf.j1] at H
            by_cases c14 : x30_2 = true
            · subst c14
              have H1 : (some x6_1) = some r := by rw [if_pos rfl] at H; exact H
              clear H
              have H := H1
              clear H1
              obtain rfl := Option.some.inj H
              go_wp2
              go_ret
              exact ⟨by first | rfl | (simp; done) | (simp [*]; done), by repeat (first | exact Drawn0.refl _ | apply Drawn0.step)⟩
            · replace c14 := Bool.eq_false_iff.mpr c14
              subst c14
              have H1 : (if 0 ≤ x6_1 then (if x6_1 < (a0.size : Int) then ((spec_isSmall.f (bt a0 x6_1)).bind fun t170 => (if t170 = true then (spec_colonOf.l0 kj2 a0 (a0.size : Int) (wrap64 (x6_1 + 1))) else (some (-1)))) else (none)) else (none)) = some r := by rw [if_neg (show ¬ (false = true) by decide)] at H; exact H
              clear H
              have H := H1
              clear H1
              by_cases c15 : 0 ≤ x6_1
              · rw [if_pos c15] at H
                have c15b0 : decide (0 ≤ x6_1) = true := decide_eq_true c15
                clear c15
                by_cases c16 : x6_1 < (a0.size : Int)
                · rw [if_pos c16] at H
                  have c16b0 : decide (x6_1 < (a0.size : Int)) = true := decide_eq_true c16
                  clear c16
                  replace H := Option.bind_eq_some_iff.mp H
                  obtain ⟨t170, A180, H⟩ := H
                  replace H : (if t170 = true then (spec_colonOf.l0 kj2 a0 (a0.size : Int) (wrap64 (x6_1 + 1))) else (some (-1))) = some r := H
                  have A18 := Aside0.mk A180
                  clear A180
                  by_cases c19 : t170 = true
                  · subst c19
                    have H1 : (spec_colonOf.l0 kj2 a0 (a0.size : Int) (wrap64 (x6_1 + 1))) = some r := by rw [if_pos rfl] at H; exact H
                    clear H
                    have H := H1
                    clear H1
                    have H' := Aside0.mk H
                    clear H
                    have p17 : 0 ≤ (x6_1 : Int) := of_decide_eq_true (by first | (with_reducible assumption) | assumption)
                    have q17 : x6_1 < (a0.size : Int) := of_decide_eq_true (by first | (with_reducible assumption) | assumption)
                    have hx17 := bt_at a0 x6_1
                    replace p17 := eq_true p17
                    replace q17 := eq_true q17
                    go_wp2_with (first | ((with_reducible refine gate_callee (f := 64) rfl ?_); refine goesL_ (some 35) rfl rfl Try.func64 (by kernel_rfl) rfl #[.int .u8 (bt a0 x6_1)] rfl (by (try simp only [List.map_toArray, List.map_cons, List.map_nil]); first | done | rfl | (simp only [List.length_drop, List.length_take]; rfl)) ?_; (with_reducible refine (spec_isSmall.calls (bt a0 x6_1) true _ A18.out).mono ?_); rintro e w' ⟨rfl, ⟨nd, rfl⟩⟩; refine ⟨_, rfl, ?_⟩))
                    go_roundg kj2
                    case measure => have := HK1.out; have := HJ2.out; omega
                    case rel => exact ⟨(wrap64 (x6_1 + 1)), (by first | rfl | (simp; done) | (simp [*]; done)), H', ⟨by have := HK1.out; have := HJ2.out; omega⟩, by repeat (first | exact Drawn0.refl _ | apply Drawn0.step)⟩
                  · replace c19 := Bool.eq_false_iff.mpr c19
                    subst c19
                    have H1 : (some (-1)) = some r := by rw [if_neg (show ¬ (false = true) by decide)] at H; exact H
                    clear H
                    have H := H1
                    clear H1
                    obtain rfl := Option.some.inj H
                    have p17 : 0 ≤ (x6_1 : Int) := of_decide_eq_true (by first | (with_reducible assumption) | assumption)
                    have q17 : x6_1 < (a0.size : Int) := of_decide_eq_true (by first | (with_reducible assumption) | assumption)
                    have hx17 := bt_at a0 x6_1
                    replace p17 := eq_true p17
                    replace q17 := eq_true q17
                    go_wp2_with (first | ((with_reducible refine gate_callee (f := 64) rfl ?_); refine goesL_ (some 35) rfl rfl Try.func64 (by kernel_rfl) rfl #[.int .u8 (bt a0 x6_1)] rfl (by (try simp only [List.map_toArray, List.map_cons, List.map_nil]); first | done | rfl | (simp only [List.length_drop, List.length_take]; rfl)) ?_; (with_reducible refine (spec_isSmall.calls (bt a0 x6_1) false _ A18.out).mono ?_); rintro e w' ⟨rfl, ⟨nd, rfl⟩⟩; refine ⟨_, rfl, ?_⟩))
                    go_ret
                    exact ⟨by first | rfl | (simp; done) | (simp [*]; done), by repeat (first | exact Drawn0.refl _ | apply Drawn0.step)⟩
                · rw [if_neg c16] at H
                  exact absurd H (by simp)
              · rw [if_neg c15] at H
                exact absurd H (by simp)
      · rw [if_neg c2] at H
        have c2b0 : decide (x6_1 < (a0.size : Int)) = false := decide_eq_false c2
        clear c2
        obtain rfl := Option.some.inj H
        go_wp2
        go_ret
        exact ⟨by first | rfl | (simp; done) | (simp [*]; done), by repeat (first | exact Drawn0.refl _ | apply Drawn0.step)⟩

/-! ### spec_isDirective: function 47 -/
def spec_isDirective.f (k : Nat) (a0 : ByteArray) : Option (Bool) := (spec_begins.f a0 (⟨#[108, 105, 110, 101, 32]⟩ : ByteArray)).bind fun t171 => (if t171 = true then (some true) else ((spec_begins.f a0 (⟨#[101, 120, 116, 101, 114, 110, 32]⟩ : ByteArray)).bind fun t172 => (if t172 = true then (some true) else ((spec_begins.f a0 (⟨#[101, 120, 112, 111, 114, 116, 32]⟩ : ByteArray)).bind fun t173 => (if t173 = true then (some true) else ((spec_colonOf.f k a0).bind fun t174 => (some (decide (t174 > 0)))))))))
theorem spec_isDirective.mono : ∀ a0 k, LeO (spec_isDirective.f k a0) (spec_isDirective.f (k + 1) a0) := by
  intro a0 k
  unfold spec_isDirective.f
  repeat' first
      | (with_reducible exact spec_colonOf.mono _ _)
      | (with_reducible exact LeO.refl _)
      | (with_reducible exact LeO.none _)
      | (with_reducible refine LeO.ite ?_ ?_)
      | (with_reducible refine LeO.bind ?_ (fun _ => ?_))
      | exact spec_colonOf.mono _ _
      | exact LeO.none _
      | refine LeO.ite ?_ ?_
      | refine LeO.bind ?_ (fun _ => ?_)
set_option maxHeartbeats 8000000 in
set_option maxRecDepth 100000 in
theorem spec_isDirective.calls (k : Nat) (a0 : ByteArray) (r : Bool) (w : World) (h : spec_isDirective.f k a0 = some r) :
    Calls Try.prog 47 #[.string a0] w fun e w' => e = .returned (.bool r) ∧ Drawn0 w w' := by
  have H : ((spec_begins.f a0 (⟨#[108, 105, 110, 101, 32]⟩ : ByteArray)).bind fun t171 => (if t171 = true then (some true) else ((spec_begins.f a0 (⟨#[101, 120, 116, 101, 114, 110, 32]⟩ : ByteArray)).bind fun t172 => (if t172 = true then (some true) else ((spec_begins.f a0 (⟨#[101, 120, 112, 111, 114, 116, 32]⟩ : ByteArray)).bind fun t173 => (if t173 = true then (some true) else ((spec_colonOf.f k a0).bind fun t174 => (some (decide (t174 > 0)))))))))) = some r := h
  clear h
  replace H := Option.bind_eq_some_iff.mp H
  obtain ⟨t171, A20, H⟩ := H
  replace H : (if t171 = true then (some true) else ((spec_begins.f a0 (⟨#[101, 120, 116, 101, 114, 110, 32]⟩ : ByteArray)).bind fun t172 => (if t172 = true then (some true) else ((spec_begins.f a0 (⟨#[101, 120, 112, 111, 114, 116, 32]⟩ : ByteArray)).bind fun t173 => (if t173 = true then (some true) else ((spec_colonOf.f k a0).bind fun t174 => (some (decide (t174 > 0))))))))) = some r := H
  have A2 := Aside0.mk A20
  clear A20
  by_cases c3 : t171 = true
  · subst c3
    have H1 : (some true) = some r := by rw [if_pos rfl] at H; exact H
    clear H
    have H := H1
    clear H1
    obtain rfl := Option.some.inj H
    go_enter Try.func47, Try.ntmps47
    go_wp2_with (first | ((with_reducible refine gate_callee (f := 37) rfl ?_); refine goesL_ (some 4) rfl rfl Try.func37 (by kernel_rfl) rfl #[.string a0, .string (⟨#[108, 105, 110, 101, 32]⟩ : ByteArray)] rfl (by (try simp only [List.map_toArray, List.map_cons, List.map_nil]); first | done | rfl | (simp only [List.length_drop, List.length_take]; rfl)) ?_; (with_reducible refine (spec_begins.calls a0 (⟨#[108, 105, 110, 101, 32]⟩ : ByteArray) true _ A2.out).mono ?_); rintro e w' ⟨rfl, ⟨nd, rfl⟩⟩; refine ⟨_, rfl, ?_⟩))
    go_ret
    exact ⟨by first | rfl | (simp; done) | (simp [*]; done), by repeat (first | exact Drawn0.refl _ | apply Drawn0.step)⟩
  · replace c3 := Bool.eq_false_iff.mpr c3
    subst c3
    have H1 : ((spec_begins.f a0 (⟨#[101, 120, 116, 101, 114, 110, 32]⟩ : ByteArray)).bind fun t172 => (if t172 = true then (some true) else ((spec_begins.f a0 (⟨#[101, 120, 112, 111, 114, 116, 32]⟩ : ByteArray)).bind fun t173 => (if t173 = true then (some true) else ((spec_colonOf.f k a0).bind fun t174 => (some (decide (t174 > 0)))))))) = some r := by rw [if_neg (show ¬ (false = true) by decide)] at H; exact H
    clear H
    have H := H1
    clear H1
    replace H := Option.bind_eq_some_iff.mp H
    obtain ⟨t172, A40, H⟩ := H
    replace H : (if t172 = true then (some true) else ((spec_begins.f a0 (⟨#[101, 120, 112, 111, 114, 116, 32]⟩ : ByteArray)).bind fun t173 => (if t173 = true then (some true) else ((spec_colonOf.f k a0).bind fun t174 => (some (decide (t174 > 0))))))) = some r := H
    have A4 := Aside0.mk A40
    clear A40
    by_cases c5 : t172 = true
    · subst c5
      have H1 : (some true) = some r := by rw [if_pos rfl] at H; exact H
      clear H
      have H := H1
      clear H1
      obtain rfl := Option.some.inj H
      go_enter Try.func47, Try.ntmps47
      go_wp2_with (first | ((with_reducible refine gate_callee (f := 37) rfl ?_); refine goesL_ (some 4) rfl rfl Try.func37 (by kernel_rfl) rfl #[.string a0, .string (⟨#[108, 105, 110, 101, 32]⟩ : ByteArray)] rfl (by (try simp only [List.map_toArray, List.map_cons, List.map_nil]); first | done | rfl | (simp only [List.length_drop, List.length_take]; rfl)) ?_; (with_reducible refine (spec_begins.calls a0 (⟨#[108, 105, 110, 101, 32]⟩ : ByteArray) false _ A2.out).mono ?_); rintro e w' ⟨rfl, ⟨nd, rfl⟩⟩; refine ⟨_, rfl, ?_⟩) | (go_at_call 37; (with_reducible refine (spec_begins.calls a0 (⟨#[101, 120, 116, 101, 114, 110, 32]⟩ : ByteArray) true _ A4.out).mono ?_); rintro e w' ⟨rfl, ⟨nd, rfl⟩⟩))
      go_ret
      exact ⟨by first | rfl | (simp; done) | (simp [*]; done), by repeat (first | exact Drawn0.refl _ | apply Drawn0.step)⟩
    · replace c5 := Bool.eq_false_iff.mpr c5
      subst c5
      have H1 : ((spec_begins.f a0 (⟨#[101, 120, 112, 111, 114, 116, 32]⟩ : ByteArray)).bind fun t173 => (if t173 = true then (some true) else ((spec_colonOf.f k a0).bind fun t174 => (some (decide (t174 > 0)))))) = some r := by rw [if_neg (show ¬ (false = true) by decide)] at H; exact H
      clear H
      have H := H1
      clear H1
      replace H := Option.bind_eq_some_iff.mp H
      obtain ⟨t173, A60, H⟩ := H
      replace H : (if t173 = true then (some true) else ((spec_colonOf.f k a0).bind fun t174 => (some (decide (t174 > 0))))) = some r := H
      have A6 := Aside0.mk A60
      clear A60
      by_cases c7 : t173 = true
      · subst c7
        have H1 : (some true) = some r := by rw [if_pos rfl] at H; exact H
        clear H
        have H := H1
        clear H1
        obtain rfl := Option.some.inj H
        go_enter Try.func47, Try.ntmps47
        go_wp2_with (first | ((with_reducible refine gate_callee (f := 37) rfl ?_); refine goesL_ (some 4) rfl rfl Try.func37 (by kernel_rfl) rfl #[.string a0, .string (⟨#[108, 105, 110, 101, 32]⟩ : ByteArray)] rfl (by (try simp only [List.map_toArray, List.map_cons, List.map_nil]); first | done | rfl | (simp only [List.length_drop, List.length_take]; rfl)) ?_; (with_reducible refine (spec_begins.calls a0 (⟨#[108, 105, 110, 101, 32]⟩ : ByteArray) false _ A2.out).mono ?_); rintro e w' ⟨rfl, ⟨nd, rfl⟩⟩; refine ⟨_, rfl, ?_⟩) | (go_at_call 37; (with_reducible refine (spec_begins.calls a0 (⟨#[101, 120, 116, 101, 114, 110, 32]⟩ : ByteArray) false _ A4.out).mono ?_); rintro e w' ⟨rfl, ⟨nd, rfl⟩⟩) | (go_at_call 37; (with_reducible refine (spec_begins.calls a0 (⟨#[101, 120, 112, 111, 114, 116, 32]⟩ : ByteArray) true _ A6.out).mono ?_); rintro e w' ⟨rfl, ⟨nd, rfl⟩⟩))
        go_ret
        exact ⟨by first | rfl | (simp; done) | (simp [*]; done), by repeat (first | exact Drawn0.refl _ | apply Drawn0.step)⟩
      · replace c7 := Bool.eq_false_iff.mpr c7
        subst c7
        have H1 : ((spec_colonOf.f k a0).bind fun t174 => (some (decide (t174 > 0)))) = some r := by rw [if_neg (show ¬ (false = true) by decide)] at H; exact H
        clear H
        have H := H1
        clear H1
        replace H := Option.bind_eq_some_iff.mp H
        obtain ⟨t174, A80, H⟩ := H
        replace H : (some (decide (t174 > 0))) = some r := H
        have A8 := Aside0.mk A80
        clear A80
        obtain rfl := Option.some.inj H
        go_enter Try.func47, Try.ntmps47
        go_wp2_with (first | ((with_reducible refine gate_callee (f := 37) rfl ?_); refine goesL_ (some 4) rfl rfl Try.func37 (by kernel_rfl) rfl #[.string a0, .string (⟨#[108, 105, 110, 101, 32]⟩ : ByteArray)] rfl (by (try simp only [List.map_toArray, List.map_cons, List.map_nil]); first | done | rfl | (simp only [List.length_drop, List.length_take]; rfl)) ?_; (with_reducible refine (spec_begins.calls a0 (⟨#[108, 105, 110, 101, 32]⟩ : ByteArray) false _ A2.out).mono ?_); rintro e w' ⟨rfl, ⟨nd, rfl⟩⟩; refine ⟨_, rfl, ?_⟩) | (go_at_call 37; (with_reducible refine (spec_begins.calls a0 (⟨#[101, 120, 116, 101, 114, 110, 32]⟩ : ByteArray) false _ A4.out).mono ?_); rintro e w' ⟨rfl, ⟨nd, rfl⟩⟩) | (go_at_call 37; (with_reducible refine (spec_begins.calls a0 (⟨#[101, 120, 112, 111, 114, 116, 32]⟩ : ByteArray) false _ A6.out).mono ?_); rintro e w' ⟨rfl, ⟨nd, rfl⟩⟩) | (go_at_call 58; (with_reducible refine (spec_colonOf.calls k a0 t174 _ A8.out).mono ?_); rintro e w' ⟨rfl, ⟨nd, rfl⟩⟩))
        go_ret
        exact ⟨by first | rfl | (simp; done) | (simp [*]; done), by repeat (first | exact Drawn0.refl _ | apply Drawn0.step)⟩

/-! ### spec_commentLines: function 32 -/
def spec_commentLines.j0 : Nat → ByteArray → Bool → Option (List ByteArray)
  | 0, _, _ => none
  | k + 1, x0, x13 => if x13 = true then (if 1 ≤ (x0.size : Int) then (some (([x0.extract 1 x0.size] : List ByteArray))) else (none)) else ((spec_isDirective.f k x0).bind fun t182 => (if t182 = true then (some ([] : List ByteArray)) else (some (([x0] : List ByteArray)))))
def spec_commentLines.f (k : Nat) (a0 : ByteArray) : Option (List ByteArray) := (spec_begins.f a0 (⟨#[47, 42]⟩ : ByteArray)).bind fun t175 => (if t175 = true then (if 2 ≤ (wrap64 ((a0.size : Int) - 2)) then (if (wrap64 ((a0.size : Int) - 2)) ≤ (a0.size : Int) then ((spec_lines.f k (a0.extract 2 ((wrap64 ((a0.size : Int) - 2)) : Int).toNat)).bind fun t176 => (some t176)) else (none)) else (none)) else (if 2 ≤ (a0.size : Int) then (if (a0.extract 2 a0.size).toList = ([] : List UInt8) then (spec_commentLines.j0 k (a0.extract 2 a0.size) false) else (if 0 < ((a0.extract 2 a0.size).size : Int) then (spec_commentLines.j0 k (a0.extract 2 a0.size) ((bt (a0.extract 2 a0.size) 0) == 32)) else (none))) else (none)))
theorem spec_commentLines.mono_l : ∀ k, (∀ y0 y1, LeO (spec_commentLines.j0 k y0 y1) (spec_commentLines.j0 (k + 1) y0 y1))
  | 0 => fun _ _ r h => by simp [spec_commentLines.j0] at h
  | k + 1 => by
    have ih0 := spec_commentLines.mono_l k
    · intro y0 y1
      unfold spec_commentLines.j0
      repeat' first
      | (with_reducible exact ih0 _ _)
      | (with_reducible exact spec_isDirective.mono _ _)
      | (with_reducible exact spec_lines.mono _ _)
      | (with_reducible exact LeO.refl _)
      | (with_reducible exact LeO.none _)
      | (with_reducible refine LeO.ite ?_ ?_)
      | (with_reducible refine LeO.bind ?_ (fun _ => ?_))
      | exact ih0 _ _
      | exact spec_isDirective.mono _ _
      | exact spec_lines.mono _ _
      | exact LeO.none _
      | refine LeO.ite ?_ ?_
      | refine LeO.bind ?_ (fun _ => ?_)
theorem spec_commentLines.mono : ∀ a0 k, LeO (spec_commentLines.f k a0) (spec_commentLines.f (k + 1) a0) := by
  intro a0 k
  have ih0 := spec_commentLines.mono_l k
  unfold spec_commentLines.f
  repeat' first
      | (with_reducible exact ih0 _ _)
      | (with_reducible exact spec_isDirective.mono _ _)
      | (with_reducible exact spec_lines.mono _ _)
      | (with_reducible exact LeO.refl _)
      | (with_reducible exact LeO.none _)
      | (with_reducible refine LeO.ite ?_ ?_)
      | (with_reducible refine LeO.bind ?_ (fun _ => ?_))
      | exact ih0 _ _
      | exact spec_isDirective.mono _ _
      | exact spec_lines.mono _ _
      | exact LeO.none _
      | refine LeO.ite ?_ ?_
      | refine LeO.bind ?_ (fun _ => ?_)
set_option maxHeartbeats 8000000 in
set_option maxRecDepth 100000 in
theorem spec_commentLines.calls (k : Nat) (a0 : ByteArray) (r : List ByteArray) (w : World) (h : spec_commentLines.f k a0 = some r) :
    Calls Try.prog 32 #[.string a0] w fun e w' => ∃ v0_ : Value, e = .returned (v0_) ∧ Kd.R Kd.string 9 w' w.heap.size (fun _ => True) v0_ r ∧ Below w.heap.size w w' := by
  have HB := Aside0.mk (Below.refl w.heap.size w)
  have H : ((spec_begins.f a0 (⟨#[47, 42]⟩ : ByteArray)).bind fun t175 => (if t175 = true then (if 2 ≤ (wrap64 ((a0.size : Int) - 2)) then (if (wrap64 ((a0.size : Int) - 2)) ≤ (a0.size : Int) then ((spec_lines.f k (a0.extract 2 ((wrap64 ((a0.size : Int) - 2)) : Int).toNat)).bind fun t176 => (some t176)) else (none)) else (none)) else (if 2 ≤ (a0.size : Int) then (if (a0.extract 2 a0.size).toList = ([] : List UInt8) then (spec_commentLines.j0 k (a0.extract 2 a0.size) false) else (if 0 < ((a0.extract 2 a0.size).size : Int) then (spec_commentLines.j0 k (a0.extract 2 a0.size) ((bt (a0.extract 2 a0.size) 0) == 32)) else (none))) else (none)))) = some r := h
  clear h
  replace H := Option.bind_eq_some_iff.mp H
  obtain ⟨t175, A20, H⟩ := H
  replace H : (if t175 = true then (if 2 ≤ (wrap64 ((a0.size : Int) - 2)) then (if (wrap64 ((a0.size : Int) - 2)) ≤ (a0.size : Int) then ((spec_lines.f k (a0.extract 2 ((wrap64 ((a0.size : Int) - 2)) : Int).toNat)).bind fun t176 => (some t176)) else (none)) else (none)) else (if 2 ≤ (a0.size : Int) then (if (a0.extract 2 a0.size).toList = ([] : List UInt8) then (spec_commentLines.j0 k (a0.extract 2 a0.size) false) else (if 0 < ((a0.extract 2 a0.size).size : Int) then (spec_commentLines.j0 k (a0.extract 2 a0.size) ((bt (a0.extract 2 a0.size) 0) == 32)) else (none))) else (none))) = some r := H
  have A2 := Aside0.mk A20
  clear A20
  by_cases c3 : t175 = true
  · subst c3
    have H1 : (if 2 ≤ (wrap64 ((a0.size : Int) - 2)) then (if (wrap64 ((a0.size : Int) - 2)) ≤ (a0.size : Int) then ((spec_lines.f k (a0.extract 2 ((wrap64 ((a0.size : Int) - 2)) : Int).toNat)).bind fun t176 => (some t176)) else (none)) else (none)) = some r := by rw [if_pos rfl] at H; exact H
    clear H
    have H := H1
    clear H1
    by_cases c4 : 2 ≤ (wrap64 ((a0.size : Int) - 2))
    · rw [if_pos c4] at H
      have c4b0 := eq_true c4
      have c4b1 : decide (2 ≤ (wrap64 ((a0.size : Int) - 2))) = true := decide_eq_true c4
      clear c4
      by_cases c5 : (wrap64 ((a0.size : Int) - 2)) ≤ (a0.size : Int)
      · rw [if_pos c5] at H
        have c5b0 := eq_true c5
        have c5b1 : decide ((wrap64 ((a0.size : Int) - 2)) ≤ (a0.size : Int)) = true := decide_eq_true c5
        clear c5
        replace H := Option.bind_eq_some_iff.mp H
        obtain ⟨t176, A60, H⟩ := H
        replace H : (some t176) = some r := H
        have A6 := Aside0.mk A60
        clear A60
        obtain rfl := Option.some.inj H
        go_enter Try.func32, Try.ntmps32
        go_wp2_with (first | ((with_reducible refine gate_callee (f := 37) rfl ?_); refine goesL_ (some 4) rfl rfl Try.func37 (by kernel_rfl) rfl #[.string a0, .string (⟨#[47, 42]⟩ : ByteArray)] rfl (by (try simp only [List.map_toArray, List.map_cons, List.map_nil]); first | done | rfl | (simp only [List.length_drop, List.length_take]; rfl)) ?_; (with_reducible refine (spec_begins.calls a0 (⟨#[47, 42]⟩ : ByteArray) true _ A2.out).mono ?_); rintro e w' ⟨rfl, ⟨nd, rfl⟩⟩; refine ⟨_, rfl, ?_⟩) | ((with_reducible refine gate_callee (f := 29) rfl ?_); refine goesL_ (some 10) rfl rfl Try.func29 (by kernel_rfl) rfl #[.string (a0.extract 2 ((wrap64 ((a0.size : Int) - 2)) : Int).toNat)] rfl (by (try simp only [List.map_toArray, List.map_cons, List.map_nil]); first | done | rfl | (simp only [List.length_drop, List.length_take]; rfl)) ?_; (with_reducible refine (spec_lines.calls k (a0.extract 2 ((wrap64 ((a0.size : Int) - 2)) : Int).toNat) t176 _ A6.out).mono ?_); rintro e w7 ⟨v177, rfl, ho0, hb⟩; refine ⟨_, rfl, ?_⟩; have n0_ := Aside0.mk (Kd.R_lower ho0 (below_size (by repeat (first | (with_reducible first | exact HB.out | apply below_alloc | apply pw_below_drewN | apply below_drew1) | exact HB.out)))); have n1_ := Aside0.mk (below_step (by repeat (first | (with_reducible first | exact HB.out | apply below_alloc | apply pw_below_drewN | apply below_drew1) | exact HB.out)) hb); clear HB; have HO178 := n0_; have HB := n1_; clear n0_ n1_; (try clear hb); (try clear hb2); (try clear hk); (try clear hi); (try clear ho0)))
        go_ret
        exact ⟨_, by first | rfl | (simp [errW_none, errW_some] <;> rfl) | (simp [*, errW_none, errW_some] <;> rfl), by (with_reducible repeat (first | apply Kd.R_alloc | apply Kd.R_drewN | apply Kd.R_drew)); exact HO178.out, by repeat (first | (with_reducible first | exact HB.out | apply below_alloc | apply pw_below_drewN | apply below_drew1) | exact HB.out)⟩
      · rw [if_neg c5] at H
        exact absurd H (by simp)
    · rw [if_neg c4] at H
      exact absurd H (by simp)
  · replace c3 := Bool.eq_false_iff.mpr c3
    subst c3
    have H1 : (if 2 ≤ (a0.size : Int) then (if (a0.extract 2 a0.size).toList = ([] : List UInt8) then (spec_commentLines.j0 k (a0.extract 2 a0.size) false) else (if 0 < ((a0.extract 2 a0.size).size : Int) then (spec_commentLines.j0 k (a0.extract 2 a0.size) ((bt (a0.extract 2 a0.size) 0) == 32)) else (none))) else (none)) = some r := by rw [if_neg (show ¬ (false = true) by decide)] at H; exact H
    clear H
    have H := H1
    clear H1
    by_cases c8 : 2 ≤ (a0.size : Int)
    · rw [if_pos c8] at H
      have c8b0 := eq_true c8
      have c8b1 : decide (2 ≤ (a0.size : Int)) = true := decide_eq_true c8
      clear c8
      obtain ⟨rs, hrs⟩ : ∃ rs, a0.extract 2 a0.size = rs := ⟨_, rfl⟩
      rw [hrs] at H
      have HC9 := Aside0.mk H
      clear H
      go_enter Try.func32, Try.ntmps32
      go_upto_region 4 with (first | ((with_reducible refine gate_callee (f := 37) rfl ?_); refine goesL_ (some 4) rfl rfl Try.func37 (by kernel_rfl) rfl #[.string a0, .string (⟨#[47, 42]⟩ : ByteArray)] rfl (by (try simp only [List.map_toArray, List.map_cons, List.map_nil]); first | done | rfl | (simp only [List.length_drop, List.length_take]; rfl)) ?_; (with_reducible refine (spec_begins.calls a0 (⟨#[47, 42]⟩ : ByteArray) false _ A2.out).mono ?_); rintro e w' ⟨rfl, ⟨nd, rfl⟩⟩; refine ⟨_, rfl, ?_⟩))
      (try simp only [Act.put, List.setIfInBounds_toArray, List.set_cons_zero, List.set_cons_succ])
      go_cut [13] (fun v13 wc => ∃ (kq : Nat) (x13_8 : Bool), v13 = .bool x13_8 ∧ Aside0 (spec_commentLines.j0 kq rs x13_8 = some r) ∧ Aside0 (kq ≤ k) ∧ Aside0 (Below w.heap.size w wc))
      case first =>
        have H := HC9.out
        clear HC9
        by_cases c10 : rs.toList = ([] : List UInt8)
        · rw [if_pos c10] at H
          have c10b0 : (rs.toList == ([] : List UInt8)) = true := beq_iff_eq.mpr c10
          have c10b1 : (rs.toList != ([] : List UInt8)) = false := bne_eq_false_iff_eq.mpr c10
          clear c10
          (first | rw [c10b0] | (simp only [i64_w, i32_w]; rw [c10b0]) | skip)
          have H' := Aside0.mk H
          clear H
          go_wp2
          go_meet
          case rel => exact ⟨_, (false), (by first | rfl | (simp; done) | (simp [*]; done)), H', ⟨by first | omega | exact Nat.le_refl _⟩, ⟨by repeat (first | (with_reducible first | exact HB.out | apply below_alloc | apply pw_below_drewN | apply below_drew1) | exact HB.out)⟩⟩
        · rw [if_neg c10] at H
          have c10b0 : (rs.toList == ([] : List UInt8)) = false := beq_eq_false_iff_ne.mpr c10
          have c10b1 : (rs.toList != ([] : List UInt8)) = true := bne_iff_ne.mpr c10
          (first | rw [c10b0] | (simp only [i64_w, i32_w]; rw [c10b0]) | skip)
          by_cases c11 : 0 < (rs.size : Int)
          · rw [if_pos c11] at H
            have c11b0 : decide (0 < (rs.size : Int)) = true := decide_eq_true c11
            have c11b1 : decide (0 < rs.size) = true := decide_eq_true (by omega)
            clear c11
            have H' := Aside0.mk H
            clear H
            have p12 : 0 ≤ (0 : Int) := (by omega)
            have q12 : 0 < rs.size := (by have : (0 : Int) < (rs.size : Int) := of_decide_eq_true (by first | (with_reducible assumption) | assumption); omega)
            have hx12 : ∀ h : 0 < rs.size, ((rs[0]'h).toNat : Int) = bt rs 0 := bt_at rs 0
            clear p12
            have qi12 : (0 < (rs.size : Int)) = True := eq_true (of_decide_eq_true (by first | (with_reducible assumption) | assumption))
            replace q12 := eq_true q12
            go_wp2
            go_meet
            case rel => exact ⟨_, (((bt rs 0) == 32)), (by first | rfl | (simp; done) | (simp [*]; done)), H', ⟨by first | omega | exact Nat.le_refl _⟩, ⟨by repeat (first | (with_reducible first | exact HB.out | apply below_alloc | apply pw_below_drewN | apply below_drew1) | exact HB.out)⟩⟩
          · rw [if_neg c11] at H
            exact absurd H (by simp)
      case rest =>
        clear HC9
        try clear c1
        try clear p1
        try clear q1
        try clear hx1
        try clear qi1
        try clear c2
        try clear p2
        try clear c3
        try clear c4
        try clear c4b0
        try clear c4b1
        try clear c5
        try clear c5b0
        try clear c5b1
        try clear p6
        try clear c8
        try clear c8b0
        try clear c8b1
        try clear c10
        try clear c10b0
        try clear c10b1
        try clear c11
        try clear c11b0
        try clear c11b1
        try clear p12
        try clear q12
        try clear hx12
        try clear qi12
        try clear p12
        try clear q12
        obtain ⟨kq, x13_8, rfl, HA, HJ8, HB⟩ := hcut
        cases kq with
        | zero => exact absurd HA.out (by simp [spec_commentLines.j0])
        | succ kj8 =>
          have H := HA.out
          clear HA
          simp only [spec_commentLines.j0] at H
          by_cases c13 : x13_8 = true
          · subst c13
            have H1 : (if 1 ≤ (rs.size : Int) then (some (([rs.extract 1 rs.size] : List ByteArray))) else (none)) = some r := by rw [if_pos rfl] at H; exact H
            clear H
            have H := H1
            clear H1
            by_cases c14 : 1 ≤ (rs.size : Int)
            · rw [if_pos c14] at H
              have c14b0 := eq_true c14
              have c14b1 : decide (1 ≤ (rs.size : Int)) = true := decide_eq_true c14
              clear c14
              obtain ⟨y179, hy179⟩ : ∃ y_ : List ByteArray, y_ = (([rs.extract 1 rs.size] : List ByteArray)) := ⟨_, rfl⟩
              replace H : (some y179) = some r := by first | (rw [hy179]; with_reducible exact H) | (have H2_ := (Option.bind_some _ _).symm.trans H; rw [hy179]; with_reducible exact H2_) | (have H2_ := (Option.bind_some _ _).symm.trans H; with_reducible exact H2_) | with_reducible exact H | (rw [hy179]; exact H) | exact H
              have Ny179 := Aside0.mk hy179
              clear hy179
              obtain rfl := Option.some.inj H
              go_wp2_with (first | ((with_reducible refine gate_dst (N := 23) rfl ?_); refine Kd.R_lit Kd.string _ 9 ?hg (N := 23) ?hd (xs := ([rs.extract 1 rs.size] : List ByteArray)) (inner := [.string (rs.extract 1 rs.size)]) (ok := fun _ => True) (okp := fun _ => True) ?hr ?hp (fun _ hk => hk) trivial (Below.refl _ _) (Nat.le_refl _) (by simp) ?_; (case hd => rfl); (case hg => rfl); (case hr => first | (go_simp; done) | (go_simp; rfl)); (case hp => exact (Reps.one (show Kd.M Kd.string _ _ _ (rs.extract 1 rs.size) [.string (rs.extract 1 rs.size)] from rfl) (Reps.none _ _))); intro v180 w15 ho16 hb hg_ hnew_; clear hg_ hnew_; (first | rw [← Ny179.out] at ho16 | (simp only [Int.reduceToNat] at ho16; rw [← Ny179.out] at ho16)); have n0_ := Aside0.mk (Kd.R_lower ho16 (below_size (by repeat (first | (with_reducible first | exact HB.out | apply below_alloc | apply pw_below_drewN | apply below_drew1) | exact HB.out)))); have n1_ := Aside0.mk (below_step (by repeat (first | (with_reducible first | exact HB.out | apply below_alloc | apply pw_below_drewN | apply below_drew1) | exact HB.out)) hb); clear HB; have HO181 := n0_; have HB := n1_; clear n0_ n1_; clear hb ho16))
              go_ret
              exact ⟨_, by first | rfl | (simp [errW_none, errW_some] <;> rfl) | (simp [*, errW_none, errW_some] <;> rfl), by (with_reducible repeat (first | apply Kd.R_alloc | apply Kd.R_drewN | apply Kd.R_drew)); exact HO181.out, by repeat (first | (with_reducible first | exact HB.out | apply below_alloc | apply pw_below_drewN | apply below_drew1) | exact HB.out)⟩
            · rw [if_neg c14] at H
              exact absurd H (by simp)
          · replace c13 := Bool.eq_false_iff.mpr c13
            subst c13
            have H1 : ((spec_isDirective.f kj8 rs).bind fun t182 => (if t182 = true then (some ([] : List ByteArray)) else (some (([rs] : List ByteArray))))) = some r := by rw [if_neg (show ¬ (false = true) by decide)] at H; exact H
            clear H
            have H := H1
            clear H1
            replace H := Option.bind_eq_some_iff.mp H
            obtain ⟨t182, A170, H⟩ := H
            replace H : (if t182 = true then (some ([] : List ByteArray)) else (some (([rs] : List ByteArray)))) = some r := H
            have A17 := Aside0.mk A170
            clear A170
            by_cases c18 : t182 = true
            · subst c18
              have H1 : (some ([] : List ByteArray)) = some r := by rw [if_pos rfl] at H; exact H
              clear H
              have H := H1
              clear H1
              obtain rfl := Option.some.inj H
              go_wp2_with (first | ((with_reducible refine gate_callee (f := 47) rfl ?_); refine goesL_ (some 26) rfl rfl Try.func47 (by kernel_rfl) rfl #[.string rs] rfl (by (try simp only [List.map_toArray, List.map_cons, List.map_nil]); first | done | rfl | (simp only [List.length_drop, List.length_take]; rfl)) ?_; (with_reducible refine (spec_isDirective.calls kj8 rs true _ A17.out).mono ?_); rintro e w' ⟨rfl, ⟨nd, rfl⟩⟩; refine ⟨_, rfl, ?_⟩))
              go_ret
              exact ⟨_, by first | rfl | (simp [errW_none, errW_some] <;> rfl) | (simp [*, errW_none, errW_some] <;> rfl), by first | exact Kd.R_nil _ _ _ _ _ | exact Kd.N_nil _ _ _ _ _ | exact Kd.V_nil _ _ _ _ _ | exact Kd.Q_nil _ _ _ _ _ | exact Kd.S_nil _ _ _ _ _, by repeat (first | (with_reducible first | exact HB.out | apply below_alloc | apply pw_below_drewN | apply below_drew1) | exact HB.out)⟩
            · replace c18 := Bool.eq_false_iff.mpr c18
              subst c18
              have H1 : (some (([rs] : List ByteArray))) = some r := by rw [if_neg (show ¬ (false = true) by decide)] at H; exact H
              clear H
              have H := H1
              clear H1
              obtain ⟨y183, hy183⟩ : ∃ y_ : List ByteArray, y_ = (([rs] : List ByteArray)) := ⟨_, rfl⟩
              replace H : (some y183) = some r := by first | (rw [hy183]; with_reducible exact H) | (have H2_ := (Option.bind_some _ _).symm.trans H; rw [hy183]; with_reducible exact H2_) | (have H2_ := (Option.bind_some _ _).symm.trans H; with_reducible exact H2_) | with_reducible exact H | (rw [hy183]; exact H) | exact H
              have Ny183 := Aside0.mk hy183
              clear hy183
              obtain rfl := Option.some.inj H
              go_wp2_with (first | ((with_reducible refine gate_callee (f := 47) rfl ?_); refine goesL_ (some 26) rfl rfl Try.func47 (by kernel_rfl) rfl #[.string rs] rfl (by (try simp only [List.map_toArray, List.map_cons, List.map_nil]); first | done | rfl | (simp only [List.length_drop, List.length_take]; rfl)) ?_; (with_reducible refine (spec_isDirective.calls kj8 rs false _ A17.out).mono ?_); rintro e w' ⟨rfl, ⟨nd, rfl⟩⟩; refine ⟨_, rfl, ?_⟩) | ((with_reducible refine gate_dst (N := 28) rfl ?_); refine Kd.R_lit Kd.string _ 9 ?hg (N := 28) ?hd (xs := ([rs] : List ByteArray)) (inner := [.string rs]) (ok := fun _ => True) (okp := fun _ => True) ?hr ?hp (fun _ hk => hk) trivial (Below.refl _ _) (Nat.le_refl _) (by simp) ?_; (case hd => rfl); (case hg => rfl); (case hr => first | (go_simp; done) | (go_simp; rfl)); (case hp => exact (Reps.one (show Kd.M Kd.string _ _ _ rs [.string rs] from rfl) (Reps.none _ _))); intro v184 w19 ho20 hb hg_ hnew_; clear hg_ hnew_; (first | rw [← Ny183.out] at ho20 | (simp only [Int.reduceToNat] at ho20; rw [← Ny183.out] at ho20)); have n0_ := Aside0.mk (Kd.R_lower ho20 (below_size (by repeat (first | (with_reducible first | exact HB.out | apply below_alloc | apply pw_below_drewN | apply below_drew1) | exact HB.out)))); have n1_ := Aside0.mk (below_step (by repeat (first | (with_reducible first | exact HB.out | apply below_alloc | apply pw_below_drewN | apply below_drew1) | exact HB.out)) hb); clear HB; have HO185 := n0_; have HB := n1_; clear n0_ n1_; clear hb ho20))
              go_ret
              exact ⟨_, by first | rfl | (simp [errW_none, errW_some] <;> rfl) | (simp [*, errW_none, errW_some] <;> rfl), by (with_reducible repeat (first | apply Kd.R_alloc | apply Kd.R_drewN | apply Kd.R_drew)); exact HO185.out, by repeat (first | (with_reducible first | exact HB.out | apply below_alloc | apply pw_below_drewN | apply below_drew1) | exact HB.out)⟩
    · rw [if_neg c8] at H
      exact absurd H (by simp)

/-! ### spec_isBlank: function 48 -/
def spec_isBlank.f (a0 : Int) : Option (Bool) := if a0 = 32 then (some true) else (some (a0 == 9))
set_option maxHeartbeats 8000000 in
set_option maxRecDepth 100000 in
theorem spec_isBlank.calls (a0 : Int) (r : Bool) (w : World) (h : spec_isBlank.f a0 = some r) :
    Calls Try.prog 48 #[.int .u8 a0] w fun e w' => e = .returned (.bool r) ∧ Drawn0 w w' := by
  have H : (if a0 = 32 then (some true) else (some (a0 == 9))) = some r := h
  clear h
  by_cases c2 : a0 = 32
  · rw [if_pos c2] at H
    have c2b0 : (a0 == 32) = true := beq_iff_eq.mpr c2
    have c2b1 : (a0 != 32) = false := bne_eq_false_iff_eq.mpr c2
    clear c2
    obtain rfl := Option.some.inj H
    go_enter Try.func48, Try.ntmps48
    go_wp2
    go_ret
    exact ⟨by first | rfl | (simp; done) | (simp [*]; done), by repeat (first | exact Drawn0.refl _ | apply Drawn0.step)⟩
  · rw [if_neg c2] at H
    have c2b0 : (a0 == 32) = false := beq_eq_false_iff_ne.mpr c2
    have c2b1 : (a0 != 32) = true := bne_iff_ne.mpr c2
    obtain rfl := Option.some.inj H
    go_enter Try.func48, Try.ntmps48
    go_wp2
    go_ret
    exact ⟨by first | rfl | (simp; done) | (simp [*]; done), by repeat (first | exact Drawn0.refl _ | apply Drawn0.step)⟩

/-! ### spec_trimEnd: function 33 -/
def spec_trimEnd.l0 : Nat → ByteArray → Option (ByteArray)
  | 0, _ => none
  | k + 1, x0 => if (x0.size : Int) > 0 then (if 0 ≤ (wrap64 ((x0.size : Int) - 1)) then (if (wrap64 ((x0.size : Int) - 1)) < (x0.size : Int) then ((spec_isBlank.f (bt x0 (wrap64 ((x0.size : Int) - 1)))).bind fun t186 => (if t186 = true then (if (wrap64 ((x0.size : Int) - 1)) ≤ (x0.size : Int) then (spec_trimEnd.l0 k (x0.extract 0 ((wrap64 ((x0.size : Int) - 1)) : Int).toNat)) else (none)) else (some x0))) else (none)) else (none)) else (some x0)
def spec_trimEnd.f (k : Nat) (a0 : ByteArray) : Option (ByteArray) := spec_trimEnd.l0 k a0
theorem spec_trimEnd.mono_l : ∀ k, (∀ y0, LeO (spec_trimEnd.l0 k y0) (spec_trimEnd.l0 (k + 1) y0))
  | 0 => fun _ r h => by simp [spec_trimEnd.l0] at h
  | k + 1 => by
    have ih0 := spec_trimEnd.mono_l k
    · intro y0
      unfold spec_trimEnd.l0
      repeat' first
      | (with_reducible exact ih0 _)
      | (with_reducible exact LeO.refl _)
      | (with_reducible exact LeO.none _)
      | (with_reducible refine LeO.ite ?_ ?_)
      | (with_reducible refine LeO.bind ?_ (fun _ => ?_))
      | exact ih0 _
      | exact LeO.none _
      | refine LeO.ite ?_ ?_
      | refine LeO.bind ?_ (fun _ => ?_)
theorem spec_trimEnd.mono : ∀ a0 k, LeO (spec_trimEnd.f k a0) (spec_trimEnd.f (k + 1) a0) := by
  intro a0 k
  have ih0 := spec_trimEnd.mono_l k
  unfold spec_trimEnd.f
  repeat' first
      | (with_reducible exact ih0 _)
      | (with_reducible exact LeO.refl _)
      | (with_reducible exact LeO.none _)
      | (with_reducible refine LeO.ite ?_ ?_)
      | (with_reducible refine LeO.bind ?_ (fun _ => ?_))
      | exact ih0 _
      | exact LeO.none _
      | refine LeO.ite ?_ ?_
      | refine LeO.bind ?_ (fun _ => ?_)
set_option maxHeartbeats 8000000 in
set_option maxRecDepth 100000 in
theorem spec_trimEnd.calls (k : Nat) (a0 : ByteArray) (r : ByteArray) (w : World) (h : spec_trimEnd.f k a0 = some r) :
    Calls Try.prog 33 #[.string a0] w fun e w' => e = .returned (.string r) ∧ Drawn0 w w' := by
  have H : (spec_trimEnd.l0 k a0) = some r := h
  clear h
  have H' := Aside0.mk H
  clear H
  go_enter Try.func33, Try.ntmps33
  go_wp2
  go_loopg [0] k (fun kq v0 w' => ∃ (x0_1 : ByteArray), v0 = .string x0_1 ∧ Aside0 (spec_trimEnd.l0 kq x0_1 = some r) ∧ Aside0 (kq ≤ k) ∧ Drawn0 w w')
  case atStart => exact ⟨(a0), (by first | rfl | (simp; done) | (simp [*]; done)), H', ⟨Nat.le_refl _⟩, by repeat (first | exact Drawn0.refl _ | apply Drawn0.step)⟩
  case round =>
    clear H'
    obtain ⟨x0_1, rfl, HA, HK1, ⟨m1, rfl⟩⟩ := hrel
    cases gk with
    | zero => exact absurd HA.out (by simp [spec_trimEnd.l0])
    | succ k1 =>
      have H := HA.out
      clear HA
      simp only [spec_trimEnd.l0] at H
      by_cases c2 : (x0_1.size : Int) > 0
      · rw [if_pos c2] at H
        have c2b0 : decide (0 < (x0_1.size : Int)) = true := decide_eq_true c2
        have c2b1 : decide (0 < x0_1.size) = true := decide_eq_true (by omega)
        clear c2
        obtain ⟨ji3, hji3⟩ : ∃ j_ : Int, (wrap64 ((x0_1.size : Int) - 1)) = j_ := ⟨_, rfl⟩
        replace H : (if 0 ≤ (ji3) then (if (ji3) < (x0_1.size : Int) then ((spec_isBlank.f (bt x0_1 (ji3))).bind fun t186 => (if t186 = true then (if (ji3) ≤ (x0_1.size : Int) then (spec_trimEnd.l0 k1 (x0_1.extract 0 ((ji3) : Int).toNat)) else (none)) else (some x0_1))) else (none)) else (none)) = some r := by first | (rw [hji3] at H; exact H) | (simp only [hji3] at H ⊢; exact H)
        have hji3w : (IntKind.i64.wrap ((x0_1.size : Int) - 1)) = ji3 := (i64_w _).trans hji3
        by_cases c4 : 0 ≤ (ji3)
        · rw [if_pos c4] at H
          have c4b0 : decide (0 ≤ (ji3)) = true := decide_eq_true c4
          clear c4
          by_cases c5 : (ji3) < (x0_1.size : Int)
          · rw [if_pos c5] at H
            have c5b0 : decide ((ji3) < (x0_1.size : Int)) = true := decide_eq_true c5
            clear c5
            replace H := Option.bind_eq_some_iff.mp H
            obtain ⟨t186, A70, H⟩ := H
            replace H : (if t186 = true then (if (ji3) ≤ (x0_1.size : Int) then (spec_trimEnd.l0 k1 (x0_1.extract 0 ((ji3) : Int).toNat)) else (none)) else (some x0_1)) = some r := H
            have A7 := Aside0.mk A70
            clear A70
            by_cases c8 : t186 = true
            · subst c8
              have H1 : (if (ji3) ≤ (x0_1.size : Int) then (spec_trimEnd.l0 k1 (x0_1.extract 0 ((ji3) : Int).toNat)) else (none)) = some r := by rw [if_pos rfl] at H; exact H
              clear H
              have H := H1
              clear H1
              have c9b0 := eq_true (of_decide_eq_true (by first | (with_reducible assumption) | assumption) : 0 ≤ (ji3))
              by_cases c10 : (ji3) ≤ (x0_1.size : Int)
              · rw [if_pos c10] at H
                have c10b0 := eq_true c10
                have c10b1 : decide ((ji3) ≤ (x0_1.size : Int)) = true := decide_eq_true c10
                clear c10
                have H' := Aside0.mk H
                clear H
                have p6 : 0 ≤ ((ji3) : Int) := of_decide_eq_true (by first | (with_reducible assumption) | assumption)
                have q6 : (ji3) < (x0_1.size : Int) := of_decide_eq_true (by first | (with_reducible assumption) | assumption)
                have hx6 := bt_at x0_1 (ji3)
                replace p6 := eq_true p6
                replace q6 := eq_true q6
                go_wp2_with (first | (go_at_call 48; (with_reducible refine (spec_isBlank.calls (bt x0_1 (ji3)) true _ A7.out).mono ?_); rintro e w' ⟨rfl, ⟨nd, rfl⟩⟩))
                go_roundg k1
                case measure => have := HK1.out; omega
                case rel => exact ⟨(x0_1.extract 0 ((ji3) : Int).toNat), (by first | rfl | (simp; done) | (simp only [← hji3] <;> (first | rfl | simp)) | (simp [*]; done)), H', ⟨by have := HK1.out; omega⟩, by repeat (first | exact Drawn0.refl _ | apply Drawn0.step)⟩
              · rw [if_neg c10] at H
                exact absurd H (by simp)
            · replace c8 := Bool.eq_false_iff.mpr c8
              subst c8
              have H1 : (some x0_1) = some r := by rw [if_neg (show ¬ (false = true) by decide)] at H; exact H
              clear H
              have H := H1
              clear H1
              obtain rfl := Option.some.inj H
              have p6 : 0 ≤ ((ji3) : Int) := of_decide_eq_true (by first | (with_reducible assumption) | assumption)
              have q6 : (ji3) < (x0_1.size : Int) := of_decide_eq_true (by first | (with_reducible assumption) | assumption)
              have hx6 := bt_at x0_1 (ji3)
              replace p6 := eq_true p6
              replace q6 := eq_true q6
              go_wp2_with (first | (go_at_call 48; (with_reducible refine (spec_isBlank.calls (bt x0_1 (ji3)) false _ A7.out).mono ?_); rintro e w' ⟨rfl, ⟨nd, rfl⟩⟩))
              go_ret
              exact ⟨by first | rfl | (simp; done) | (simp only [← hji3] <;> (first | rfl | simp)) | (simp [*]; done), by repeat (first | exact Drawn0.refl _ | apply Drawn0.step)⟩
          · rw [if_neg c5] at H
            exact absurd H (by simp)
        · rw [if_neg c4] at H
          exact absurd H (by simp)
      · rw [if_neg c2] at H
        have c2b0 : decide (0 < (x0_1.size : Int)) = false := decide_eq_false c2
        have c2b1 : decide (0 < x0_1.size) = false := decide_eq_false (by omega)
        clear c2
        obtain rfl := Option.some.inj H
        go_wp2
        go_ret
        exact ⟨by first | rfl | (simp; done) | (simp [*]; done), by repeat (first | exact Drawn0.refl _ | apply Drawn0.step)⟩

end Go.Proofs.Yteaelkeiocogfaa.A
