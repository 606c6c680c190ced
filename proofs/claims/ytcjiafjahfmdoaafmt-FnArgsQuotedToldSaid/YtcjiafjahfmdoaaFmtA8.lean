-- Written by a program of this session (gprint.py) out of the kit's print of the translation. Not trusted: Lean checks it.
import Derived.Test.YtcjiafjahfmdoaaFmtA0
import Derived.Test.YtcjiafjahfmdoaaFmtA1
namespace Go.Proofs.YtcjiafjahfmdoaaFmt.A
open Go.RowKit Go.Proofs.YtcjiafjahfmdoaaFmtW.PrintWords Go.Proofs.YtcjiafjahfmdoaaFmtW.PrintLast Go.Proofs.YtcjiafjahfmdoaaFmtW.PrintMore
attribute [local go_sem] max2_int min2_int max_two min_two max_three min_three max_four min_four   -- for this text's walks alone
set_option linter.unusedVariables false
set_option linter.unusedSimpArgs false

/-! ### spec_wordEnd: function 17 -/
def spec_wordEnd.l0 : Nat → ByteArray → Int → Int → Option (Int × Bool)
  | 0, _, _, _ => none
  | k + 1, x0, x6, x7 => if x7 < x6 then (if 0 ≤ x7 then (if x7 < (x0.size : Int) then ((spec_isBlank.f (bt x0 x7)).bind fun t117 => (if t117 = true then (some (x7, true)) else (if x7 ≤ (wrap64 (x7 + 1)) then (if (wrap64 (x7 + 1)) ≤ (x0.size : Int) then ((spec_has.f k (⟨#[34, 96]⟩ : ByteArray) (x0.extract (x7 : Int).toNat ((wrap64 (x7 + 1)) : Int).toNat)).bind fun t118 => (if t118 = true then (some (0, false)) else (spec_wordEnd.l0 k x0 x6 (wrap64 (x7 + 1))))) else (none)) else (none)))) else (none)) else (none)) else (some ((x0.size : Int), true))
def spec_wordEnd.f (k : Nat) (a0 : ByteArray) : Option (Int × Bool) := spec_wordEnd.l0 k a0 (a0.size : Int) 0
theorem spec_wordEnd.mono_l : ∀ k, (∀ y0 y1 y2, LeO (spec_wordEnd.l0 k y0 y1 y2) (spec_wordEnd.l0 (k + 1) y0 y1 y2))
  | 0 => fun _ _ _ r h => by simp [spec_wordEnd.l0] at h
  | k + 1 => by
    have ih0 := spec_wordEnd.mono_l k
    · intro y0 y1 y2
      unfold spec_wordEnd.l0
      repeat' first
      | (with_reducible exact ih0 _ _ _)
      | (with_reducible exact spec_has.mono _ _ _)
      | (with_reducible exact LeO.refl _)
      | (with_reducible exact LeO.none _)
      | (with_reducible refine LeO.ite ?_ ?_)
      | (with_reducible refine LeO.bind ?_ (fun _ => ?_))
      | exact ih0 _ _ _
      | exact spec_has.mono _ _ _
      | exact LeO.none _
      | refine LeO.ite ?_ ?_
      | refine LeO.bind ?_ (fun _ => ?_)
theorem spec_wordEnd.mono : ∀ a0 k, LeO (spec_wordEnd.f k a0) (spec_wordEnd.f (k + 1) a0) := by
  intro a0 k
  have ih0 := spec_wordEnd.mono_l k
  unfold spec_wordEnd.f
  repeat' first
      | (with_reducible exact ih0 _ _ _)
      | (with_reducible exact spec_has.mono _ _ _)
      | (with_reducible exact LeO.refl _)
      | (with_reducible exact LeO.none _)
      | (with_reducible refine LeO.ite ?_ ?_)
      | (with_reducible refine LeO.bind ?_ (fun _ => ?_))
      | exact ih0 _ _ _
      | exact spec_has.mono _ _ _
      | exact LeO.none _
      | refine LeO.ite ?_ ?_
      | refine LeO.bind ?_ (fun _ => ?_)
set_option maxHeartbeats 8000000 in
set_option maxRecDepth 100000 in
theorem spec_wordEnd.calls (k : Nat) (a0 : ByteArray) (r1 : Int) (r2 : Bool) (w : World) (h : spec_wordEnd.f k a0 = some (r1, r2)) :
    Calls Tryf.prog 17 #[.string a0] w fun e w' => e = .returned (.tuple #[.int .i64 r1, .bool r2]) ∧ Drawn0 w w' := by
  have H : (spec_wordEnd.l0 k a0 (a0.size : Int) 0) = some (r1, r2) := h
  clear h
  have H' := Aside0.mk H
  clear H
  go_enter Tryf.func17, Tryf.ntmps17
  go_wp2
  go_loopg [7] k (fun kq v7 w' => ∃ (x7_1 : Int), v7 = .int .i64 x7_1 ∧ Aside0 (spec_wordEnd.l0 kq a0 (a0.size : Int) x7_1 = some (r1, r2)) ∧ Aside0 (kq ≤ k) ∧ Drawn0 w w')
  case atStart => exact ⟨(0), (by first | rfl | (simp; done) | (simp [*]; done)), H', ⟨Nat.le_refl _⟩, by repeat (first | exact Drawn0.refl _ | apply Drawn0.step)⟩
  case round =>
    clear H'
    try clear c1
    obtain ⟨x7_1, rfl, HA, HK1, ⟨m1, rfl⟩⟩ := hrel
    cases gk with
    | zero => exact absurd HA.out (by simp [spec_wordEnd.l0])
    | succ k1 =>
      have H := HA.out
      clear HA
      simp only [spec_wordEnd.l0] at H
      by_cases c2 : x7_1 < (a0.size : Int)
      · rw [if_pos c2] at H
        have c2b0 : decide (x7_1 < (a0.size : Int)) = true := decide_eq_true c2
        clear c2
        by_cases c3 : 0 ≤ x7_1
        · rw [if_pos c3] at H
          have c3b0 : decide (0 ≤ x7_1) = true := decide_eq_true c3
          clear c3
          by_cases c4 : x7_1 < (a0.size : Int)
          · rw [if_pos c4] at H
            have c4b0 : decide (x7_1 < (a0.size : Int)) = true := decide_eq_true c4
            clear c4
            replace H := Option.bind_eq_some_iff.mp H
            obtain ⟨t117, A60, H⟩ := H
            replace H : (if t117 = true then (some (x7_1, true)) else (if x7_1 ≤ (wrap64 (x7_1 + 1)) then (if (wrap64 (x7_1 + 1)) ≤ (a0.size : Int) then ((spec_has.f k1 (⟨#[34, 96]⟩ : ByteArray) (a0.extract (x7_1 : Int).toNat ((wrap64 (x7_1 + 1)) : Int).toNat)).bind fun t118 => (if t118 = true then (some (0, false)) else (spec_wordEnd.l0 k1 a0 (a0.size : Int) (wrap64 (x7_1 + 1))))) else (none)) else (none))) = some (r1, r2) := H
            have A6 := Aside0.mk A60
            clear A60
            by_cases c7 : t117 = true
            · subst c7
              have H1 : (some (x7_1, true)) = some (r1, r2) := by rw [if_pos rfl] at H; exact H
              clear H
              have H := H1
              clear H1
              simp only [Option.some.injEq, Prod.mk.injEq] at H
              obtain ⟨rfl, rfl⟩ := H
              have p5 : 0 ≤ (x7_1 : Int) := of_decide_eq_true (by first | (with_reducible assumption) | assumption)
              have q5 : x7_1 < (a0.size : Int) := of_decide_eq_true (by first | (with_reducible assumption) | assumption)
              have hx5 := bt_at a0 x7_1
              replace p5 := eq_true p5
              replace q5 := eq_true q5
              go_wp2_with (first | ((with_reducible refine gate_callee (f := 14) rfl ?_); refine goesL_ (some 13) rfl rfl Tryf.func14 (by kernel_rfl) rfl #[.int .u8 (bt a0 x7_1)] rfl (by (try simp only [List.map_toArray, List.map_cons, List.map_nil]); first | done | rfl | (simp only [List.length_drop, List.length_take]; rfl)) ?_; (with_reducible refine (spec_isBlank.calls (bt a0 x7_1) true _ A6.out).mono ?_); rintro e w' ⟨rfl, ⟨nd, rfl⟩⟩; refine ⟨_, rfl, ?_⟩))
              go_ret2
              exact ⟨by first | rfl | (simp; done) | (simp [*]; done), by repeat (first | exact Drawn0.refl _ | apply Drawn0.step)⟩
            · replace c7 := Bool.eq_false_iff.mpr c7
              subst c7
              have H1 : (if x7_1 ≤ (wrap64 (x7_1 + 1)) then (if (wrap64 (x7_1 + 1)) ≤ (a0.size : Int) then ((spec_has.f k1 (⟨#[34, 96]⟩ : ByteArray) (a0.extract (x7_1 : Int).toNat ((wrap64 (x7_1 + 1)) : Int).toNat)).bind fun t118 => (if t118 = true then (some (0, false)) else (spec_wordEnd.l0 k1 a0 (a0.size : Int) (wrap64 (x7_1 + 1))))) else (none)) else (none)) = some (r1, r2) := by rw [if_neg (show ¬ (false = true) by decide)] at H; exact H
              clear H
              have H := H1
              clear H1
              have c8b0 := eq_true (of_decide_eq_true (by first | (with_reducible assumption) | assumption) : 0 ≤ x7_1)
              by_cases c9 : x7_1 ≤ (wrap64 (x7_1 + 1))
              · rw [if_pos c9] at H
                have c9b0 := eq_true c9
                have c9b1 : decide (x7_1 ≤ (wrap64 (x7_1 + 1))) = true := decide_eq_true c9
                by_cases c10 : (wrap64 (x7_1 + 1)) ≤ (a0.size : Int)
                · rw [if_pos c10] at H
                  have c10b0 := eq_true c10
                  have c10b1 : decide ((wrap64 (x7_1 + 1)) ≤ (a0.size : Int)) = true := decide_eq_true c10
                  replace H := Option.bind_eq_some_iff.mp H
                  obtain ⟨t118, A110, H⟩ := H
                  replace H : (if t118 = true then (some (0, false)) else (spec_wordEnd.l0 k1 a0 (a0.size : Int) (wrap64 (x7_1 + 1)))) = some (r1, r2) := H
                  have A11 := Aside0.mk A110
                  clear A110
                  by_cases c12 : t118 = true
                  · subst c12
                    have H1 : (some (0, false)) = some (r1, r2) := by rw [if_pos rfl] at H; exact H
                    clear H
                    have H := H1
                    clear H1
                    simp only [Option.some.injEq, Prod.mk.injEq] at H
                    obtain ⟨rfl, rfl⟩ := H
                    have p5 : 0 ≤ (x7_1 : Int) := of_decide_eq_true (by first | (with_reducible assumption) | assumption)
                    have q5 : x7_1 < (a0.size : Int) := of_decide_eq_true (by first | (with_reducible assumption) | assumption)
                    have hx5 := bt_at a0 x7_1
                    replace p5 := eq_true p5
                    replace q5 := eq_true q5
                    go_wp2_with (first | ((with_reducible refine gate_callee (f := 14) rfl ?_); refine goesL_ (some 13) rfl rfl Tryf.func14 (by kernel_rfl) rfl #[.int .u8 (bt a0 x7_1)] rfl (by (try simp only [List.map_toArray, List.map_cons, List.map_nil]); first | done | rfl | (simp only [List.length_drop, List.length_take]; rfl)) ?_; (with_reducible refine (spec_isBlank.calls (bt a0 x7_1) false _ A6.out).mono ?_); rintro e w' ⟨rfl, ⟨nd, rfl⟩⟩; refine ⟨_, rfl, ?_⟩) | ((with_reducible refine gate_callee (f := 15) rfl ?_); refine goesL_ (some 20) rfl rfl Tryf.func15 (by kernel_rfl) rfl #[.string (⟨#[34, 96]⟩ : ByteArray), .string (a0.extract (x7_1 : Int).toNat ((wrap64 (x7_1 + 1)) : Int).toNat)] rfl (by (try simp only [List.map_toArray, List.map_cons, List.map_nil]); first | done | rfl | (simp only [List.length_drop, List.length_take]; rfl)) ?_; (with_reducible refine (spec_has.calls k1 (⟨#[34, 96]⟩ : ByteArray) (a0.extract (x7_1 : Int).toNat ((wrap64 (x7_1 + 1)) : Int).toNat) true _ A11.out).mono ?_); rintro e w' ⟨rfl, ⟨nd, rfl⟩⟩; refine ⟨_, rfl, ?_⟩))
                    go_ret2
                    exact ⟨by first | rfl | (simp; done) | (simp [*]; done), by repeat (first | exact Drawn0.refl _ | apply Drawn0.step)⟩
                  · replace c12 := Bool.eq_false_iff.mpr c12
                    subst c12
                    have H1 : (spec_wordEnd.l0 k1 a0 (a0.size : Int) (wrap64 (x7_1 + 1))) = some (r1, r2) := by rw [if_neg (show ¬ (false = true) by decide)] at H; exact H
                    clear H
                    have H := H1
                    clear H1
                    have H' := Aside0.mk H
                    clear H
                    have p5 : 0 ≤ (x7_1 : Int) := of_decide_eq_true (by first | (with_reducible assumption) | assumption)
                    have q5 : x7_1 < (a0.size : Int) := of_decide_eq_true (by first | (with_reducible assumption) | assumption)
                    have hx5 := bt_at a0 x7_1
                    replace p5 := eq_true p5
                    replace q5 := eq_true q5
                    go_wp2_with (first | ((with_reducible refine gate_callee (f := 14) rfl ?_); refine goesL_ (some 13) rfl rfl Tryf.func14 (by kernel_rfl) rfl #[.int .u8 (bt a0 x7_1)] rfl (by (try simp only [List.map_toArray, List.map_cons, List.map_nil]); first | done | rfl | (simp only [List.length_drop, List.length_take]; rfl)) ?_; (with_reducible refine (spec_isBlank.calls (bt a0 x7_1) false _ A6.out).mono ?_); rintro e w' ⟨rfl, ⟨nd, rfl⟩⟩; refine ⟨_, rfl, ?_⟩) | ((with_reducible refine gate_callee (f := 15) rfl ?_); refine goesL_ (some 20) rfl rfl Tryf.func15 (by kernel_rfl) rfl #[.string (⟨#[34, 96]⟩ : ByteArray), .string (a0.extract (x7_1 : Int).toNat ((wrap64 (x7_1 + 1)) : Int).toNat)] rfl (by (try simp only [List.map_toArray, List.map_cons, List.map_nil]); first | done | rfl | (simp only [List.length_drop, List.length_take]; rfl)) ?_; (with_reducible refine (spec_has.calls k1 (⟨#[34, 96]⟩ : ByteArray) (a0.extract (x7_1 : Int).toNat ((wrap64 (x7_1 + 1)) : Int).toNat) false _ A11.out).mono ?_); rintro e w' ⟨rfl, ⟨nd, rfl⟩⟩; refine ⟨_, rfl, ?_⟩))
                    go_roundg k1
                    case measure => have := HK1.out; omega
                    case rel => exact ⟨(wrap64 (x7_1 + 1)), (by first | rfl | (simp; done) | (simp [*]; done)), H', ⟨by have := HK1.out; omega⟩, by repeat (first | exact Drawn0.refl _ | apply Drawn0.step)⟩
                · rw [if_neg c10] at H
                  exact absurd H (by simp)
              · rw [if_neg c9] at H
                exact absurd H (by simp)
          · rw [if_neg c4] at H
            exact absurd H (by simp)
        · rw [if_neg c3] at H
          exact absurd H (by simp)
      · rw [if_neg c2] at H
        have c2b0 : decide (x7_1 < (a0.size : Int)) = false := decide_eq_false c2
        clear c2
        simp only [Option.some.injEq, Prod.mk.injEq] at H
        obtain ⟨rfl, rfl⟩ := H
        go_wp2
        go_ret2
        exact ⟨by first | rfl | (simp; done) | (simp [*]; done), by repeat (first | exact Drawn0.refl _ | apply Drawn0.step)⟩

end Go.Proofs.YtcjiafjahfmdoaaFmt.A
