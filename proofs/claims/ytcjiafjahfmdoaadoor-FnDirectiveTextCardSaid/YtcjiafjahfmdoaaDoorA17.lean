-- Written by a program of this session (gprint.py) out of the kit's print of the translation. Not trusted: Lean checks it.
import Derived.Test.YtcjiafjahfmdoaaDoorA0
import Derived.Test.YtcjiafjahfmdoaaDoorA16
namespace Go.Proofs.YtcjiafjahfmdoaaDoor.A
open Go.RowKit Go.Proofs.YtcjiafjahfmdoaaDoorW.PrintWords Go.Proofs.YtcjiafjahfmdoaaDoorW.PrintLast Go.Proofs.YtcjiafjahfmdoaaDoorW.PrintMore
attribute [local go_sem] max2_int min2_int max_two min_two max_three min_three max_four min_four   -- for this text's walks alone
set_option linter.unusedVariables false
set_option linter.unusedSimpArgs false

/-! ### goprinter_go_ast_stripTrailingWhitespace: function 35 -/
def goprinter_go_ast_stripTrailingWhitespace.l0 : Nat → ByteArray → Int → Option (ByteArray)
  | 0, _, _ => none
  | k + 1, x0, x3 => if x3 > 0 then (if 0 ≤ (wrap64 (x3 - 1)) then (if (wrap64 (x3 - 1)) < (x0.size : Int) then ((goprinter_go_ast_isWhitespace.f (bt x0 (wrap64 (x3 - 1)))).bind fun t182 => (if t182 = true then (goprinter_go_ast_stripTrailingWhitespace.l0 k x0 (wrap64 (x3 - 1))) else (if 0 ≤ x3 then (if x3 ≤ (x0.size : Int) then (some (x0.extract 0 (x3 : Int).toNat)) else (none)) else (none)))) else (none)) else (none)) else (if 0 ≤ x3 then (if x3 ≤ (x0.size : Int) then (some (x0.extract 0 (x3 : Int).toNat)) else (none)) else (none))
def goprinter_go_ast_stripTrailingWhitespace.f (k : Nat) (a0 : ByteArray) : Option (ByteArray) := goprinter_go_ast_stripTrailingWhitespace.l0 k a0 (a0.size : Int)
theorem goprinter_go_ast_stripTrailingWhitespace.mono_l : ∀ k, (∀ y0 y1, LeO (goprinter_go_ast_stripTrailingWhitespace.l0 k y0 y1) (goprinter_go_ast_stripTrailingWhitespace.l0 (k + 1) y0 y1))
  | 0 => fun _ _ r h => by simp [goprinter_go_ast_stripTrailingWhitespace.l0] at h
  | k + 1 => by
    have ih0 := goprinter_go_ast_stripTrailingWhitespace.mono_l k
    · intro y0 y1
      unfold goprinter_go_ast_stripTrailingWhitespace.l0
      repeat' first
      | (with_reducible exact ih0 _ _)
      | (with_reducible exact LeO.refl _)
      | (with_reducible exact LeO.none _)
      | (with_reducible refine LeO.ite ?_ ?_)
      | (with_reducible refine LeO.bind ?_ (fun _ => ?_))
      | exact ih0 _ _
      | exact LeO.none _
      | refine LeO.ite ?_ ?_
      | refine LeO.bind ?_ (fun _ => ?_)
theorem goprinter_go_ast_stripTrailingWhitespace.mono : ∀ a0 k, LeO (goprinter_go_ast_stripTrailingWhitespace.f k a0) (goprinter_go_ast_stripTrailingWhitespace.f (k + 1) a0) := by
  intro a0 k
  have ih0 := goprinter_go_ast_stripTrailingWhitespace.mono_l k
  unfold goprinter_go_ast_stripTrailingWhitespace.f
  repeat' first
      | (with_reducible exact ih0 _ _)
      | (with_reducible exact LeO.refl _)
      | (with_reducible exact LeO.none _)
      | (with_reducible refine LeO.ite ?_ ?_)
      | (with_reducible refine LeO.bind ?_ (fun _ => ?_))
      | exact ih0 _ _
      | exact LeO.none _
      | refine LeO.ite ?_ ?_
      | refine LeO.bind ?_ (fun _ => ?_)
set_option maxHeartbeats 8000000 in
set_option maxRecDepth 100000 in
theorem goprinter_go_ast_stripTrailingWhitespace.calls (k : Nat) (a0 : ByteArray) (r : ByteArray) (w : World) (h : goprinter_go_ast_stripTrailingWhitespace.f k a0 = some r) :
    Calls Tryd.prog 35 #[.string a0] w fun e w' => e = .returned (.string r) ∧ Drawn0 w w' := by
  have H : (goprinter_go_ast_stripTrailingWhitespace.l0 k a0 (a0.size : Int)) = some r := h
  clear h
  have H' := Aside0.mk H
  clear H
  go_enter Tryd.func35, Tryd.ntmps35
  go_wp2
  go_loopg [3] k (fun kq v3 w' => ∃ (x3_1 : Int), v3 = .int .i64 x3_1 ∧ Aside0 (goprinter_go_ast_stripTrailingWhitespace.l0 kq a0 x3_1 = some r) ∧ Aside0 (kq ≤ k) ∧ Drawn0 w w')
  case atStart => exact ⟨((a0.size : Int)), (by first | rfl | (simp; done) | (simp [*]; done)), H', ⟨Nat.le_refl _⟩, by repeat (first | exact Drawn0.refl _ | apply Drawn0.step)⟩
  case round =>
    clear H'
    obtain ⟨x3_1, rfl, HA, HK1, ⟨m1, rfl⟩⟩ := hrel
    cases gk with
    | zero => exact absurd HA.out (by simp [goprinter_go_ast_stripTrailingWhitespace.l0])
    | succ k1 =>
      have H := HA.out
      clear HA
      simp only [goprinter_go_ast_stripTrailingWhitespace.l0] at H
      by_cases c2 : x3_1 > 0
      · rw [if_pos c2] at H
        have c2b0 : decide (0 < x3_1) = true := decide_eq_true c2
        clear c2
        obtain ⟨ji3, hji3⟩ : ∃ j_ : Int, (wrap64 (x3_1 - 1)) = j_ := ⟨_, rfl⟩
        replace H : (if 0 ≤ (ji3) then (if (ji3) < (a0.size : Int) then ((goprinter_go_ast_isWhitespace.f (bt a0 (ji3))).bind fun t182 => (if t182 = true then (goprinter_go_ast_stripTrailingWhitespace.l0 k1 a0 ji3) else (if 0 ≤ x3_1 then (if x3_1 ≤ (a0.size : Int) then (some (a0.extract 0 (x3_1 : Int).toNat)) else (none)) else (none)))) else (none)) else (none)) = some r := by first | (rw [hji3] at H; exact H) | (simp only [hji3] at H ⊢; exact H)
        have hji3w : (IntKind.i64.wrap (x3_1 - 1)) = ji3 := (i64_w _).trans hji3
        by_cases c4 : 0 ≤ (ji3)
        · rw [if_pos c4] at H
          have c4b0 : decide (0 ≤ (ji3)) = true := decide_eq_true c4
          clear c4
          by_cases c5 : (ji3) < (a0.size : Int)
          · rw [if_pos c5] at H
            have c5b0 : decide ((ji3) < (a0.size : Int)) = true := decide_eq_true c5
            clear c5
            replace H := Option.bind_eq_some_iff.mp H
            obtain ⟨t182, A70, H⟩ := H
            replace H : (if t182 = true then (goprinter_go_ast_stripTrailingWhitespace.l0 k1 a0 ji3) else (if 0 ≤ x3_1 then (if x3_1 ≤ (a0.size : Int) then (some (a0.extract 0 (x3_1 : Int).toNat)) else (none)) else (none))) = some r := H
            have A7 := Aside0.mk A70
            clear A70
            by_cases c8 : t182 = true
            · subst c8
              have H1 : (goprinter_go_ast_stripTrailingWhitespace.l0 k1 a0 ji3) = some r := by rw [if_pos rfl] at H; exact H
              clear H
              have H := H1
              clear H1
              have H' := Aside0.mk H
              clear H
              have p6 : 0 ≤ ((ji3) : Int) := of_decide_eq_true (by first | (with_reducible assumption) | assumption)
              have q6 : (ji3) < (a0.size : Int) := of_decide_eq_true (by first | (with_reducible assumption) | assumption)
              have hx6 := bt_at a0 (ji3)
              replace p6 := eq_true p6
              replace q6 := eq_true q6
              go_wp2_with (first | (go_at_call 43; (with_reducible refine (goprinter_go_ast_isWhitespace.calls (bt a0 (ji3)) true _ A7.out).mono ?_); rintro e w' ⟨rfl, ⟨nd, rfl⟩⟩))
              go_roundg k1
              case measure => have := HK1.out; omega
              case rel => exact ⟨(ji3), (by first | rfl | (simp; done) | (simp only [← hji3] <;> (first | rfl | simp)) | (simp [*]; done)), H', ⟨by have := HK1.out; omega⟩, by repeat (first | exact Drawn0.refl _ | apply Drawn0.step)⟩
            · replace c8 := Bool.eq_false_iff.mpr c8
              subst c8
              have H1 : (if 0 ≤ x3_1 then (if x3_1 ≤ (a0.size : Int) then (some (a0.extract 0 (x3_1 : Int).toNat)) else (none)) else (none)) = some r := by rw [if_neg (show ¬ (false = true) by decide)] at H; exact H
              clear H
              have H := H1
              clear H1
              by_cases c9 : 0 ≤ x3_1
              · rw [if_pos c9] at H
                have c9b0 := eq_true c9
                have c9b1 : decide (0 ≤ x3_1) = true := decide_eq_true c9
                clear c9
                by_cases c10 : x3_1 ≤ (a0.size : Int)
                · rw [if_pos c10] at H
                  have c10b0 := eq_true c10
                  have c10b1 : decide (x3_1 ≤ (a0.size : Int)) = true := decide_eq_true c10
                  clear c10
                  obtain rfl := Option.some.inj H
                  have p6 : 0 ≤ ((ji3) : Int) := of_decide_eq_true (by first | (with_reducible assumption) | assumption)
                  have q6 : (ji3) < (a0.size : Int) := of_decide_eq_true (by first | (with_reducible assumption) | assumption)
                  have hx6 := bt_at a0 (ji3)
                  replace p6 := eq_true p6
                  replace q6 := eq_true q6
                  go_wp2_with (first | (go_at_call 43; (with_reducible refine (goprinter_go_ast_isWhitespace.calls (bt a0 (ji3)) false _ A7.out).mono ?_); rintro e w' ⟨rfl, ⟨nd, rfl⟩⟩))
                  go_ret
                  exact ⟨by first | rfl | (simp; done) | (simp only [← hji3] <;> (first | rfl | simp)) | (simp [*]; done), by repeat (first | exact Drawn0.refl _ | apply Drawn0.step)⟩
                · rw [if_neg c10] at H
                  exact absurd H (by simp)
              · rw [if_neg c9] at H
                exact absurd H (by simp)
          · rw [if_neg c5] at H
            exact absurd H (by simp)
        · rw [if_neg c4] at H
          exact absurd H (by simp)
      · rw [if_neg c2] at H
        have c2b0 : decide (0 < x3_1) = false := decide_eq_false c2
        clear c2
        by_cases c11 : 0 ≤ x3_1
        · rw [if_pos c11] at H
          have c11b0 := eq_true c11
          have c11b1 : decide (0 ≤ x3_1) = true := decide_eq_true c11
          clear c11
          by_cases c12 : x3_1 ≤ (a0.size : Int)
          · rw [if_pos c12] at H
            have c12b0 := eq_true c12
            have c12b1 : decide (x3_1 ≤ (a0.size : Int)) = true := decide_eq_true c12
            clear c12
            obtain rfl := Option.some.inj H
            go_wp2
            go_ret
            exact ⟨by first | rfl | (simp; done) | (simp [*]; done), by repeat (first | exact Drawn0.refl _ | apply Drawn0.step)⟩
          · rw [if_neg c12] at H
            exact absurd H (by simp)
        · rw [if_neg c11] at H
          exact absurd H (by simp)

-- NOT PRINTED: function 56 (abi_NoEscape)

-- NOT PRINTED: function 53 (strings_Builder_copyCheck)

-- NOT PRINTED: function 57 (bytealg_MakeNoZero)

-- NOT PRINTED: function 54 (strings_Builder_grow)

-- NOT PRINTED: function 44 (strings_Builder_Grow)

-- NOT PRINTED: function 45 (strings_Builder_WriteString)

-- NOT PRINTED: function 46 (strings_Builder_String)

-- NOT PRINTED: function 36 (strings_Join)

-- NOT PRINTED: function 19 (goprinter_go_ast_CommentGroup_Text)

-- GIVEN: function 9 (impl_CommentText)

end Go.Proofs.YtcjiafjahfmdoaaDoor.A
