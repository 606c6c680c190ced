-- Written by a program of this session (gprint.py) out of the kit's print of the translation. Not trusted: Lean checks it.
import Derived.Test.YtcjiafjahfmdoaaFmtA0
import Derived.Test.YtcjiafjahfmdoaaFmtA5
namespace Go.Proofs.YtcjiafjahfmdoaaFmt.A
open Go.RowKit Go.Proofs.YtcjiafjahfmdoaaFmtW.PrintWords Go.Proofs.YtcjiafjahfmdoaaFmtW.PrintLast Go.Proofs.YtcjiafjahfmdoaaFmtW.PrintMore
attribute [local go_sem] max2_int min2_int max_two min_two max_three min_three max_four min_four   -- for this text's walks alone
set_option linter.unusedVariables false
set_option linter.unusedSimpArgs false

theorem i64_wrap (n : Int) : IntKind.i64.wrap n = wrap64 n := by
  simp [IntKind.wrap, IntKind.bits, IntKind.signed, wrap64]
  split <;> omega
theorem u8_wrap (n : Int) : IntKind.u8.wrap n = n % 256 := by
  simp [IntKind.wrap, IntKind.bits, IntKind.signed]

/-! ### spec_escapeOf: function 20 -/
mutual
def spec_escapeOf.l0 : Nat → ByteArray → ByteArray → ByteArray → Int → Int → Option (Int × Int)
  | 0, _, _, _, _, _ => none
  | k + 1, x0, x4, x5, x10, x11 => if x11 < x10 then (if 0 ≤ x11 then (if x11 < (x4.size : Int) then (if 0 < (x0.size : Int) then (if (bt x4 x11) = (bt x0 0) then (if x11 < (x5.size : Int) then (some (bt x5 x11, 1)) else (none)) else (spec_escapeOf.l0 k x0 x4 x5 x10 (wrap64 (x11 + 1)))) else (none)) else (none)) else (none)) else (if 0 < (x0.size : Int) then (if (bt x0 0) = 120 then (if (x0.size : Int) > 2 then (if 1 < (x0.size : Int) then ((spec_hexOf.f k (bt x0 1)).bind fun t102 => (if t102 ≥ 0 then (if 2 < (x0.size : Int) then ((spec_hexOf.f k (bt x0 2)).bind fun t103 => (spec_escapeOf.j1 k x0 (decide (t103 ≥ 0)))) else (none)) else (spec_escapeOf.j1 k x0 false))) else (none)) else (spec_escapeOf.j1 k x0 false)) else (spec_escapeOf.j1 k x0 false)) else (none))
def spec_escapeOf.j1 : Nat → ByteArray → Bool → Option (Int × Int)
  | 0, _, _ => none
  | k + 1, x0, x43 => if x43 = true then (if 1 < (x0.size : Int) then ((spec_hexOf.f k (bt x0 1)).bind fun t104 => (if 2 < (x0.size : Int) then ((spec_hexOf.f k (bt x0 2)).bind fun t105 => (some ((wrap64 ((wrap64 (16 * t104)) + t105)) % 256, 3))) else (none))) else (none)) else (some (0, 0))
end
def spec_escapeOf.f (k : Nat) (a0 : ByteArray) : Option (Int × Int) := if a0.toList = ([] : List UInt8) then (some (0, 0)) else (spec_escapeOf.l0 k a0 (⟨#[97, 98, 102, 110, 114, 116, 118, 92, 34]⟩ : ByteArray) (⟨#[7, 8, 12, 10, 13, 9, 11, 92, 34]⟩ : ByteArray) 9 0)
theorem spec_escapeOf.mono_l : ∀ k, (∀ y0 y1 y2 y3 y4, LeO (spec_escapeOf.l0 k y0 y1 y2 y3 y4) (spec_escapeOf.l0 (k + 1) y0 y1 y2 y3 y4)) ∧ (∀ y0 y1, LeO (spec_escapeOf.j1 k y0 y1) (spec_escapeOf.j1 (k + 1) y0 y1))
  | 0 => ⟨fun _ _ _ _ _ r h => by simp [spec_escapeOf.l0] at h, fun _ _ r h => by simp [spec_escapeOf.j1] at h⟩
  | k + 1 => by
    obtain ⟨ih0, ih1⟩ := spec_escapeOf.mono_l k
    refine ⟨?_, ?_⟩
    · intro y0 y1 y2 y3 y4
      unfold spec_escapeOf.l0
      repeat' first
      | (with_reducible exact ih0 _ _ _ _ _)
      | (with_reducible exact ih1 _ _)
      | (with_reducible exact spec_hexOf.mono _ _)
      | (with_reducible exact LeO.refl _)
      | (with_reducible exact LeO.none _)
      | (with_reducible refine LeO.ite ?_ ?_)
      | (with_reducible refine LeO.bind ?_ (fun _ => ?_))
      | exact ih0 _ _ _ _ _
      | exact ih1 _ _
      | exact spec_hexOf.mono _ _
      | exact LeO.none _
      | refine LeO.ite ?_ ?_
      | refine LeO.bind ?_ (fun _ => ?_)
    · intro y0 y1
      unfold spec_escapeOf.j1
      repeat' first
      | (with_reducible exact ih0 _ _ _ _ _)
      | (with_reducible exact ih1 _ _)
      | (with_reducible exact spec_hexOf.mono _ _)
      | (with_reducible exact LeO.refl _)
      | (with_reducible exact LeO.none _)
      | (with_reducible refine LeO.ite ?_ ?_)
      | (with_reducible refine LeO.bind ?_ (fun _ => ?_))
      | exact ih0 _ _ _ _ _
      | exact ih1 _ _
      | exact spec_hexOf.mono _ _
      | exact LeO.none _
      | refine LeO.ite ?_ ?_
      | refine LeO.bind ?_ (fun _ => ?_)
theorem spec_escapeOf.mono : ∀ a0 k, LeO (spec_escapeOf.f k a0) (spec_escapeOf.f (k + 1) a0) := by
  intro a0 k
  obtain ⟨ih0, ih1⟩ := spec_escapeOf.mono_l k
  unfold spec_escapeOf.f
  repeat' first
      | (with_reducible exact ih0 _ _ _ _ _)
      | (with_reducible exact ih1 _ _)
      | (with_reducible exact spec_hexOf.mono _ _)
      | (with_reducible exact LeO.refl _)
      | (with_reducible exact LeO.none _)
      | (with_reducible refine LeO.ite ?_ ?_)
      | (with_reducible refine LeO.bind ?_ (fun _ => ?_))
      | exact ih0 _ _ _ _ _
      | exact ih1 _ _
      | exact spec_hexOf.mono _ _
      | exact LeO.none _
      | refine LeO.ite ?_ ?_
      | refine LeO.bind ?_ (fun _ => ?_)
set_option maxHeartbeats 8000000 in
set_option maxRecDepth 100000 in
theorem spec_escapeOf.calls (k : Nat) (a0 : ByteArray) (r1 : Int) (r2 : Int) (w : World) (h : spec_escapeOf.f k a0 = some (r1, r2)) :
    Calls Tryf.prog 20 #[.string a0] w fun e w' => e = .returned (.tuple #[.int .u8 r1, .int .i64 r2]) ∧ Drawn0 w w' := by
  have H : (if a0.toList = ([] : List UInt8) then (some (0, 0)) else (spec_escapeOf.l0 k a0 (⟨#[97, 98, 102, 110, 114, 116, 118, 92, 34]⟩ : ByteArray) (⟨#[7, 8, 12, 10, 13, 9, 11, 92, 34]⟩ : ByteArray) 9 0)) = some (r1, r2) := h
  clear h
  by_cases c2 : a0.toList = ([] : List UInt8)
  · rw [if_pos c2] at H
    have c2b0 : (a0.toList == ([] : List UInt8)) = true := beq_iff_eq.mpr c2
    have c2b1 : (a0.toList != ([] : List UInt8)) = false := bne_eq_false_iff_eq.mpr c2
    clear c2
    simp only [Option.some.injEq, Prod.mk.injEq] at H
    obtain ⟨rfl, rfl⟩ := H
    go_enter Tryf.func20, Tryf.ntmps20
    go_wp2
    repeat (go_quiet (fail); try go_wp2)
    go_ret2
    exact ⟨by first | rfl | (simp; done) | (simp [*]; done), by repeat (first | exact Drawn0.refl _ | apply Drawn0.step)⟩
  · rw [if_neg c2] at H
    have c2b0 : (a0.toList == ([] : List UInt8)) = false := beq_eq_false_iff_ne.mpr c2
    have c2b1 : (a0.toList != ([] : List UInt8)) = true := bne_iff_ne.mpr c2
    have H' := Aside0.mk H
    clear H
    go_enter Tryf.func20, Tryf.ntmps20
    go_wp2
    repeat (go_quiet (fail); try go_wp2)
    go_loopg [11] k (fun kq v11 w' => ∃ (x11_1 : Int), v11 = .int .i64 x11_1 ∧ Aside0 (spec_escapeOf.l0 kq a0 (⟨#[97, 98, 102, 110, 114, 116, 118, 92, 34]⟩ : ByteArray) (⟨#[7, 8, 12, 10, 13, 9, 11, 92, 34]⟩ : ByteArray) 9 x11_1 = some (r1, r2)) ∧ Aside0 (kq ≤ k) ∧ Drawn0 w w')
    case atStart => exact ⟨(0), (by first | rfl | (simp; done) | (simp [*]; done)), H', ⟨Nat.le_refl _⟩, by repeat (first | exact Drawn0.refl _ | apply Drawn0.step)⟩
    case round =>
      clear H'
      try clear c2
      try clear c2b0
      try clear c2b1
      try clear p2
      obtain ⟨x11_1, rfl, HA, HK1, ⟨m1, rfl⟩⟩ := hrel
      cases gk with
      | zero => exact absurd HA.out (by simp [spec_escapeOf.l0])
      | succ k1 =>
        have H := HA.out
        clear HA
        simp only [spec_escapeOf.l0] at H
        by_cases c3 : x11_1 < 9
        · rw [if_pos c3] at H
          have c3b0 : decide (x11_1 < 9) = true := decide_eq_true c3
          clear c3
          by_cases c4 : 0 ≤ x11_1
          · rw [if_pos c4] at H
            have c4b0 : decide (0 ≤ x11_1) = true := decide_eq_true c4
            clear c4
            by_cases c5 : x11_1 < ((⟨#[97, 98, 102, 110, 114, 116, 118, 92, 34]⟩ : ByteArray).size : Int)
            · rw [if_pos c5] at H
              have c5b0 : decide (x11_1 < ((⟨#[97, 98, 102, 110, 114, 116, 118, 92, 34]⟩ : ByteArray).size : Int)) = true := decide_eq_true c5
              clear c5
              by_cases c7 : 0 < (a0.size : Int)
              · rw [if_pos c7] at H
                have c7b0 : decide (0 < (a0.size : Int)) = true := decide_eq_true c7
                have c7b1 : decide (0 < a0.size) = true := decide_eq_true (by omega)
                clear c7
                by_cases c9 : (bt (⟨#[97, 98, 102, 110, 114, 116, 118, 92, 34]⟩ : ByteArray) x11_1) = (bt a0 0)
                · rw [if_pos c9] at H
                  have c9b0 : ((bt (⟨#[97, 98, 102, 110, 114, 116, 118, 92, 34]⟩ : ByteArray) x11_1) == (bt a0 0)) = true := beq_iff_eq.mpr c9
                  have c9b1 : ((bt (⟨#[97, 98, 102, 110, 114, 116, 118, 92, 34]⟩ : ByteArray) x11_1) != (bt a0 0)) = false := bne_eq_false_iff_eq.mpr c9
                  clear c9
                  by_cases c10 : x11_1 < ((⟨#[7, 8, 12, 10, 13, 9, 11, 92, 34]⟩ : ByteArray).size : Int)
                  · rw [if_pos c10] at H
                    have c10b0 : decide (x11_1 < ((⟨#[7, 8, 12, 10, 13, 9, 11, 92, 34]⟩ : ByteArray).size : Int)) = true := decide_eq_true c10
                    clear c10
                    simp only [Option.some.injEq, Prod.mk.injEq] at H
                    obtain ⟨rfl, rfl⟩ := H
                    have p6 : 0 ≤ (x11_1 : Int) := of_decide_eq_true (by first | (with_reducible assumption) | assumption)
                    have q6 : x11_1 < (9 : Int) := of_decide_eq_true (by first | (with_reducible assumption) | assumption)
                    have hx6 := bt_at (⟨#[97, 98, 102, 110, 114, 116, 118, 92, 34]⟩ : ByteArray) x11_1
                    replace p6 := eq_true p6
                    replace q6 := eq_true q6
                    have p8 : 0 ≤ (0 : Int) := (by omega)
                    have q8 : 0 < a0.size := (by have : (0 : Int) < (a0.size : Int) := of_decide_eq_true (by first | (with_reducible assumption) | assumption); omega)
                    have hx8 : ∀ h : 0 < a0.size, ((a0[0]'h).toNat : Int) = bt a0 0 := bt_at a0 0
                    clear p8
                    have qi8 : (0 < (a0.size : Int)) = True := eq_true (of_decide_eq_true (by first | (with_reducible assumption) | assumption))
                    replace q8 := eq_true q8
                    have p11 : 0 ≤ (x11_1 : Int) := of_decide_eq_true (by first | (with_reducible assumption) | assumption)
                    have q11 : x11_1 < (9 : Int) := of_decide_eq_true (by first | (with_reducible assumption) | assumption)
                    have hx11 := bt_at (⟨#[7, 8, 12, 10, 13, 9, 11, 92, 34]⟩ : ByteArray) x11_1
                    replace p11 := eq_true p11
                    replace q11 := eq_true q11
                    go_wp2
                    repeat (go_quiet (fail); try go_wp2)
                    go_ret2
                    exact ⟨by first | rfl | (simp; done) | (simp [*]; done), by repeat (first | exact Drawn0.refl _ | apply Drawn0.step)⟩
                  · rw [if_neg c10] at H
                    exact absurd H (by simp)
                · rw [if_neg c9] at H
                  have c9b0 : ((bt (⟨#[97, 98, 102, 110, 114, 116, 118, 92, 34]⟩ : ByteArray) x11_1) == (bt a0 0)) = false := beq_eq_false_iff_ne.mpr c9
                  have c9b1 : ((bt (⟨#[97, 98, 102, 110, 114, 116, 118, 92, 34]⟩ : ByteArray) x11_1) != (bt a0 0)) = true := bne_iff_ne.mpr c9
                  have H' := Aside0.mk H
                  clear H
                  have p6 : 0 ≤ (x11_1 : Int) := of_decide_eq_true (by first | (with_reducible assumption) | assumption)
                  have q6 : x11_1 < (9 : Int) := of_decide_eq_true (by first | (with_reducible assumption) | assumption)
                  have hx6 := bt_at (⟨#[97, 98, 102, 110, 114, 116, 118, 92, 34]⟩ : ByteArray) x11_1
                  replace p6 := eq_true p6
                  replace q6 := eq_true q6
                  have p8 : 0 ≤ (0 : Int) := (by omega)
                  have q8 : 0 < a0.size := (by have : (0 : Int) < (a0.size : Int) := of_decide_eq_true (by first | (with_reducible assumption) | assumption); omega)
                  have hx8 : ∀ h : 0 < a0.size, ((a0[0]'h).toNat : Int) = bt a0 0 := bt_at a0 0
                  clear p8
                  have qi8 : (0 < (a0.size : Int)) = True := eq_true (of_decide_eq_true (by first | (with_reducible assumption) | assumption))
                  replace q8 := eq_true q8
                  go_wp2
                  repeat (go_quiet (fail); try go_wp2)
                  go_roundg k1
                  case measure => have := HK1.out; omega
                  case rel => exact ⟨(wrap64 (x11_1 + 1)), (by first | rfl | (simp; done) | (simp [*]; done)), H', ⟨by have := HK1.out; omega⟩, by repeat (first | exact Drawn0.refl _ | apply Drawn0.step)⟩
              · rw [if_neg c7] at H
                exact absurd H (by simp)
            · rw [if_neg c5] at H
              exact absurd H (by simp)
          · rw [if_neg c4] at H
            exact absurd H (by simp)
        · rw [if_neg c3] at H
          have c3b0 : decide (x11_1 < 9) = false := decide_eq_false c3
          clear c3
          have HC12 := Aside0.mk H
          clear H
          go_upto_region 10 with (fail)
          repeat (go_quiet (fail); go_upto_region 10 with (fail))
          go_cut [43] (fun v43 wc => ∃ (kq : Nat) (x43_11 : Bool), v43 = .bool x43_11 ∧ Aside0 (spec_escapeOf.j1 kq a0 x43_11 = some (r1, r2)) ∧ Aside0 (kq ≤ k1) ∧ Drawn0 w wc)
          case first =>
            have H := HC12.out
            clear HC12
            by_cases c13 : 0 < (a0.size : Int)
            · rw [if_pos c13] at H
              have c13b0 : decide (0 < (a0.size : Int)) = true := decide_eq_true c13
              have c13b1 : decide (0 < a0.size) = true := decide_eq_true (by omega)
              clear c13
              (first | rw [c13b0] | (simp only [i64_w, i32_w]; rw [c13b0]) | skip)
              by_cases c15 : (bt a0 0) = 120
              · rw [if_pos c15] at H
                have c15b0 : ((bt a0 0) == 120) = true := beq_iff_eq.mpr c15
                have c15b1 : ((bt a0 0) != 120) = false := bne_eq_false_iff_eq.mpr c15
                clear c15
                by_cases c16 : (a0.size : Int) > 2
                · rw [if_pos c16] at H
                  have c16b0 : decide (2 < (a0.size : Int)) = true := decide_eq_true c16
                  have c16b1 : decide (2 < a0.size) = true := decide_eq_true (by omega)
                  clear c16
                  by_cases c17 : 1 < (a0.size : Int)
                  · rw [if_pos c17] at H
                    have c17b0 : decide (1 < (a0.size : Int)) = true := decide_eq_true c17
                    have c17b1 : decide (1 < a0.size) = true := decide_eq_true (by omega)
                    clear c17
                    replace H := Option.bind_eq_some_iff.mp H
                    obtain ⟨t102, A190, H⟩ := H
                    replace H : (if t102 ≥ 0 then (if 2 < (a0.size : Int) then ((spec_hexOf.f k1 (bt a0 2)).bind fun t103 => (spec_escapeOf.j1 k1 a0 (decide (t103 ≥ 0)))) else (none)) else (spec_escapeOf.j1 k1 a0 false)) = some (r1, r2) := H
                    have A19 := Aside0.mk A190
                    clear A190
                    by_cases c20 : t102 ≥ 0
                    · rw [if_pos c20] at H
                      have c20b0 : decide (0 ≤ t102) = true := decide_eq_true c20
                      clear c20
                      by_cases c21 : 2 < (a0.size : Int)
                      · rw [if_pos c21] at H
                        have c21b0 : decide (2 < (a0.size : Int)) = true := decide_eq_true c21
                        have c21b1 : decide (2 < a0.size) = true := decide_eq_true (by omega)
                        clear c21
                        replace H := Option.bind_eq_some_iff.mp H
                        obtain ⟨t103, A230, H⟩ := H
                        replace H : (spec_escapeOf.j1 k1 a0 (decide (t103 ≥ 0))) = some (r1, r2) := H
                        have A23 := Aside0.mk A230
                        clear A230
                        have H' := Aside0.mk H
                        clear H
                        have p14 : 0 ≤ (0 : Int) := (by omega)
                        have q14 : 0 < a0.size := (by have : (0 : Int) < (a0.size : Int) := of_decide_eq_true (by first | (with_reducible assumption) | assumption); omega)
                        have hx14 : ∀ h : 0 < a0.size, ((a0[0]'h).toNat : Int) = bt a0 0 := bt_at a0 0
                        clear p14
                        have qi14 : (0 < (a0.size : Int)) = True := eq_true (of_decide_eq_true (by first | (with_reducible assumption) | assumption))
                        replace q14 := eq_true q14
                        have p18 : 0 ≤ (1 : Int) := (by omega)
                        have q18 : 1 < a0.size := (by have : (1 : Int) < (a0.size : Int) := of_decide_eq_true (by first | (with_reducible assumption) | assumption); omega)
                        have hx18 : ∀ h : 1 < a0.size, ((a0[1]'h).toNat : Int) = bt a0 1 := bt_at a0 1
                        clear p18
                        have qi18 : (1 < (a0.size : Int)) = True := eq_true (of_decide_eq_true (by first | (with_reducible assumption) | assumption))
                        replace q18 := eq_true q18
                        go_wp2_with (first | (go_at_call 29; (with_reducible refine (spec_hexOf.calls k1 (bt a0 1) t102 _ A19.out).mono ?_); rintro e w' ⟨rfl, ⟨nd, rfl⟩⟩; (try first | exact ⟨rfl, _, World.drewN_drewN _ _ _⟩ | exact ⟨rfl, _, Eq.trans (World.drewN_drewN _ _ _) (congrArg (World.drewN _) (Nat.add_assoc _ _ _))⟩); have p22 : 0 ≤ (2 : Int) := (by omega); have q22 : 2 < a0.size := (by have : (2 : Int) < (a0.size : Int) := of_decide_eq_true (by first | (with_reducible assumption) | assumption); omega); have hx22 : ∀ h : 2 < a0.size, ((a0[2]'h).toNat : Int) = bt a0 2 := bt_at a0 2; clear p22; have qi22 : (2 < (a0.size : Int)) = True := eq_true (of_decide_eq_true (by first | (with_reducible assumption) | assumption)); replace q22 := eq_true q22) | (go_at_call 29; (with_reducible refine (spec_hexOf.calls k1 (bt a0 2) t103 _ A23.out).mono ?_); rintro e w' ⟨rfl, ⟨nd, rfl⟩⟩; (try first | exact ⟨rfl, _, World.drewN_drewN _ _ _⟩ | exact ⟨rfl, _, Eq.trans (World.drewN_drewN _ _ _) (congrArg (World.drewN _) (Nat.add_assoc _ _ _))⟩)))
                        repeat (go_quiet (first | (go_at_call 29; (with_reducible refine (spec_hexOf.calls k1 (bt a0 1) t102 _ A19.out).mono ?_); rintro e w' ⟨rfl, ⟨nd, rfl⟩⟩; (try first | exact ⟨rfl, _, World.drewN_drewN _ _ _⟩ | exact ⟨rfl, _, Eq.trans (World.drewN_drewN _ _ _) (congrArg (World.drewN _) (Nat.add_assoc _ _ _))⟩); have p22 : 0 ≤ (2 : Int) := (by omega); have q22 : 2 < a0.size := (by have : (2 : Int) < (a0.size : Int) := of_decide_eq_true (by first | (with_reducible assumption) | assumption); omega); have hx22 : ∀ h : 2 < a0.size, ((a0[2]'h).toNat : Int) = bt a0 2 := bt_at a0 2; clear p22; have qi22 : (2 < (a0.size : Int)) = True := eq_true (of_decide_eq_true (by first | (with_reducible assumption) | assumption)); replace q22 := eq_true q22) | (go_at_call 29; (with_reducible refine (spec_hexOf.calls k1 (bt a0 2) t103 _ A23.out).mono ?_); rintro e w' ⟨rfl, ⟨nd, rfl⟩⟩; (try first | exact ⟨rfl, _, World.drewN_drewN _ _ _⟩ | exact ⟨rfl, _, Eq.trans (World.drewN_drewN _ _ _) (congrArg (World.drewN _) (Nat.add_assoc _ _ _))⟩))); try go_wp2_with (first | (go_at_call 29; (with_reducible refine (spec_hexOf.calls k1 (bt a0 1) t102 _ A19.out).mono ?_); rintro e w' ⟨rfl, ⟨nd, rfl⟩⟩; (try first | exact ⟨rfl, _, World.drewN_drewN _ _ _⟩ | exact ⟨rfl, _, Eq.trans (World.drewN_drewN _ _ _) (congrArg (World.drewN _) (Nat.add_assoc _ _ _))⟩); have p22 : 0 ≤ (2 : Int) := (by omega); have q22 : 2 < a0.size := (by have : (2 : Int) < (a0.size : Int) := of_decide_eq_true (by first | (with_reducible assumption) | assumption); omega); have hx22 : ∀ h : 2 < a0.size, ((a0[2]'h).toNat : Int) = bt a0 2 := bt_at a0 2; clear p22; have qi22 : (2 < (a0.size : Int)) = True := eq_true (of_decide_eq_true (by first | (with_reducible assumption) | assumption)); replace q22 := eq_true q22) | (go_at_call 29; (with_reducible refine (spec_hexOf.calls k1 (bt a0 2) t103 _ A23.out).mono ?_); rintro e w' ⟨rfl, ⟨nd, rfl⟩⟩; (try first | exact ⟨rfl, _, World.drewN_drewN _ _ _⟩ | exact ⟨rfl, _, Eq.trans (World.drewN_drewN _ _ _) (congrArg (World.drewN _) (Nat.add_assoc _ _ _))⟩))))
                        go_meet
                        case rel => exact ⟨_, (decide (t103 ≥ 0)), (by first | rfl | (simp; done) | (simp [*]; done)), H', ⟨by have := HK1.out; first | omega | exact Nat.le_refl _⟩, by repeat (first | exact Drawn0.refl _ | apply Drawn0.step)⟩
                      · rw [if_neg c21] at H
                        exact absurd H (by simp)
                    · rw [if_neg c20] at H
                      have c20b0 : decide (0 ≤ t102) = false := decide_eq_false c20
                      clear c20
                      have H' := Aside0.mk H
                      clear H
                      have p14 : 0 ≤ (0 : Int) := (by omega)
                      have q14 : 0 < a0.size := (by have : (0 : Int) < (a0.size : Int) := of_decide_eq_true (by first | (with_reducible assumption) | assumption); omega)
                      have hx14 : ∀ h : 0 < a0.size, ((a0[0]'h).toNat : Int) = bt a0 0 := bt_at a0 0
                      clear p14
                      have qi14 : (0 < (a0.size : Int)) = True := eq_true (of_decide_eq_true (by first | (with_reducible assumption) | assumption))
                      replace q14 := eq_true q14
                      have p18 : 0 ≤ (1 : Int) := (by omega)
                      have q18 : 1 < a0.size := (by have : (1 : Int) < (a0.size : Int) := of_decide_eq_true (by first | (with_reducible assumption) | assumption); omega)
                      have hx18 : ∀ h : 1 < a0.size, ((a0[1]'h).toNat : Int) = bt a0 1 := bt_at a0 1
                      clear p18
                      have qi18 : (1 < (a0.size : Int)) = True := eq_true (of_decide_eq_true (by first | (with_reducible assumption) | assumption))
                      replace q18 := eq_true q18
                      go_wp2_with (first | (go_at_call 29; (with_reducible refine (spec_hexOf.calls k1 (bt a0 1) t102 _ A19.out).mono ?_); rintro e w' ⟨rfl, ⟨nd, rfl⟩⟩; (try first | exact ⟨rfl, _, World.drewN_drewN _ _ _⟩ | exact ⟨rfl, _, Eq.trans (World.drewN_drewN _ _ _) (congrArg (World.drewN _) (Nat.add_assoc _ _ _))⟩)))
                      repeat (go_quiet (first | (go_at_call 29; (with_reducible refine (spec_hexOf.calls k1 (bt a0 1) t102 _ A19.out).mono ?_); rintro e w' ⟨rfl, ⟨nd, rfl⟩⟩; (try first | exact ⟨rfl, _, World.drewN_drewN _ _ _⟩ | exact ⟨rfl, _, Eq.trans (World.drewN_drewN _ _ _) (congrArg (World.drewN _) (Nat.add_assoc _ _ _))⟩))); try go_wp2_with (first | (go_at_call 29; (with_reducible refine (spec_hexOf.calls k1 (bt a0 1) t102 _ A19.out).mono ?_); rintro e w' ⟨rfl, ⟨nd, rfl⟩⟩; (try first | exact ⟨rfl, _, World.drewN_drewN _ _ _⟩ | exact ⟨rfl, _, Eq.trans (World.drewN_drewN _ _ _) (congrArg (World.drewN _) (Nat.add_assoc _ _ _))⟩))))
                      go_meet
                      case rel => exact ⟨_, (false), (by first | rfl | (simp; done) | (simp [*]; done)), H', ⟨by have := HK1.out; first | omega | exact Nat.le_refl _⟩, by repeat (first | exact Drawn0.refl _ | apply Drawn0.step)⟩
                  · rw [if_neg c17] at H
                    exact absurd H (by simp)
                · rw [if_neg c16] at H
                  have c16b0 : decide (2 < (a0.size : Int)) = false := decide_eq_false c16
                  have c16b1 : decide (2 < a0.size) = false := decide_eq_false (by omega)
                  clear c16
                  have H' := Aside0.mk H
                  clear H
                  have p14 : 0 ≤ (0 : Int) := (by omega)
                  have q14 : 0 < a0.size := (by have : (0 : Int) < (a0.size : Int) := of_decide_eq_true (by first | (with_reducible assumption) | assumption); omega)
                  have hx14 : ∀ h : 0 < a0.size, ((a0[0]'h).toNat : Int) = bt a0 0 := bt_at a0 0
                  clear p14
                  have qi14 : (0 < (a0.size : Int)) = True := eq_true (of_decide_eq_true (by first | (with_reducible assumption) | assumption))
                  replace q14 := eq_true q14
                  go_wp2
                  repeat (go_quiet (fail); try go_wp2)
                  go_meet
                  case rel => exact ⟨_, (false), (by first | rfl | (simp; done) | (simp [*]; done)), H', ⟨by have := HK1.out; first | omega | exact Nat.le_refl _⟩, by repeat (first | exact Drawn0.refl _ | apply Drawn0.step)⟩
              · rw [if_neg c15] at H
                have c15b0 : ((bt a0 0) == 120) = false := beq_eq_false_iff_ne.mpr c15
                have c15b1 : ((bt a0 0) != 120) = true := bne_iff_ne.mpr c15
                have H' := Aside0.mk H
                clear H
                have p14 : 0 ≤ (0 : Int) := (by omega)
                have q14 : 0 < a0.size := (by have : (0 : Int) < (a0.size : Int) := of_decide_eq_true (by first | (with_reducible assumption) | assumption); omega)
                have hx14 : ∀ h : 0 < a0.size, ((a0[0]'h).toNat : Int) = bt a0 0 := bt_at a0 0
                clear p14
                have qi14 : (0 < (a0.size : Int)) = True := eq_true (of_decide_eq_true (by first | (with_reducible assumption) | assumption))
                replace q14 := eq_true q14
                go_wp2
                repeat (go_quiet (fail); try go_wp2)
                go_meet
                case rel => exact ⟨_, (false), (by first | rfl | (simp; done) | (simp [*]; done)), H', ⟨by have := HK1.out; first | omega | exact Nat.le_refl _⟩, by repeat (first | exact Drawn0.refl _ | apply Drawn0.step)⟩
            · rw [if_neg c13] at H
              exact absurd H (by simp)
          case rest =>
            clear HC12
            try clear c1
            try clear p1
            try clear q1
            try clear hx1
            try clear qi1
            try clear c2
            try clear c2b0
            try clear c2b1
            try clear p2
            try clear q2
            try clear hx2
            try clear qi2
            try clear c3
            try clear c3b0
            try clear c4
            try clear c4b0
            try clear c5
            try clear c5b0
            try clear p6
            try clear q6
            try clear hx6
            try clear c7
            try clear c7b0
            try clear c7b1
            try clear p8
            try clear q8
            try clear hx8
            try clear qi8
            try clear c9
            try clear c9b0
            try clear c9b1
            try clear c10
            try clear c10b0
            try clear p11
            try clear q11
            try clear hx11
            try clear c13
            try clear c13b0
            try clear c13b1
            try clear p14
            try clear q14
            try clear hx14
            try clear qi14
            try clear c15
            try clear c15b0
            try clear c15b1
            try clear c16
            try clear c16b0
            try clear c16b1
            try clear c17
            try clear c17b0
            try clear c17b1
            try clear p18
            try clear q18
            try clear hx18
            try clear qi18
            try clear c20
            try clear c20b0
            try clear c21
            try clear c21b0
            try clear c21b1
            try clear p22
            try clear q22
            try clear hx22
            try clear qi22
            try clear p11
            try clear p14
            try clear p18
            try clear p2
            try clear p22
            try clear p6
            try clear p8
            try clear q11
            try clear q14
            try clear q18
            try clear q22
            try clear q6
            try clear q8
            obtain ⟨kq, x43_11, rfl, HA, HJ11, ⟨mc11, rfl⟩⟩ := hcut
            cases kq with
            | zero => exact absurd HA.out (by simp [spec_escapeOf.j1])
            | succ kj11 =>
              have H := HA.out
              clear HA
              simp only [spec_escapeOf.j1] at H
              by_cases c24 : x43_11 = true
              · subst c24
                have H1 : (if 1 < (a0.size : Int) then ((spec_hexOf.f kj11 (bt a0 1)).bind fun t104 => (if 2 < (a0.size : Int) then ((spec_hexOf.f kj11 (bt a0 2)).bind fun t105 => (some ((wrap64 ((wrap64 (16 * t104)) + t105)) % 256, 3))) else (none))) else (none)) = some (r1, r2) := by rw [if_pos rfl] at H; exact H
                clear H
                have H := H1
                clear H1
                by_cases c25 : 1 < (a0.size : Int)
                · rw [if_pos c25] at H
                  have c25b0 : decide (1 < (a0.size : Int)) = true := decide_eq_true c25
                  have c25b1 : decide (1 < a0.size) = true := decide_eq_true (by omega)
                  clear c25
                  replace H := Option.bind_eq_some_iff.mp H
                  obtain ⟨t104, A270, H⟩ := H
                  replace H : (if 2 < (a0.size : Int) then ((spec_hexOf.f kj11 (bt a0 2)).bind fun t105 => (some ((wrap64 ((wrap64 (16 * t104)) + t105)) % 256, 3))) else (none)) = some (r1, r2) := H
                  have A27 := Aside0.mk A270
                  clear A270
                  by_cases c28 : 2 < (a0.size : Int)
                  · rw [if_pos c28] at H
                    have c28b0 : decide (2 < (a0.size : Int)) = true := decide_eq_true c28
                    have c28b1 : decide (2 < a0.size) = true := decide_eq_true (by omega)
                    clear c28
                    replace H := Option.bind_eq_some_iff.mp H
                    obtain ⟨t105, A300, H⟩ := H
                    replace H : (some ((wrap64 ((wrap64 (16 * t104)) + t105)) % 256, 3)) = some (r1, r2) := H
                    have A30 := Aside0.mk A300
                    clear A300
                    simp only [Option.some.injEq, Prod.mk.injEq] at H
                    obtain ⟨rfl, rfl⟩ := H
                    have p26 : 0 ≤ (1 : Int) := (by omega)
                    have q26 : 1 < a0.size := (by have : (1 : Int) < (a0.size : Int) := of_decide_eq_true (by first | (with_reducible assumption) | assumption); omega)
                    have hx26 : ∀ h : 1 < a0.size, ((a0[1]'h).toNat : Int) = bt a0 1 := bt_at a0 1
                    clear p26
                    have qi26 : (1 < (a0.size : Int)) = True := eq_true (of_decide_eq_true (by first | (with_reducible assumption) | assumption))
                    replace q26 := eq_true q26
                    go_wp2_with (first | (go_at_call 29; (with_reducible refine (spec_hexOf.calls kj11 (bt a0 1) t104 _ A27.out).mono ?_); rintro e w' ⟨rfl, ⟨nd, rfl⟩⟩; (try first | exact ⟨rfl, _, World.drewN_drewN _ _ _⟩ | exact ⟨rfl, _, Eq.trans (World.drewN_drewN _ _ _) (congrArg (World.drewN _) (Nat.add_assoc _ _ _))⟩); have p29 : 0 ≤ (2 : Int) := (by omega); have q29 : 2 < a0.size := (by have : (2 : Int) < (a0.size : Int) := of_decide_eq_true (by first | (with_reducible assumption) | assumption); omega); have hx29 : ∀ h : 2 < a0.size, ((a0[2]'h).toNat : Int) = bt a0 2 := bt_at a0 2; clear p29; have qi29 : (2 < (a0.size : Int)) = True := eq_true (of_decide_eq_true (by first | (with_reducible assumption) | assumption)); replace q29 := eq_true q29) | (go_at_call 29; (with_reducible refine (spec_hexOf.calls kj11 (bt a0 2) t105 _ A30.out).mono ?_); rintro e w' ⟨rfl, ⟨nd, rfl⟩⟩; (try first | exact ⟨rfl, _, World.drewN_drewN _ _ _⟩ | exact ⟨rfl, _, Eq.trans (World.drewN_drewN _ _ _) (congrArg (World.drewN _) (Nat.add_assoc _ _ _))⟩)))
                    repeat (go_quiet (first | (go_at_call 29; (with_reducible refine (spec_hexOf.calls kj11 (bt a0 1) t104 _ A27.out).mono ?_); rintro e w' ⟨rfl, ⟨nd, rfl⟩⟩; (try first | exact ⟨rfl, _, World.drewN_drewN _ _ _⟩ | exact ⟨rfl, _, Eq.trans (World.drewN_drewN _ _ _) (congrArg (World.drewN _) (Nat.add_assoc _ _ _))⟩); have p29 : 0 ≤ (2 : Int) := (by omega); have q29 : 2 < a0.size := (by have : (2 : Int) < (a0.size : Int) := of_decide_eq_true (by first | (with_reducible assumption) | assumption); omega); have hx29 : ∀ h : 2 < a0.size, ((a0[2]'h).toNat : Int) = bt a0 2 := bt_at a0 2; clear p29; have qi29 : (2 < (a0.size : Int)) = True := eq_true (of_decide_eq_true (by first | (with_reducible assumption) | assumption)); replace q29 := eq_true q29) | (go_at_call 29; (with_reducible refine (spec_hexOf.calls kj11 (bt a0 2) t105 _ A30.out).mono ?_); rintro e w' ⟨rfl, ⟨nd, rfl⟩⟩; (try first | exact ⟨rfl, _, World.drewN_drewN _ _ _⟩ | exact ⟨rfl, _, Eq.trans (World.drewN_drewN _ _ _) (congrArg (World.drewN _) (Nat.add_assoc _ _ _))⟩))); try go_wp2_with (first | (go_at_call 29; (with_reducible refine (spec_hexOf.calls kj11 (bt a0 1) t104 _ A27.out).mono ?_); rintro e w' ⟨rfl, ⟨nd, rfl⟩⟩; (try first | exact ⟨rfl, _, World.drewN_drewN _ _ _⟩ | exact ⟨rfl, _, Eq.trans (World.drewN_drewN _ _ _) (congrArg (World.drewN _) (Nat.add_assoc _ _ _))⟩); have p29 : 0 ≤ (2 : Int) := (by omega); have q29 : 2 < a0.size := (by have : (2 : Int) < (a0.size : Int) := of_decide_eq_true (by first | (with_reducible assumption) | assumption); omega); have hx29 : ∀ h : 2 < a0.size, ((a0[2]'h).toNat : Int) = bt a0 2 := bt_at a0 2; clear p29; have qi29 : (2 < (a0.size : Int)) = True := eq_true (of_decide_eq_true (by first | (with_reducible assumption) | assumption)); replace q29 := eq_true q29) | (go_at_call 29; (with_reducible refine (spec_hexOf.calls kj11 (bt a0 2) t105 _ A30.out).mono ?_); rintro e w' ⟨rfl, ⟨nd, rfl⟩⟩; (try first | exact ⟨rfl, _, World.drewN_drewN _ _ _⟩ | exact ⟨rfl, _, Eq.trans (World.drewN_drewN _ _ _) (congrArg (World.drewN _) (Nat.add_assoc _ _ _))⟩))))
                    go_ret2
                    exact ⟨by first | rfl | (simp; done) | (simp [*]; done) | (simp [i64_wrap, u8_wrap]; done), by repeat (first | exact Drawn0.refl _ | apply Drawn0.step)⟩
                  · rw [if_neg c28] at H
                    exact absurd H (by simp)
                · rw [if_neg c25] at H
                  exact absurd H (by simp)
              · replace c24 := Bool.eq_false_iff.mpr c24
                subst c24
                have H1 : (some (0, 0)) = some (r1, r2) := by rw [if_neg (show ¬ (false = true) by decide)] at H; exact H
                clear H
                have H := H1
                clear H1
                simp only [Option.some.injEq, Prod.mk.injEq] at H
                obtain ⟨rfl, rfl⟩ := H
                go_wp2
                repeat (go_quiet (fail); try go_wp2)
                go_ret2
                exact ⟨by first | rfl | (simp; done) | (simp [*]; done), by repeat (first | exact Drawn0.refl _ | apply Drawn0.step)⟩

end Go.Proofs.YtcjiafjahfmdoaaFmt.A
