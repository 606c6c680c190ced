-- Written by a program of this session (gprint.py) out of the kit's print of the translation. Not trusted: Lean checks it.
import Derived.Test.YtcjiafjahfmdoaaDoorA0
import Derived.Test.YtcjiafjahfmdoaaDoorA9
import Derived.Test.YtcjiafjahfmdoaaDoorA14
namespace Go.Proofs.YtcjiafjahfmdoaaDoor.A
open Go.RowKit Go.Proofs.YtcjiafjahfmdoaaDoorW.PrintWords Go.Proofs.YtcjiafjahfmdoaaDoorW.PrintLast Go.Proofs.YtcjiafjahfmdoaaDoorW.PrintMore
attribute [local go_sem] max2_int min2_int max_two min_two max_three min_three max_four min_four   -- for this text's walks alone
set_option linter.unusedVariables false
set_option linter.unusedSimpArgs false

/-! ### goprinter_go_ast_isDirective: function 33 -/
mutual
def goprinter_go_ast_isDirective.j0 : Nat → ByteArray → Bool → Option (Bool)
  | 0, _, _ => none
  | k + 1, x0, x15 => if x15 = true then (some true) else ((goprinter_go_ast_zzIndex.f k x0 (⟨#[58]⟩ : ByteArray)).bind fun t174 => (if t174 ≤ 0 then (goprinter_go_ast_isDirective.j1 k x0 t174 true) else (goprinter_go_ast_isDirective.j1 k x0 t174 (decide ((wrap64 (t174 + 1)) ≥ (x0.size : Int))))))
def goprinter_go_ast_isDirective.j1 : Nat → ByteArray → Int → Bool → Option (Bool)
  | 0, _, _, _ => none
  | k + 1, x0, x3, x26 => if x26 = true then (some false) else (goprinter_go_ast_isDirective.l0 k x0 x3 0)
def goprinter_go_ast_isDirective.l0 : Nat → ByteArray → Int → Int → Option (Bool)
  | 0, _, _, _ => none
  | k + 1, x0, x3, x4 => if x4 ≤ (wrap64 (x3 + 1)) then (if x4 = x3 then (goprinter_go_ast_isDirective.l0 k x0 x3 (wrap64 (x4 + 1))) else (if 0 ≤ x4 then (if x4 < (x0.size : Int) then (if 97 ≤ (bt x0 x4) then (if (bt x0 x4) ≤ 122 then (goprinter_go_ast_isDirective.l0 k x0 x3 (wrap64 (x4 + 1))) else (if 48 ≤ (bt x0 x4) then (if ((bt x0 x4) ≤ 57) then (goprinter_go_ast_isDirective.l0 k x0 x3 (wrap64 (x4 + 1))) else (some false)) else (some false))) else (if 48 ≤ (bt x0 x4) then (if ((bt x0 x4) ≤ 57) then (goprinter_go_ast_isDirective.l0 k x0 x3 (wrap64 (x4 + 1))) else (some false)) else (some false))) else (none)) else (none))) else (some true)
end
def goprinter_go_ast_isDirective.f (k : Nat) (a0 : ByteArray) : Option (Bool) := (strings_HasPrefix.f a0 (⟨#[108, 105, 110, 101, 32]⟩ : ByteArray)).bind fun t171 => (if t171 = true then (goprinter_go_ast_isDirective.j0 k a0 true) else ((strings_HasPrefix.f a0 (⟨#[101, 120, 116, 101, 114, 110, 32]⟩ : ByteArray)).bind fun t172 => (if t172 = true then (goprinter_go_ast_isDirective.j0 k a0 true) else ((strings_HasPrefix.f a0 (⟨#[101, 120, 112, 111, 114, 116, 32]⟩ : ByteArray)).bind fun t173 => (goprinter_go_ast_isDirective.j0 k a0 t173)))))
theorem goprinter_go_ast_isDirective.mono_l : ∀ k, (∀ y0 y1, LeO (goprinter_go_ast_isDirective.j0 k y0 y1) (goprinter_go_ast_isDirective.j0 (k + 1) y0 y1)) ∧ (∀ y0 y1 y2, LeO (goprinter_go_ast_isDirective.j1 k y0 y1 y2) (goprinter_go_ast_isDirective.j1 (k + 1) y0 y1 y2)) ∧ (∀ y0 y1 y2, LeO (goprinter_go_ast_isDirective.l0 k y0 y1 y2) (goprinter_go_ast_isDirective.l0 (k + 1) y0 y1 y2))
  | 0 => ⟨fun _ _ r h => by simp [goprinter_go_ast_isDirective.j0] at h, fun _ _ _ r h => by simp [goprinter_go_ast_isDirective.j1] at h, fun _ _ _ r h => by simp [goprinter_go_ast_isDirective.l0] at h⟩
  | k + 1 => by
    obtain ⟨ih0, ih1, ih2⟩ := goprinter_go_ast_isDirective.mono_l k
    refine ⟨?_, ?_, ?_⟩
    · intro y0 y1
      unfold goprinter_go_ast_isDirective.j0
      repeat' first
      | (with_reducible exact ih0 _ _)
      | (with_reducible exact ih1 _ _ _)
      | (with_reducible exact ih2 _ _ _)
      | (with_reducible exact goprinter_go_ast_zzIndex.mono _ _ _)
      | (with_reducible exact LeO.refl _)
      | (with_reducible exact LeO.none _)
      | (with_reducible refine LeO.ite ?_ ?_)
      | (with_reducible refine LeO.bind ?_ (fun _ => ?_))
      | exact ih0 _ _
      | exact ih1 _ _ _
      | exact ih2 _ _ _
      | exact goprinter_go_ast_zzIndex.mono _ _ _
      | exact LeO.none _
      | refine LeO.ite ?_ ?_
      | refine LeO.bind ?_ (fun _ => ?_)
    · intro y0 y1 y2
      unfold goprinter_go_ast_isDirective.j1
      repeat' first
      | (with_reducible exact ih0 _ _)
      | (with_reducible exact ih1 _ _ _)
      | (with_reducible exact ih2 _ _ _)
      | (with_reducible exact goprinter_go_ast_zzIndex.mono _ _ _)
      | (with_reducible exact LeO.refl _)
      | (with_reducible exact LeO.none _)
      | (with_reducible refine LeO.ite ?_ ?_)
      | (with_reducible refine LeO.bind ?_ (fun _ => ?_))
      | exact ih0 _ _
      | exact ih1 _ _ _
      | exact ih2 _ _ _
      | exact goprinter_go_ast_zzIndex.mono _ _ _
      | exact LeO.none _
      | refine LeO.ite ?_ ?_
      | refine LeO.bind ?_ (fun _ => ?_)
    · intro y0 y1 y2
      unfold goprinter_go_ast_isDirective.l0
      repeat' first
      | (with_reducible exact ih0 _ _)
      | (with_reducible exact ih1 _ _ _)
      | (with_reducible exact ih2 _ _ _)
      | (with_reducible exact goprinter_go_ast_zzIndex.mono _ _ _)
      | (with_reducible exact LeO.refl _)
      | (with_reducible exact LeO.none _)
      | (with_reducible refine LeO.ite ?_ ?_)
      | (with_reducible refine LeO.bind ?_ (fun _ => ?_))
      | exact ih0 _ _
      | exact ih1 _ _ _
      | exact ih2 _ _ _
      | exact goprinter_go_ast_zzIndex.mono _ _ _
      | exact LeO.none _
      | refine LeO.ite ?_ ?_
      | refine LeO.bind ?_ (fun _ => ?_)
theorem goprinter_go_ast_isDirective.mono : ∀ a0 k, LeO (goprinter_go_ast_isDirective.f k a0) (goprinter_go_ast_isDirective.f (k + 1) a0) := by
  intro a0 k
  obtain ⟨ih0, ih1, ih2⟩ := goprinter_go_ast_isDirective.mono_l k
  unfold goprinter_go_ast_isDirective.f
  repeat' first
      | (with_reducible exact ih0 _ _)
      | (with_reducible exact ih1 _ _ _)
      | (with_reducible exact ih2 _ _ _)
      | (with_reducible exact goprinter_go_ast_zzIndex.mono _ _ _)
      | (with_reducible exact LeO.refl _)
      | (with_reducible exact LeO.none _)
      | (with_reducible refine LeO.ite ?_ ?_)
      | (with_reducible refine LeO.bind ?_ (fun _ => ?_))
      | exact ih0 _ _
      | exact ih1 _ _ _
      | exact ih2 _ _ _
      | exact goprinter_go_ast_zzIndex.mono _ _ _
      | exact LeO.none _
      | refine LeO.ite ?_ ?_
      | refine LeO.bind ?_ (fun _ => ?_)
set_option maxHeartbeats 8000000 in
set_option maxRecDepth 100000 in
theorem goprinter_go_ast_isDirective.calls (k : Nat) (a0 : ByteArray) (r : Bool) (w : World) (h : goprinter_go_ast_isDirective.f k a0 = some r) :
    Calls Tryd.prog 33 #[.string a0] w fun e w' => e = .returned (.bool r) ∧ Drawn0 w w' := by
  have H : ((strings_HasPrefix.f a0 (⟨#[108, 105, 110, 101, 32]⟩ : ByteArray)).bind fun t171 => (if t171 = true then (goprinter_go_ast_isDirective.j0 k a0 true) else ((strings_HasPrefix.f a0 (⟨#[101, 120, 116, 101, 114, 110, 32]⟩ : ByteArray)).bind fun t172 => (if t172 = true then (goprinter_go_ast_isDirective.j0 k a0 true) else ((strings_HasPrefix.f a0 (⟨#[101, 120, 112, 111, 114, 116, 32]⟩ : ByteArray)).bind fun t173 => (goprinter_go_ast_isDirective.j0 k a0 t173)))))) = some r := h
  clear h
  have HC2 := Aside0.mk H
  clear H
  go_enter Tryd.func33, Tryd.ntmps33
  go_upto_region 1 with (fail)
  go_cut [15] (fun v15 wc => ∃ (kq : Nat) (x15_1 : Bool), v15 = .bool x15_1 ∧ Aside0 (goprinter_go_ast_isDirective.j0 kq a0 x15_1 = some r) ∧ Aside0 (kq ≤ k) ∧ Drawn0 w wc)
  case first =>
    have H := HC2.out
    clear HC2
    replace H := Option.bind_eq_some_iff.mp H
    obtain ⟨t171, A30, H⟩ := H
    replace H : (if t171 = true then (goprinter_go_ast_isDirective.j0 k a0 true) else ((strings_HasPrefix.f a0 (⟨#[101, 120, 116, 101, 114, 110, 32]⟩ : ByteArray)).bind fun t172 => (if t172 = true then (goprinter_go_ast_isDirective.j0 k a0 true) else ((strings_HasPrefix.f a0 (⟨#[101, 120, 112, 111, 114, 116, 32]⟩ : ByteArray)).bind fun t173 => (goprinter_go_ast_isDirective.j0 k a0 t173))))) = some r := H
    have A3 := Aside0.mk A30
    clear A30
    by_cases c4 : t171 = true
    · subst c4
      have H1 : (goprinter_go_ast_isDirective.j0 k a0 true) = some r := by rw [if_pos rfl] at H; exact H
      clear H
      have H := H1
      clear H1
      have H' := Aside0.mk H
      clear H
      go_wp2_with (first | ((with_reducible refine gate_callee (f := 42) rfl ?_); refine goesL_ (some 7) rfl rfl Tryd.func42 (by kernel_rfl) rfl #[.string a0, .string (⟨#[108, 105, 110, 101, 32]⟩ : ByteArray)] rfl (by (try simp only [List.map_toArray, List.map_cons, List.map_nil]); first | done | rfl | (simp only [List.length_drop, List.length_take]; rfl)) ?_; (with_reducible refine (strings_HasPrefix.calls a0 (⟨#[108, 105, 110, 101, 32]⟩ : ByteArray) true _ A3.out).mono ?_); rintro e w' ⟨rfl, ⟨nd, rfl⟩⟩; refine ⟨_, rfl, ?_⟩))
      go_meet
      case rel => exact ⟨_, (true), (by first | rfl | (simp; done) | (simp [*]; done)), H', ⟨by first | omega | exact Nat.le_refl _⟩, by repeat (first | exact Drawn0.refl _ | apply Drawn0.step)⟩
    · replace c4 := Bool.eq_false_iff.mpr c4
      subst c4
      have H1 : ((strings_HasPrefix.f a0 (⟨#[101, 120, 116, 101, 114, 110, 32]⟩ : ByteArray)).bind fun t172 => (if t172 = true then (goprinter_go_ast_isDirective.j0 k a0 true) else ((strings_HasPrefix.f a0 (⟨#[101, 120, 112, 111, 114, 116, 32]⟩ : ByteArray)).bind fun t173 => (goprinter_go_ast_isDirective.j0 k a0 t173)))) = some r := by rw [if_neg (show ¬ (false = true) by decide)] at H; exact H
      clear H
      have H := H1
      clear H1
      replace H := Option.bind_eq_some_iff.mp H
      obtain ⟨t172, A50, H⟩ := H
      replace H : (if t172 = true then (goprinter_go_ast_isDirective.j0 k a0 true) else ((strings_HasPrefix.f a0 (⟨#[101, 120, 112, 111, 114, 116, 32]⟩ : ByteArray)).bind fun t173 => (goprinter_go_ast_isDirective.j0 k a0 t173))) = some r := H
      have A5 := Aside0.mk A50
      clear A50
      by_cases c6 : t172 = true
      · subst c6
        have H1 : (goprinter_go_ast_isDirective.j0 k a0 true) = some r := by rw [if_pos rfl] at H; exact H
        clear H
        have H := H1
        clear H1
        have H' := Aside0.mk H
        clear H
        go_wp2_with (first | ((with_reducible refine gate_callee (f := 42) rfl ?_); refine goesL_ (some 7) rfl rfl Tryd.func42 (by kernel_rfl) rfl #[.string a0, .string (⟨#[108, 105, 110, 101, 32]⟩ : ByteArray)] rfl (by (try simp only [List.map_toArray, List.map_cons, List.map_nil]); first | done | rfl | (simp only [List.length_drop, List.length_take]; rfl)) ?_; (with_reducible refine (strings_HasPrefix.calls a0 (⟨#[108, 105, 110, 101, 32]⟩ : ByteArray) false _ A3.out).mono ?_); rintro e w' ⟨rfl, ⟨nd, rfl⟩⟩; refine ⟨_, rfl, ?_⟩) | (go_at_call 42; (with_reducible refine (strings_HasPrefix.calls a0 (⟨#[101, 120, 116, 101, 114, 110, 32]⟩ : ByteArray) true _ A5.out).mono ?_); rintro e w' ⟨rfl, ⟨nd, rfl⟩⟩))
        go_meet
        case rel => exact ⟨_, (true), (by first | rfl | (simp; done) | (simp [*]; done)), H', ⟨by first | omega | exact Nat.le_refl _⟩, by repeat (first | exact Drawn0.refl _ | apply Drawn0.step)⟩
      · replace c6 := Bool.eq_false_iff.mpr c6
        subst c6
        have H1 : ((strings_HasPrefix.f a0 (⟨#[101, 120, 112, 111, 114, 116, 32]⟩ : ByteArray)).bind fun t173 => (goprinter_go_ast_isDirective.j0 k a0 t173)) = some r := by rw [if_neg (show ¬ (false = true) by decide)] at H; exact H
        clear H
        have H := H1
        clear H1
        replace H := Option.bind_eq_some_iff.mp H
        obtain ⟨t173, A70, H⟩ := H
        replace H : (goprinter_go_ast_isDirective.j0 k a0 t173) = some r := H
        have A7 := Aside0.mk A70
        clear A70
        have H' := Aside0.mk H
        clear H
        go_wp2_with (first | ((with_reducible refine gate_callee (f := 42) rfl ?_); refine goesL_ (some 7) rfl rfl Tryd.func42 (by kernel_rfl) rfl #[.string a0, .string (⟨#[108, 105, 110, 101, 32]⟩ : ByteArray)] rfl (by (try simp only [List.map_toArray, List.map_cons, List.map_nil]); first | done | rfl | (simp only [List.length_drop, List.length_take]; rfl)) ?_; (with_reducible refine (strings_HasPrefix.calls a0 (⟨#[108, 105, 110, 101, 32]⟩ : ByteArray) false _ A3.out).mono ?_); rintro e w' ⟨rfl, ⟨nd, rfl⟩⟩; refine ⟨_, rfl, ?_⟩) | (go_at_call 42; (with_reducible refine (strings_HasPrefix.calls a0 (⟨#[101, 120, 116, 101, 114, 110, 32]⟩ : ByteArray) false _ A5.out).mono ?_); rintro e w' ⟨rfl, ⟨nd, rfl⟩⟩) | (go_at_call 42; (with_reducible refine (strings_HasPrefix.calls a0 (⟨#[101, 120, 112, 111, 114, 116, 32]⟩ : ByteArray) t173 _ A7.out).mono ?_); rintro e w' ⟨rfl, ⟨nd, rfl⟩⟩))
        go_meet
        case rel => exact ⟨_, (t173), (by first | rfl | (simp; done) | (simp [*]; done)), H', ⟨by first | omega | exact Nat.le_refl _⟩, by repeat (first | exact Drawn0.refl _ | apply Drawn0.step)⟩
  case rest =>
    clear HC2
    try clear p2
    try clear c3
    try clear c4
    try clear c6
    obtain ⟨kq, x15_1, rfl, HA, HJ1, ⟨mc1, rfl⟩⟩ := hcut
    cases kq with
    | zero => exact absurd HA.out (by simp [goprinter_go_ast_isDirective.j0])
    | succ kj1 =>
      have H := HA.out
      clear HA
      simp only [goprinter_go_ast_isDirective.j0] at H
      by_cases c8 : x15_1 = true
      · subst c8
        have H1 : (some true) = some r := by rw [if_pos rfl] at H; exact H
        clear H
        have H := H1
        clear H1
        obtain rfl := Option.some.inj H
        go_wp2
        go_ret
        exact ⟨by first | rfl | (simp; done) | (simp [*]; done), by repeat (first | exact Drawn0.refl _ | apply Drawn0.step)⟩
      · replace c8 := Bool.eq_false_iff.mpr c8
        subst c8
        have H1 : ((goprinter_go_ast_zzIndex.f kj1 a0 (⟨#[58]⟩ : ByteArray)).bind fun t174 => (if t174 ≤ 0 then (goprinter_go_ast_isDirective.j1 kj1 a0 t174 true) else (goprinter_go_ast_isDirective.j1 kj1 a0 t174 (decide ((wrap64 (t174 + 1)) ≥ (a0.size : Int)))))) = some r := by rw [if_neg (show ¬ (false = true) by decide)] at H; exact H
        clear H
        have H := H1
        clear H1
        replace H := Option.bind_eq_some_iff.mp H
        obtain ⟨t174, A90, H⟩ := H
        replace H : (if t174 ≤ 0 then (goprinter_go_ast_isDirective.j1 kj1 a0 t174 true) else (goprinter_go_ast_isDirective.j1 kj1 a0 t174 (decide ((wrap64 (t174 + 1)) ≥ (a0.size : Int))))) = some r := H
        have A9 := Aside0.mk A90
        clear A90
        have HC10 := Aside0.mk H
        clear H
        go_upto_region 4 with (first | ((with_reducible refine gate_callee (f := 23) rfl ?_); refine goesL_ (some 17) rfl rfl Tryd.func23 (by kernel_rfl) rfl #[.string a0, .string (⟨#[58]⟩ : ByteArray)] rfl (by (try simp only [List.map_toArray, List.map_cons, List.map_nil]); first | done | rfl | (simp only [List.length_drop, List.length_take]; rfl)) ?_; (with_reducible refine (goprinter_go_ast_zzIndex.calls kj1 a0 (⟨#[58]⟩ : ByteArray) t174 _ A9.out).mono ?_); rintro e w' ⟨rfl, ⟨nd, rfl⟩⟩; refine ⟨_, rfl, ?_⟩))
        (try simp only [Act.put, List.setIfInBounds_toArray, List.set_cons_zero, List.set_cons_succ])
        go_cut [26] (fun v26 wc => ∃ (kq : Nat) (x26_9 : Bool), v26 = .bool x26_9 ∧ Aside0 (goprinter_go_ast_isDirective.j1 kq a0 t174 x26_9 = some r) ∧ Aside0 (kq ≤ kj1) ∧ Drawn0 w wc)
        case first =>
          have H := HC10.out
          clear HC10
          by_cases c11 : t174 ≤ 0
          · rw [if_pos c11] at H
            have c11b0 : decide (t174 ≤ 0) = true := decide_eq_true c11
            clear c11
            (first | rw [c11b0] | (simp only [i64_w, i32_w]; rw [c11b0]) | skip)
            have H' := Aside0.mk H
            clear H
            go_wp2
            go_meet
            case rel => exact ⟨_, (true), (by first | rfl | (simp; done) | (simp [*]; done)), H', ⟨by have := HJ1.out; first | omega | exact Nat.le_refl _⟩, by repeat (first | exact Drawn0.refl _ | apply Drawn0.step)⟩
          · rw [if_neg c11] at H
            have c11b0 : decide (t174 ≤ 0) = false := decide_eq_false c11
            clear c11
            (first | rw [c11b0] | (simp only [i64_w, i32_w]; rw [c11b0]) | skip)
            have H' := Aside0.mk H
            clear H
            go_wp2
            go_meet
            case rel => exact ⟨_, (decide ((wrap64 (t174 + 1)) ≥ (a0.size : Int))), (by first | rfl | (simp; done) | (simp [*]; done)), H', ⟨by have := HJ1.out; first | omega | exact Nat.le_refl _⟩, by repeat (first | exact Drawn0.refl _ | apply Drawn0.step)⟩
        case rest =>
          clear HC10
          try clear c1
          try clear c2
          try clear p2
          try clear c3
          try clear c4
          try clear c6
          try clear p6
          try clear c8
          try clear c11
          try clear c11b0
          try clear p2
          obtain ⟨kq, x26_9, rfl, HA, HJ9, ⟨mc9, rfl⟩⟩ := hcut
          cases kq with
          | zero => exact absurd HA.out (by simp [goprinter_go_ast_isDirective.j1])
          | succ kj9 =>
            have H := HA.out
            clear HA
            simp only [goprinter_go_ast_isDirective.j1] at H
            by_cases c12 : x26_9 = true
            · subst c12
              have H1 : (some false) = some r := by rw [if_pos rfl] at H; exact H
              clear H
              have H := H1
              clear H1
              obtain rfl := Option.some.inj H
              go_wp2
              go_ret
              exact ⟨by first | rfl | (simp; done) | (simp [*]; done), by repeat (first | exact Drawn0.refl _ | apply Drawn0.step)⟩
            · replace c12 := Bool.eq_false_iff.mpr c12
              subst c12
              have H1 : (goprinter_go_ast_isDirective.l0 kj9 a0 t174 0) = some r := by rw [if_neg (show ¬ (false = true) by decide)] at H; exact H
              clear H
              have H := H1
              clear H1
              have H' := Aside0.mk H
              clear H
              go_wp2
              go_loopg [4] kj9 (fun kq v4 w' => ∃ (x4_3 : Int), v4 = .int .i64 x4_3 ∧ Aside0 (goprinter_go_ast_isDirective.l0 kq a0 t174 x4_3 = some r) ∧ Aside0 (kq ≤ kj9) ∧ Drawn0 w w')
              case atStart => exact ⟨(0), (by first | rfl | (simp; done) | (simp [*]; done)), H', ⟨Nat.le_refl _⟩, by repeat (first | exact Drawn0.refl _ | apply Drawn0.step)⟩
              case round =>
                clear H'
                try clear c1
                try clear c2
                try clear p2
                try clear c3
                try clear c4
                try clear c6
                try clear p6
                try clear c8
                try clear c9
                try clear c11
                try clear c11b0
                try clear c12
                try clear p2
                try clear p6
                obtain ⟨x4_3, rfl, HA, HK3, ⟨m3, rfl⟩⟩ := hrel
                cases gk with
                | zero => exact absurd HA.out (by simp [goprinter_go_ast_isDirective.l0])
                | succ k3 =>
                  have H := HA.out
                  clear HA
                  simp only [goprinter_go_ast_isDirective.l0] at H
                  by_cases c13 : x4_3 ≤ (wrap64 (t174 + 1))
                  · rw [if_pos c13] at H
                    have c13b0 : decide (x4_3 ≤ (wrap64 (t174 + 1))) = true := decide_eq_true c13
                    clear c13
                    by_cases c14 : x4_3 = t174
                    · rw [if_pos c14] at H
                      have c14b0 : (x4_3 == t174) = true := beq_iff_eq.mpr c14
                      have c14b1 : (x4_3 != t174) = false := bne_eq_false_iff_eq.mpr c14
                      clear c14
                      have H' := Aside0.mk H
                      clear H
                      go_wp2
                      go_roundg k3
                      case measure => have := HJ1.out; have := HJ9.out; have := HK3.out; omega
                      case rel => exact ⟨(wrap64 (x4_3 + 1)), (by first | rfl | (simp; done) | (simp [*]; done)), H', ⟨by have := HJ1.out; have := HJ9.out; have := HK3.out; omega⟩, by repeat (first | exact Drawn0.refl _ | apply Drawn0.step)⟩
                    · rw [if_neg c14] at H
                      have c14b0 : (x4_3 == t174) = false := beq_eq_false_iff_ne.mpr c14
                      have c14b1 : (x4_3 != t174) = true := bne_iff_ne.mpr c14
                      by_cases c15 : 0 ≤ x4_3
                      · rw [if_pos c15] at H
                        have c15b0 : decide (0 ≤ x4_3) = true := decide_eq_true c15
                        clear c15
                        by_cases c16 : x4_3 < (a0.size : Int)
                        · rw [if_pos c16] at H
                          have c16b0 : decide (x4_3 < (a0.size : Int)) = true := decide_eq_true c16
                          clear c16
                          by_cases c18 : 97 ≤ (bt a0 x4_3)
                          · rw [if_pos c18] at H
                            have c18b0 : decide (97 ≤ (bt a0 x4_3)) = true := decide_eq_true c18
                            clear c18
                            by_cases c19 : (bt a0 x4_3) ≤ 122
                            · rw [if_pos c19] at H
                              have c19b0 : decide ((bt a0 x4_3) ≤ 122) = true := decide_eq_true c19
                              clear c19
                              have H' := Aside0.mk H
                              clear H
                              have p17 : 0 ≤ (x4_3 : Int) := of_decide_eq_true (by first | (with_reducible assumption) | assumption)
                              have q17 : x4_3 < (a0.size : Int) := of_decide_eq_true (by first | (with_reducible assumption) | assumption)
                              have hx17 := bt_at a0 x4_3
                              replace p17 := eq_true p17
                              replace q17 := eq_true q17
                              go_wp2
                              go_roundg k3
                              case measure => have := HJ1.out; have := HJ9.out; have := HK3.out; omega
                              case rel => exact ⟨(wrap64 (x4_3 + 1)), (by first | rfl | (simp; done) | (simp [*]; done)), H', ⟨by have := HJ1.out; have := HJ9.out; have := HK3.out; omega⟩, by repeat (first | exact Drawn0.refl _ | apply Drawn0.step)⟩
                            · rw [if_neg c19] at H
                              have c19b0 : decide ((bt a0 x4_3) ≤ 122) = false := decide_eq_false c19
                              clear c19
                              by_cases c20 : 48 ≤ (bt a0 x4_3)
                              · rw [if_pos c20] at H
                                have c20b0 : decide (48 ≤ (bt a0 x4_3)) = true := decide_eq_true c20
                                clear c20
                                by_cases c21 : ((bt a0 x4_3) ≤ 57)
                                · rw [if_pos c21] at H
                                  have c21b0 : decide ((bt a0 x4_3) ≤ 57) = true := decide_eq_true c21
                                  clear c21
                                  have H' := Aside0.mk H
                                  clear H
                                  have p17 : 0 ≤ (x4_3 : Int) := of_decide_eq_true (by first | (with_reducible assumption) | assumption)
                                  have q17 : x4_3 < (a0.size : Int) := of_decide_eq_true (by first | (with_reducible assumption) | assumption)
                                  have hx17 := bt_at a0 x4_3
                                  replace p17 := eq_true p17
                                  replace q17 := eq_true q17
                                  go_wp2
                                  go_roundg k3
                                  case measure => have := HJ1.out; have := HJ9.out; have := HK3.out; omega
                                  case rel => exact ⟨(wrap64 (x4_3 + 1)), (by first | rfl | (simp; done) | (simp [*]; done)), H', ⟨by have := HJ1.out; have := HJ9.out; have := HK3.out; omega⟩, by repeat (first | exact Drawn0.refl _ | apply Drawn0.step)⟩
                                · rw [if_neg c21] at H
                                  have c21b0 : decide ((bt a0 x4_3) ≤ 57) = false := decide_eq_false c21
                                  clear c21
                                  obtain rfl := Option.some.inj H
                                  have p17 : 0 ≤ (x4_3 : Int) := of_decide_eq_true (by first | (with_reducible assumption) | assumption)
                                  have q17 : x4_3 < (a0.size : Int) := of_decide_eq_true (by first | (with_reducible assumption) | assumption)
                                  have hx17 := bt_at a0 x4_3
                                  replace p17 := eq_true p17
                                  replace q17 := eq_true q17
                                  go_wp2
                                  go_ret
                                  exact ⟨by first | rfl | (simp; done) | (simp [*]; done), by repeat (first | exact Drawn0.refl _ | apply Drawn0.step)⟩
                              · rw [if_neg c20] at H
                                have c20b0 : decide (48 ≤ (bt a0 x4_3)) = false := decide_eq_false c20
                                clear c20
                                obtain rfl := Option.some.inj H
                                have p17 : 0 ≤ (x4_3 : Int) := of_decide_eq_true (by first | (with_reducible assumption) | assumption)
                                have q17 : x4_3 < (a0.size : Int) := of_decide_eq_true (by first | (with_reducible assumption) | assumption)
                                have hx17 := bt_at a0 x4_3
                                replace p17 := eq_true p17
                                replace q17 := eq_true q17
                                go_wp2
                                go_ret
                                exact ⟨by first | rfl | (simp; done) | (simp [*]; done), by repeat (first | exact Drawn0.refl _ | apply Drawn0.step)⟩
                          · rw [if_neg c18] at H
                            have c18b0 : decide (97 ≤ (bt a0 x4_3)) = false := decide_eq_false c18
                            clear c18
                            by_cases c22 : 48 ≤ (bt a0 x4_3)
                            · rw [if_pos c22] at H
                              have c22b0 : decide (48 ≤ (bt a0 x4_3)) = true := decide_eq_true c22
                              clear c22
                              by_cases c23 : ((bt a0 x4_3) ≤ 57)
                              · rw [if_pos c23] at H
                                have c23b0 : decide ((bt a0 x4_3) ≤ 57) = true := decide_eq_true c23
                                clear c23
                                have H' := Aside0.mk H
                                clear H
                                have p17 : 0 ≤ (x4_3 : Int) := of_decide_eq_true (by first | (with_reducible assumption) | assumption)
                                have q17 : x4_3 < (a0.size : Int) := of_decide_eq_true (by first | (with_reducible assumption) | assumption)
                                have hx17 := bt_at a0 x4_3
                                replace p17 := eq_true p17
                                replace q17 := eq_true q17
                                go_wp2
                                go_roundg k3
                                case measure => have := HJ1.out; have := HJ9.out; have := HK3.out; omega
                                case rel => exact ⟨(wrap64 (x4_3 + 1)), (by first | rfl | (simp; done) | (simp [*]; done)), H', ⟨by have := HJ1.out; have := HJ9.out; have := HK3.out; omega⟩, by repeat (first | exact Drawn0.refl _ | apply Drawn0.step)⟩
                              · rw [if_neg c23] at H
                                have c23b0 : decide ((bt a0 x4_3) ≤ 57) = false := decide_eq_false c23
                                clear c23
                                obtain rfl := Option.some.inj H
                                have p17 : 0 ≤ (x4_3 : Int) := of_decide_eq_true (by first | (with_reducible assumption) | assumption)
                                have q17 : x4_3 < (a0.size : Int) := of_decide_eq_true (by first | (with_reducible assumption) | assumption)
                                have hx17 := bt_at a0 x4_3
                                replace p17 := eq_true p17
                                replace q17 := eq_true q17
                                go_wp2
                                go_ret
                                exact ⟨by first | rfl | (simp; done) | (simp [*]; done), by repeat (first | exact Drawn0.refl _ | apply Drawn0.step)⟩
                            · rw [if_neg c22] at H
                              have c22b0 : decide (48 ≤ (bt a0 x4_3)) = false := decide_eq_false c22
                              clear c22
                              obtain rfl := Option.some.inj H
                              have p17 : 0 ≤ (x4_3 : Int) := of_decide_eq_true (by first | (with_reducible assumption) | assumption)
                              have q17 : x4_3 < (a0.size : Int) := of_decide_eq_true (by first | (with_reducible assumption) | assumption)
                              have hx17 := bt_at a0 x4_3
                              replace p17 := eq_true p17
                              replace q17 := eq_true q17
                              go_wp2
                              go_ret
                              exact ⟨by first | rfl | (simp; done) | (simp [*]; done), by repeat (first | exact Drawn0.refl _ | apply Drawn0.step)⟩
                        · rw [if_neg c16] at H
                          exact absurd H (by simp)
                      · rw [if_neg c15] at H
                        exact absurd H (by simp)
                  · rw [if_neg c13] at H
                    have c13b0 : decide (x4_3 ≤ (wrap64 (t174 + 1))) = false := decide_eq_false c13
                    clear c13
                    obtain rfl := Option.some.inj H
                    go_wp2
                    go_ret
                    exact ⟨by first | rfl | (simp; done) | (simp [*]; done), by repeat (first | exact Drawn0.refl _ | apply Drawn0.step)⟩

end Go.Proofs.YtcjiafjahfmdoaaDoor.A
