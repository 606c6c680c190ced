-- Written by a program of this session (gprint.py) out of the kit's print of the translation. Not trusted: Lean checks it.
import Derived.Test.YteaelkeiocogfaaA0
import Derived.Test.YteaelkeiocogfaaA2
import Derived.Test.YteaelkeiocogfaaA3
namespace Go.Proofs.Yteaelkeiocogfaa.A
open Go.RowKit Go.Proofs.YteaelkeiocogfaaW.PrintWords Go.Proofs.YteaelkeiocogfaaW.PrintLast Go.Proofs.YteaelkeiocogfaaW.PrintMore
attribute [local go_sem] max2_int min2_int max_two min_two max_three min_three max_four min_four   -- for this text's walks alone
set_option linter.unusedVariables false
set_option linter.unusedSimpArgs false

/-! ### laws_areComments9: function 16 -/
def laws_areComments9.l0 : Nat → List ByteArray → List ByteArray → Int → Int → Option (Bool)
  | 0, _, _, _, _ => none
  | k + 1, x0, x5, x6, x7 => if x7 < x6 then (if 0 ≤ x7 then (if x7 < (x5.length : Int) then (if ((rdOf ByteArray.empty x5 x7).size : Int) > 1000 then (some false) else ((spec_IsComment.f k (rdOf ByteArray.empty x5 x7)).bind fun t161 => (if t161 = true then (laws_areComments9.l0 k x0 x5 x6 (wrap64 (x7 + 1))) else (some false)))) else (none)) else (none)) else (if (x0.length : Int) > 0 then (some (decide ((x0.length : Int) ≤ 50))) else (some false))
def laws_areComments9.f (k : Nat) (l0 : List ByteArray) : Option (Bool) := laws_areComments9.l0 k l0 l0 (l0.length : Int) 0
theorem laws_areComments9.mono_l : ∀ k, (∀ y0 y1 y2 y3, LeO (laws_areComments9.l0 k y0 y1 y2 y3) (laws_areComments9.l0 (k + 1) y0 y1 y2 y3))
  | 0 => fun _ _ _ _ r h => by simp [laws_areComments9.l0] at h
  | k + 1 => by
    have ih0 := laws_areComments9.mono_l k
    · intro y0 y1 y2 y3
      unfold laws_areComments9.l0
      repeat' first
      | (with_reducible exact ih0 _ _ _ _)
      | (with_reducible exact spec_IsComment.mono _ _)
      | (with_reducible exact LeO.refl _)
      | (with_reducible exact LeO.none _)
      | (with_reducible refine LeO.ite ?_ ?_)
      | (with_reducible refine LeO.bind ?_ (fun _ => ?_))
      | exact ih0 _ _ _ _
      | exact spec_IsComment.mono _ _
      | exact LeO.none _
      | refine LeO.ite ?_ ?_
      | refine LeO.bind ?_ (fun _ => ?_)
theorem laws_areComments9.mono : ∀ a0 k, LeO (laws_areComments9.f k a0) (laws_areComments9.f (k + 1) a0) := by
  intro a0 k
  have ih0 := laws_areComments9.mono_l k
  unfold laws_areComments9.f
  repeat' first
      | (with_reducible exact ih0 _ _ _ _)
      | (with_reducible exact spec_IsComment.mono _ _)
      | (with_reducible exact LeO.refl _)
      | (with_reducible exact LeO.none _)
      | (with_reducible refine LeO.ite ?_ ?_)
      | (with_reducible refine LeO.bind ?_ (fun _ => ?_))
      | exact ih0 _ _ _ _
      | exact spec_IsComment.mono _ _
      | exact LeO.none _
      | refine LeO.ite ?_ ?_
      | refine LeO.bind ?_ (fun _ => ?_)
set_option maxHeartbeats 8000000 in
set_option maxRecDepth 100000 in
theorem laws_areComments9.calls (k : Nat) (A0 : Option Addr) (c0 : Nat) (l0 : List ByteArray) (r : Bool) (w : World) (hr0 : Kd.C Kd.string w A0 l0.length l0) (hc0 : l0.length ≤ c0) (h : laws_areComments9.f k l0 = some r) :
    Calls Try.prog 16 #[.slice A0 l0.length c0] w fun e w' => e = .returned (.bool r) ∧ Below w.heap.size w w' := by
  have HR0 := Aside0.mk hr0
  have HC0 := Aside0.mk hc0
  clear hr0 hc0
  have HB := Aside0.mk (Below.refl w.heap.size w)
  have H : (laws_areComments9.l0 k l0 l0 (l0.length : Int) 0) = some r := h
  clear h
  have H' := Aside0.mk H
  clear H
  go_enter Try.func16, Try.ntmps16
  go_wp2
  go_loopg [7] k (fun kq v7 w' => ∃ (x7_1 : Int), v7 = .int .i64 x7_1 ∧ Aside0 (laws_areComments9.l0 kq l0 l0 (l0.length : Int) x7_1 = some r) ∧ Aside0 (kq ≤ k) ∧ Aside0 (Below w.heap.size w w'))
  case atStart => exact ⟨(0), (by first | rfl | (simp; done) | (simp [*]; done)), H', ⟨Nat.le_refl _⟩, ⟨by repeat (first | (with_reducible first | exact HB.out | apply below_alloc | apply pw_below_drewN | apply below_drew1) | exact HB.out)⟩⟩
  case round =>
    clear H'
    try clear c1
    obtain ⟨x7_1, rfl, HA, HK1, HB⟩ := hrel
    cases gk with
    | zero => exact absurd HA.out (by simp [laws_areComments9.l0])
    | succ k1 =>
      have H := HA.out
      clear HA
      simp only [laws_areComments9.l0] at H
      by_cases c2 : x7_1 < (l0.length : Int)
      · rw [if_pos c2] at H
        have c2b0 : decide (x7_1 < (l0.length : Int)) = true := decide_eq_true c2
        clear c2
        by_cases c3 : 0 ≤ x7_1
        · rw [if_pos c3] at H
          have c3b0 : decide (0 ≤ x7_1) = true := decide_eq_true c3
          clear c3
          by_cases c4 : x7_1 < (l0.length : Int)
          · rw [if_pos c4] at H
            have c4b0 : decide (x7_1 < (l0.length : Int)) = true := decide_eq_true c4
            clear c4
            by_cases c5 : ((rdOf ByteArray.empty l0 x7_1).size : Int) > 1000
            · rw [if_pos c5] at H
              have c5b0 : decide (1000 < ((rdOf ByteArray.empty l0 x7_1).size : Int)) = true := decide_eq_true c5
              have c5b1 : decide (1000 < (rdOf ByteArray.empty l0 x7_1).size) = true := decide_eq_true (by omega)
              clear c5
              obtain rfl := Option.some.inj H
              have p160 : 0 ≤ (x7_1 : Int) := of_decide_eq_true (by first | (with_reducible assumption) | assumption)
              have q160 : x7_1 < (l0.length : Int) := of_decide_eq_true (by first | (with_reducible assumption) | assumption)
              obtain ⟨ad160, e160, hx160_0⟩ := Kd.at_string HR0.out x7_1 p160 q160
              cases e160
              replace hx160_0 := (HB.out.cell (World.block_lt_of_cell? w _ hx160_0)).trans hx160_0
              replace p160 := eq_true p160
              replace q160 := eq_true q160
              go_wp2
              go_ret
              exact ⟨by first | rfl | (simp [errW_none, errW_some] <;> rfl) | (simp [*, errW_none, errW_some] <;> rfl), by repeat (first | (with_reducible first | exact HB.out | apply below_alloc | apply pw_below_drewN | apply below_drew1) | exact HB.out)⟩
            · rw [if_neg c5] at H
              have c5b0 : decide (1000 < ((rdOf ByteArray.empty l0 x7_1).size : Int)) = false := decide_eq_false c5
              have c5b1 : decide (1000 < (rdOf ByteArray.empty l0 x7_1).size) = false := decide_eq_false (by omega)
              clear c5
              replace H := Option.bind_eq_some_iff.mp H
              obtain ⟨t161, A60, H⟩ := H
              replace H : (if t161 = true then (laws_areComments9.l0 k1 l0 l0 (l0.length : Int) (wrap64 (x7_1 + 1))) else (some false)) = some r := H
              have A6 := Aside0.mk A60
              clear A60
              by_cases c7 : t161 = true
              · subst c7
                have H1 : (laws_areComments9.l0 k1 l0 l0 (l0.length : Int) (wrap64 (x7_1 + 1))) = some r := by rw [if_pos rfl] at H; exact H
                clear H
                have H := H1
                clear H1
                have H' := Aside0.mk H
                clear H
                have p160 : 0 ≤ (x7_1 : Int) := of_decide_eq_true (by first | (with_reducible assumption) | assumption)
                have q160 : x7_1 < (l0.length : Int) := of_decide_eq_true (by first | (with_reducible assumption) | assumption)
                obtain ⟨ad160, e160, hx160_0⟩ := Kd.at_string HR0.out x7_1 p160 q160
                cases e160
                replace hx160_0 := (HB.out.cell (World.block_lt_of_cell? w _ hx160_0)).trans hx160_0
                replace p160 := eq_true p160
                replace q160 := eq_true q160
                go_wp2_with (first | (go_at_call 12; (with_reducible refine (spec_IsComment.calls k1 (rdOf ByteArray.empty l0 x7_1) true _ A6.out).mono ?_); rintro e w8 ⟨rfl, hb⟩; have n0_ := Aside0.mk (below_step (by repeat (first | (with_reducible first | exact HB.out | apply below_alloc | apply pw_below_drewN | apply below_drew1) | exact HB.out)) hb); clear HB; have HB := n0_; clear n0_; (try clear hb); (try clear hb2); (try clear hk); (try clear hi)))
                go_roundg k1
                case measure => have := HK1.out; omega
                case rel => exact ⟨(wrap64 (x7_1 + 1)), (by first | rfl | (simp; done) | (simp [*]; done)), H', ⟨by have := HK1.out; omega⟩, ⟨by repeat (first | (with_reducible first | exact HB.out | apply below_alloc | apply pw_below_drewN | apply below_drew1) | exact HB.out)⟩⟩
              · replace c7 := Bool.eq_false_iff.mpr c7
                subst c7
                have H1 : (some false) = some r := by rw [if_neg (show ¬ (false = true) by decide)] at H; exact H
                clear H
                have H := H1
                clear H1
                obtain rfl := Option.some.inj H
                have p160 : 0 ≤ (x7_1 : Int) := of_decide_eq_true (by first | (with_reducible assumption) | assumption)
                have q160 : x7_1 < (l0.length : Int) := of_decide_eq_true (by first | (with_reducible assumption) | assumption)
                obtain ⟨ad160, e160, hx160_0⟩ := Kd.at_string HR0.out x7_1 p160 q160
                cases e160
                replace hx160_0 := (HB.out.cell (World.block_lt_of_cell? w _ hx160_0)).trans hx160_0
                replace p160 := eq_true p160
                replace q160 := eq_true q160
                go_wp2_with (first | (go_at_call 12; (with_reducible refine (spec_IsComment.calls k1 (rdOf ByteArray.empty l0 x7_1) false _ A6.out).mono ?_); rintro e w9 ⟨rfl, hb⟩; have n0_ := Aside0.mk (below_step (by repeat (first | (with_reducible first | exact HB.out | apply below_alloc | apply pw_below_drewN | apply below_drew1) | exact HB.out)) hb); clear HB; have HB := n0_; clear n0_; (try clear hb); (try clear hb2); (try clear hk); (try clear hi)))
                go_ret
                exact ⟨by first | rfl | (simp [errW_none, errW_some] <;> rfl) | (simp [*, errW_none, errW_some] <;> rfl), by repeat (first | (with_reducible first | exact HB.out | apply below_alloc | apply pw_below_drewN | apply below_drew1) | exact HB.out)⟩
          · rw [if_neg c4] at H
            exact absurd H (by simp)
        · rw [if_neg c3] at H
          exact absurd H (by simp)
      · rw [if_neg c2] at H
        have c2b0 : decide (x7_1 < (l0.length : Int)) = false := decide_eq_false c2
        clear c2
        by_cases c10 : (l0.length : Int) > 0
        · rw [if_pos c10] at H
          have c10b0 : decide (0 < (l0.length : Int)) = true := decide_eq_true c10
          have c10b1 : decide (0 < l0.length) = true := decide_eq_true (by omega)
          clear c10
          obtain rfl := Option.some.inj H
          go_wp2
          go_ret
          exact ⟨by first | rfl | (simp [errW_none, errW_some] <;> rfl) | (simp [*, errW_none, errW_some] <;> rfl), by repeat (first | (with_reducible first | exact HB.out | apply below_alloc | apply pw_below_drewN | apply below_drew1) | exact HB.out)⟩
        · rw [if_neg c10] at H
          have c10b0 : decide (0 < (l0.length : Int)) = false := decide_eq_false c10
          have c10b1 : decide (0 < l0.length) = false := decide_eq_false (by omega)
          clear c10
          obtain rfl := Option.some.inj H
          go_wp2
          go_ret
          exact ⟨by first | rfl | (simp [errW_none, errW_some] <;> rfl) | (simp [*, errW_none, errW_some] <;> rfl), by repeat (first | (with_reducible first | exact HB.out | apply below_alloc | apply pw_below_drewN | apply below_drew1) | exact HB.out)⟩

/-! ### strings_HasPrefix: function 52 -/
def strings_HasPrefix.f (a0 : ByteArray) (a1 : ByteArray) : Option (Bool) := (stringslite_HasPrefix.f a0 a1).bind fun t162 => (some t162)
set_option maxHeartbeats 8000000 in
set_option maxRecDepth 100000 in
theorem strings_HasPrefix.calls (a0 : ByteArray) (a1 : ByteArray) (r : Bool) (w : World) (h : strings_HasPrefix.f a0 a1 = some r) :
    Calls Try.prog 52 #[.string a0, .string a1] w fun e w' => e = .returned (.bool r) ∧ Drawn0 w w' := by
  have H : ((stringslite_HasPrefix.f a0 a1).bind fun t162 => (some t162)) = some r := h
  clear h
  replace H := Option.bind_eq_some_iff.mp H
  obtain ⟨t162, A30, H⟩ := H
  replace H : (some t162) = some r := H
  have A3 := Aside0.mk A30
  clear A30
  obtain rfl := Option.some.inj H
  go_enter Try.func52, Try.ntmps52
  go_wp2_with (first | ((with_reducible refine gate_callee (f := 61) rfl ?_); refine goesL_ (some 7) rfl rfl Try.func61 (by kernel_rfl) rfl #[.string a0, .string a1] rfl (by (try simp only [List.map_toArray, List.map_cons, List.map_nil]); first | done | rfl | (simp only [List.length_drop, List.length_take]; rfl)) ?_; (with_reducible refine (stringslite_HasPrefix.calls a0 a1 t162 _ A3.out).mono ?_); rintro e w' ⟨rfl, ⟨nd, rfl⟩⟩; refine ⟨_, rfl, ?_⟩))
  go_ret
  exact ⟨by first | rfl | (simp; done) | (simp [*]; done), by repeat (first | exact Drawn0.refl _ | apply Drawn0.step)⟩

/-! ### goprinter_go_ast_isDirective: function 43 -/
mutual
def goprinter_go_ast_isDirective.j0 : Nat → ByteArray → Bool → Option (Bool)
  | 0, _, _ => none
  | k + 1, x0, x15 => if x15 = true then (some true) else ((goprinter_go_ast_zzIndex.f k x0 (⟨#[58]⟩ : ByteArray)).bind fun t166 => (if t166 ≤ 0 then (goprinter_go_ast_isDirective.j1 k x0 t166 true) else (goprinter_go_ast_isDirective.j1 k x0 t166 (decide ((wrap64 (t166 + 1)) ≥ (x0.size : Int))))))
def goprinter_go_ast_isDirective.j1 : Nat → ByteArray → Int → Bool → Option (Bool)
  | 0, _, _, _ => none
  | k + 1, x0, x3, x26 => if x26 = true then (some false) else (goprinter_go_ast_isDirective.l0 k x0 x3 0)
def goprinter_go_ast_isDirective.l0 : Nat → ByteArray → Int → Int → Option (Bool)
  | 0, _, _, _ => none
  | k + 1, x0, x3, x4 => if x4 ≤ (wrap64 (x3 + 1)) then (if x4 = x3 then (goprinter_go_ast_isDirective.l0 k x0 x3 (wrap64 (x4 + 1))) else (if 0 ≤ x4 then (if x4 < (x0.size : Int) then (if 97 ≤ (bt x0 x4) then (if (bt x0 x4) ≤ 122 then (goprinter_go_ast_isDirective.l0 k x0 x3 (wrap64 (x4 + 1))) else (if 48 ≤ (bt x0 x4) then (if ((bt x0 x4) ≤ 57) then (goprinter_go_ast_isDirective.l0 k x0 x3 (wrap64 (x4 + 1))) else (some false)) else (some false))) else (if 48 ≤ (bt x0 x4) then (if ((bt x0 x4) ≤ 57) then (goprinter_go_ast_isDirective.l0 k x0 x3 (wrap64 (x4 + 1))) else (some false)) else (some false))) else (none)) else (none))) else (some true)
end
def goprinter_go_ast_isDirective.f (k : Nat) (a0 : ByteArray) : Option (Bool) := (strings_HasPrefix.f a0 (⟨#[108, 105, 110, 101, 32]⟩ : ByteArray)).bind fun t163 => (if t163 = true then (goprinter_go_ast_isDirective.j0 k a0 true) else ((strings_HasPrefix.f a0 (⟨#[101, 120, 116, 101, 114, 110, 32]⟩ : ByteArray)).bind fun t164 => (if t164 = true then (goprinter_go_ast_isDirective.j0 k a0 true) else ((strings_HasPrefix.f a0 (⟨#[101, 120, 112, 111, 114, 116, 32]⟩ : ByteArray)).bind fun t165 => (goprinter_go_ast_isDirective.j0 k a0 t165)))))
theorem goprinter_go_ast_isDirective.mono_l : ∀ k, (∀ y0 y1, LeO (goprinter_go_ast_isDirective.j0 k y0 y1) (goprinter_go_ast_isDirective.j0 (k + 1) y0 y1)) ∧ (∀ y0 y1 y2, LeO (goprinter_go_ast_isDirective.j1 k y0 y1 y2) (goprinter_go_ast_isDirective.j1 (k + 1) y0 y1 y2)) ∧ (∀ y0 y1 y2, LeO (goprinter_go_ast_isDirective.l0 k y0 y1 y2) (goprinter_go_ast_isDirective.l0 (k + 1) y0 y1 y2))
  | 0 => ⟨fun _ _ r h => by simp [goprinter_go_ast_isDirective.j0] at h, fun _ _ _ r h => by simp [goprinter_go_ast_isDirective.j1] at h, fun _ _ _ r h => by simp [goprinter_go_ast_isDirective.l0] at h⟩
  | k + 1 => by
    obtain ⟨ih0, ih1, ih2⟩ := goprinter_go_ast_isDirective.mono_l k
    refine ⟨?_, ?_, ?_⟩
    · intro y0 y1
      unfold goprinter_go_ast_isDirective.j0
      repeat' first
      | (with_reducible exact ih0 _ _)
      | (with_reducible exact ih1 _ _ _)
      | (with_reducible exact ih2 _ _ _)
      | (with_reducible exact goprinter_go_ast_zzIndex.mono _ _ _)
      | (with_reducible exact LeO.refl _)
      | (with_reducible exact LeO.none _)
      | (with_reducible refine LeO.ite ?_ ?_)
      | (with_reducible refine LeO.bind ?_ (fun _ => ?_))
      | exact ih0 _ _
      | exact ih1 _ _ _
      | exact ih2 _ _ _
      | exact goprinter_go_ast_zzIndex.mono _ _ _
      | exact LeO.none _
      | refine LeO.ite ?_ ?_
      | refine LeO.bind ?_ (fun _ => ?_)
    · intro y0 y1 y2
      unfold goprinter_go_ast_isDirective.j1
      repeat' first
      | (with_reducible exact ih0 _ _)
      | (with_reducible exact ih1 _ _ _)
      | (with_reducible exact ih2 _ _ _)
      | (with_reducible exact goprinter_go_ast_zzIndex.mono _ _ _)
      | (with_reducible exact LeO.refl _)
      | (with_reducible exact LeO.none _)
      | (with_reducible refine LeO.ite ?_ ?_)
      | (with_reducible refine LeO.bind ?_ (fun _ => ?_))
      | exact ih0 _ _
      | exact ih1 _ _ _
      | exact ih2 _ _ _
      | exact goprinter_go_ast_zzIndex.mono _ _ _
      | exact LeO.none _
      | refine LeO.ite ?_ ?_
      | refine LeO.bind ?_ (fun _ => ?_)
    · intro y0 y1 y2
      unfold goprinter_go_ast_isDirective.l0
      repeat' first
      | (with_reducible exact ih0 _ _)
      | (with_reducible exact ih1 _ _ _)
      | (with_reducible exact ih2 _ _ _)
      | (with_reducible exact goprinter_go_ast_zzIndex.mono _ _ _)
      | (with_reducible exact LeO.refl _)
      | (with_reducible exact LeO.none _)
      | (with_reducible refine LeO.ite ?_ ?_)
      | (with_reducible refine LeO.bind ?_ (fun _ => ?_))
      | exact ih0 _ _
      | exact ih1 _ _ _
      | exact ih2 _ _ _
      | exact goprinter_go_ast_zzIndex.mono _ _ _
      | exact LeO.none _
      | refine LeO.ite ?_ ?_
      | refine LeO.bind ?_ (fun _ => ?_)
theorem goprinter_go_ast_isDirective.mono : ∀ a0 k, LeO (goprinter_go_ast_isDirective.f k a0) (goprinter_go_ast_isDirective.f (k + 1) a0) := by
  intro a0 k
  obtain ⟨ih0, ih1, ih2⟩ := goprinter_go_ast_isDirective.mono_l k
  unfold goprinter_go_ast_isDirective.f
  repeat' first
      | (with_reducible exact ih0 _ _)
      | (with_reducible exact ih1 _ _ _)
      | (with_reducible exact ih2 _ _ _)
      | (with_reducible exact goprinter_go_ast_zzIndex.mono _ _ _)
      | (with_reducible exact LeO.refl _)
      | (with_reducible exact LeO.none _)
      | (with_reducible refine LeO.ite ?_ ?_)
      | (with_reducible refine LeO.bind ?_ (fun _ => ?_))
      | exact ih0 _ _
      | exact ih1 _ _ _
      | exact ih2 _ _ _
      | exact goprinter_go_ast_zzIndex.mono _ _ _
      | exact LeO.none _
      | refine LeO.ite ?_ ?_
      | refine LeO.bind ?_ (fun _ => ?_)
set_option maxHeartbeats 8000000 in
set_option maxRecDepth 100000 in
theorem goprinter_go_ast_isDirective.calls (k : Nat) (a0 : ByteArray) (r : Bool) (w : World) (h : goprinter_go_ast_isDirective.f k a0 = some r) :
    Calls Try.prog 43 #[.string a0] w fun e w' => e = .returned (.bool r) ∧ Drawn0 w w' := by
  have H : ((strings_HasPrefix.f a0 (⟨#[108, 105, 110, 101, 32]⟩ : ByteArray)).bind fun t163 => (if t163 = true then (goprinter_go_ast_isDirective.j0 k a0 true) else ((strings_HasPrefix.f a0 (⟨#[101, 120, 116, 101, 114, 110, 32]⟩ : ByteArray)).bind fun t164 => (if t164 = true then (goprinter_go_ast_isDirective.j0 k a0 true) else ((strings_HasPrefix.f a0 (⟨#[101, 120, 112, 111, 114, 116, 32]⟩ : ByteArray)).bind fun t165 => (goprinter_go_ast_isDirective.j0 k a0 t165)))))) = some r := h
  clear h
  have HC2 := Aside0.mk H
  clear H
  go_enter Try.func43, Try.ntmps43
  go_upto_region 1 with (fail)
  go_cut [15] (fun v15 wc => ∃ (kq : Nat) (x15_1 : Bool), v15 = .bool x15_1 ∧ Aside0 (goprinter_go_ast_isDirective.j0 kq a0 x15_1 = some r) ∧ Aside0 (kq ≤ k) ∧ Drawn0 w wc)
  case first =>
    have H := HC2.out
    clear HC2
    replace H := Option.bind_eq_some_iff.mp H
    obtain ⟨t163, A30, H⟩ := H
    replace H : (if t163 = true then (goprinter_go_ast_isDirective.j0 k a0 true) else ((strings_HasPrefix.f a0 (⟨#[101, 120, 116, 101, 114, 110, 32]⟩ : ByteArray)).bind fun t164 => (if t164 = true then (goprinter_go_ast_isDirective.j0 k a0 true) else ((strings_HasPrefix.f a0 (⟨#[101, 120, 112, 111, 114, 116, 32]⟩ : ByteArray)).bind fun t165 => (goprinter_go_ast_isDirective.j0 k a0 t165))))) = some r := H
    have A3 := Aside0.mk A30
    clear A30
    by_cases c4 : t163 = true
    · subst c4
      have H1 : (goprinter_go_ast_isDirective.j0 k a0 true) = some r := by rw [if_pos rfl] at H; exact H
      clear H
      have H := H1
      clear H1
      have H' := Aside0.mk H
      clear H
      go_wp2_with (first | ((with_reducible refine gate_callee (f := 52) rfl ?_); refine goesL_ (some 7) rfl rfl Try.func52 (by kernel_rfl) rfl #[.string a0, .string (⟨#[108, 105, 110, 101, 32]⟩ : ByteArray)] rfl (by (try simp only [List.map_toArray, List.map_cons, List.map_nil]); first | done | rfl | (simp only [List.length_drop, List.length_take]; rfl)) ?_; (with_reducible refine (strings_HasPrefix.calls a0 (⟨#[108, 105, 110, 101, 32]⟩ : ByteArray) true _ A3.out).mono ?_); rintro e w' ⟨rfl, ⟨nd, rfl⟩⟩; refine ⟨_, rfl, ?_⟩))
      go_meet
      case rel => exact ⟨_, (true), (by first | rfl | (simp; done) | (simp [*]; done)), H', ⟨by first | omega | exact Nat.le_refl _⟩, by repeat (first | exact Drawn0.refl _ | apply Drawn0.step)⟩
    · replace c4 := Bool.eq_false_iff.mpr c4
      subst c4
      have H1 : ((strings_HasPrefix.f a0 (⟨#[101, 120, 116, 101, 114, 110, 32]⟩ : ByteArray)).bind fun t164 => (if t164 = true then (goprinter_go_ast_isDirective.j0 k a0 true) else ((strings_HasPrefix.f a0 (⟨#[101, 120, 112, 111, 114, 116, 32]⟩ : ByteArray)).bind fun t165 => (goprinter_go_ast_isDirective.j0 k a0 t165)))) = some r := by rw [if_neg (show ¬ (false = true) by decide)] at H; exact H
      clear H
      have H := H1
      clear H1
      replace H := Option.bind_eq_some_iff.mp H
      obtain ⟨t164, A50, H⟩ := H
      replace H : (if t164 = true then (goprinter_go_ast_isDirective.j0 k a0 true) else ((strings_HasPrefix.f a0 (⟨#[101, 120, 112, 111, 114, 116, 32]⟩ : ByteArray)).bind fun t165 => (goprinter_go_ast_isDirective.j0 k a0 t165))) = some r := H
      have A5 := Aside0.mk A50
      clear A50
      by_cases c6 : t164 = true
      · subst c6
        have H1 : (goprinter_go_ast_isDirective.j0 k a0 true) = some r := by rw [if_pos rfl] at H; exact H
        clear H
        have H := H1
        clear H1
        have H' := Aside0.mk H
        clear H
        go_wp2_with (first | ((with_reducible refine gate_callee (f := 52) rfl ?_); refine goesL_ (some 7) rfl rfl Try.func52 (by kernel_rfl) rfl #[.string a0, .string (⟨#[108, 105, 110, 101, 32]⟩ : ByteArray)] rfl (by (try simp only [List.map_toArray, List.map_cons, List.map_nil]); first | done | rfl | (simp only [List.length_drop, List.length_take]; rfl)) ?_; (with_reducible refine (strings_HasPrefix.calls a0 (⟨#[108, 105, 110, 101, 32]⟩ : ByteArray) false _ A3.out).mono ?_); rintro e w' ⟨rfl, ⟨nd, rfl⟩⟩; refine ⟨_, rfl, ?_⟩) | (go_at_call 52; (with_reducible refine (strings_HasPrefix.calls a0 (⟨#[101, 120, 116, 101, 114, 110, 32]⟩ : ByteArray) true _ A5.out).mono ?_); rintro e w' ⟨rfl, ⟨nd, rfl⟩⟩))
        go_meet
        case rel => exact ⟨_, (true), (by first | rfl | (simp; done) | (simp [*]; done)), H', ⟨by first | omega | exact Nat.le_refl _⟩, by repeat (first | exact Drawn0.refl _ | apply Drawn0.step)⟩
      · replace c6 := Bool.eq_false_iff.mpr c6
        subst c6
        have H1 : ((strings_HasPrefix.f a0 (⟨#[101, 120, 112, 111, 114, 116, 32]⟩ : ByteArray)).bind fun t165 => (goprinter_go_ast_isDirective.j0 k a0 t165)) = some r := by rw [if_neg (show ¬ (false = true) by decide)] at H; exact H
        clear H
        have H := H1
        clear H1
        replace H := Option.bind_eq_some_iff.mp H
        obtain ⟨t165, A70, H⟩ := H
        replace H : (goprinter_go_ast_isDirective.j0 k a0 t165) = some r := H
        have A7 := Aside0.mk A70
        clear A70
        have H' := Aside0.mk H
        clear H
        go_wp2_with (first | ((with_reducible refine gate_callee (f := 52) rfl ?_); refine goesL_ (some 7) rfl rfl Try.func52 (by kernel_rfl) rfl #[.string a0, .string (⟨#[108, 105, 110, 101, 32]⟩ : ByteArray)] rfl (by (try simp only [List.map_toArray, List.map_cons, List.map_nil]); first | done | rfl | (simp only [List.length_drop, List.length_take]; rfl)) ?_; (with_reducible refine (strings_HasPrefix.calls a0 (⟨#[108, 105, 110, 101, 32]⟩ : ByteArray) false _ A3.out).mono ?_); rintro e w' ⟨rfl, ⟨nd, rfl⟩⟩; refine ⟨_, rfl, ?_⟩) | (go_at_call 52; (with_reducible refine (strings_HasPrefix.calls a0 (⟨#[101, 120, 116, 101, 114, 110, 32]⟩ : ByteArray) false _ A5.out).mono ?_); rintro e w' ⟨rfl, ⟨nd, rfl⟩⟩) | (go_at_call 52; (with_reducible refine (strings_HasPrefix.calls a0 (⟨#[101, 120, 112, 111, 114, 116, 32]⟩ : ByteArray) t165 _ A7.out).mono ?_); rintro e w' ⟨rfl, ⟨nd, rfl⟩⟩))
        go_meet
        case rel => exact ⟨_, (t165), (by first | rfl | (simp; done) | (simp [*]; done)), H', ⟨by first | omega | exact Nat.le_refl _⟩, by repeat (first | exact Drawn0.refl _ | apply Drawn0.step)⟩
  case rest =>
    clear HC2
    try clear p2
    try clear c4
    try clear c5
    try clear c6
    obtain ⟨kq, x15_1, rfl, HA, HJ1, ⟨mc1, rfl⟩⟩ := hcut
    cases kq with
    | zero => exact absurd HA.out (by simp [goprinter_go_ast_isDirective.j0])
    | succ kj1 =>
      have H := HA.out
      clear HA
      simp only [goprinter_go_ast_isDirective.j0] at H
      by_cases c8 : x15_1 = true
      · subst c8
        have H1 : (some true) = some r := by rw [if_pos rfl] at H; exact H
        clear H
        have H := H1
        clear H1
        obtain rfl := Option.some.inj H
        go_wp2
        go_ret
        exact ⟨by first | rfl | (simp; done) | (simp [*]; done), by repeat (first | exact Drawn0.refl _ | apply Drawn0.step)⟩
      · replace c8 := Bool.eq_false_iff.mpr c8
        subst c8
        have H1 : ((goprinter_go_ast_zzIndex.f kj1 a0 (⟨#[58]⟩ : ByteArray)).bind fun t166 => (if t166 ≤ 0 then (goprinter_go_ast_isDirective.j1 kj1 a0 t166 true) else (goprinter_go_ast_isDirective.j1 kj1 a0 t166 (decide ((wrap64 (t166 + 1)) ≥ (a0.size : Int)))))) = some r := by rw [if_neg (show ¬ (false = true) by decide)] at H; exact H
        clear H
        have H := H1
        clear H1
        replace H := Option.bind_eq_some_iff.mp H
        obtain ⟨t166, A90, H⟩ := H
        replace H : (if t166 ≤ 0 then (goprinter_go_ast_isDirective.j1 kj1 a0 t166 true) else (goprinter_go_ast_isDirective.j1 kj1 a0 t166 (decide ((wrap64 (t166 + 1)) ≥ (a0.size : Int))))) = some r := H
        have A9 := Aside0.mk A90
        clear A90
        have HC10 := Aside0.mk H
        clear H
        go_upto_region 4 with (first | ((with_reducible refine gate_callee (f := 53) rfl ?_); refine goesL_ (some 17) rfl rfl Try.func53 (by kernel_rfl) rfl #[.string a0, .string (⟨#[58]⟩ : ByteArray)] rfl (by (try simp only [List.map_toArray, List.map_cons, List.map_nil]); first | done | rfl | (simp only [List.length_drop, List.length_take]; rfl)) ?_; (with_reducible refine (goprinter_go_ast_zzIndex.calls kj1 a0 (⟨#[58]⟩ : ByteArray) t166 _ A9.out).mono ?_); rintro e w' ⟨rfl, ⟨nd, rfl⟩⟩; refine ⟨_, rfl, ?_⟩))
        (try simp only [Act.put, List.setIfInBounds_toArray, List.set_cons_zero, List.set_cons_succ])
        go_cut [26] (fun v26 wc => ∃ (kq : Nat) (x26_9 : Bool), v26 = .bool x26_9 ∧ Aside0 (goprinter_go_ast_isDirective.j1 kq a0 t166 x26_9 = some r) ∧ Aside0 (kq ≤ kj1) ∧ Drawn0 w wc)
        case first =>
          have H := HC10.out
          clear HC10
          by_cases c11 : t166 ≤ 0
          · rw [if_pos c11] at H
            have c11b0 : decide (t166 ≤ 0) = true := decide_eq_true c11
            clear c11
            (first | rw [c11b0] | (simp only [i64_w, i32_w]; rw [c11b0]) | skip)
            have H' := Aside0.mk H
            clear H
            go_wp2
            go_meet
            case rel => exact ⟨_, (true), (by first | rfl | (simp; done) | (simp [*]; done)), H', ⟨by have := HJ1.out; first | omega | exact Nat.le_refl _⟩, by repeat (first | exact Drawn0.refl _ | apply Drawn0.step)⟩
          · rw [if_neg c11] at H
            have c11b0 : decide (t166 ≤ 0) = false := decide_eq_false c11
            clear c11
            (first | rw [c11b0] | (simp only [i64_w, i32_w]; rw [c11b0]) | skip)
            have H' := Aside0.mk H
            clear H
            go_wp2
            go_meet
            case rel => exact ⟨_, (decide ((wrap64 (t166 + 1)) ≥ (a0.size : Int))), (by first | rfl | (simp; done) | (simp [*]; done)), H', ⟨by have := HJ1.out; first | omega | exact Nat.le_refl _⟩, by repeat (first | exact Drawn0.refl _ | apply Drawn0.step)⟩
        case rest =>
          clear HC10
          try clear c1
          try clear p2
          try clear c4
          try clear c5
          try clear c6
          try clear p6
          try clear c8
          try clear c11
          try clear c11b0
          try clear p2
          obtain ⟨kq, x26_9, rfl, HA, HJ9, ⟨mc9, rfl⟩⟩ := hcut
          cases kq with
          | zero => exact absurd HA.out (by simp [goprinter_go_ast_isDirective.j1])
          | succ kj9 =>
            have H := HA.out
            clear HA
            simp only [goprinter_go_ast_isDirective.j1] at H
            by_cases c12 : x26_9 = true
            · subst c12
              have H1 : (some false) = some r := by rw [if_pos rfl] at H; exact H
              clear H
              have H := H1
              clear H1
              obtain rfl := Option.some.inj H
              go_wp2
              go_ret
              exact ⟨by first | rfl | (simp; done) | (simp [*]; done), by repeat (first | exact Drawn0.refl _ | apply Drawn0.step)⟩
            · replace c12 := Bool.eq_false_iff.mpr c12
              subst c12
              have H1 : (goprinter_go_ast_isDirective.l0 kj9 a0 t166 0) = some r := by rw [if_neg (show ¬ (false = true) by decide)] at H; exact H
              clear H
              have H := H1
              clear H1
              have H' := Aside0.mk H
              clear H
              go_wp2
              go_loopg [4] kj9 (fun kq v4 w' => ∃ (x4_3 : Int), v4 = .int .i64 x4_3 ∧ Aside0 (goprinter_go_ast_isDirective.l0 kq a0 t166 x4_3 = some r) ∧ Aside0 (kq ≤ kj9) ∧ Drawn0 w w')
              case atStart => exact ⟨(0), (by first | rfl | (simp; done) | (simp [*]; done)), H', ⟨Nat.le_refl _⟩, by repeat (first | exact Drawn0.refl _ | apply Drawn0.step)⟩
              case round =>
                clear H'
                try clear c1
                try clear p2
                try clear c4
                try clear c5
                try clear c6
                try clear p6
                try clear c8
                try clear c9
                try clear c11
                try clear c11b0
                try clear c12
                try clear p2
                try clear p6
                obtain ⟨x4_3, rfl, HA, HK3, ⟨m3, rfl⟩⟩ := hrel
                cases gk with
                | zero => exact absurd HA.out (by simp [goprinter_go_ast_isDirective.l0])
                | succ k3 =>
                  have H := HA.out
                  clear HA
                  simp only [goprinter_go_ast_isDirective.l0] at H
                  by_cases c13 : x4_3 ≤ (wrap64 (t166 + 1))
                  · rw [if_pos c13] at H
                    have c13b0 : decide (x4_3 ≤ (wrap64 (t166 + 1))) = true := decide_eq_true c13
                    clear c13
                    by_cases c14 : x4_3 = t166
                    · rw [if_pos c14] at H
                      have c14b0 : (x4_3 == t166) = true := beq_iff_eq.mpr c14
                      have c14b1 : (x4_3 != t166) = false := bne_eq_false_iff_eq.mpr c14
                      clear c14
                      have H' := Aside0.mk H
                      clear H
                      go_wp2
                      go_roundg k3
                      case measure => have := HJ1.out; have := HJ9.out; have := HK3.out; omega
                      case rel => exact ⟨(wrap64 (x4_3 + 1)), (by first | rfl | (simp; done) | (simp [*]; done)), H', ⟨by have := HJ1.out; have := HJ9.out; have := HK3.out; omega⟩, by repeat (first | exact Drawn0.refl _ | apply Drawn0.step)⟩
                    · rw [if_neg c14] at H
                      have c14b0 : (x4_3 == t166) = false := beq_eq_false_iff_ne.mpr c14
                      have c14b1 : (x4_3 != t166) = true := bne_iff_ne.mpr c14
                      by_cases c15 : 0 ≤ x4_3
                      · rw [if_pos c15] at H
                        have c15b0 : decide (0 ≤ x4_3) = true := decide_eq_true c15
                        clear c15
                        by_cases c16 : x4_3 < (a0.size : Int)
                        · rw [if_pos c16] at H
                          have c16b0 : decide (x4_3 < (a0.size : Int)) = true := decide_eq_true c16
                          clear c16
                          by_cases c18 : 97 ≤ (bt a0 x4_3)
                          · rw [if_pos c18] at H
                            have c18b0 : decide (97 ≤ (bt a0 x4_3)) = true := decide_eq_true c18
                            clear c18
                            by_cases c19 : (bt a0 x4_3) ≤ 122
                            · rw [if_pos c19] at H
                              have c19b0 : decide ((bt a0 x4_3) ≤ 122) = true := decide_eq_true c19
                              clear c19
                              have H' := Aside0.mk H
                              clear H
                              have p17 : 0 ≤ (x4_3 : Int) := of_decide_eq_true (by first | (with_reducible assumption) | assumption)
                              have q17 : x4_3 < (a0.size : Int) := of_decide_eq_true (by first | (with_reducible assumption) | assumption)
                              have hx17 := bt_at a0 x4_3
                              replace p17 := eq_true p17
                              replace q17 := eq_true q17
                              go_wp2
                              go_roundg k3
                              case measure => have := HJ1.out; have := HJ9.out; have := HK3.out; omega
                              case rel => exact ⟨(wrap64 (x4_3 + 1)), (by first | rfl | (simp; done) | (simp [*]; done)), H', ⟨by have := HJ1.out; have := HJ9.out; have := HK3.out; omega⟩, by repeat (first | exact Drawn0.refl _ | apply Drawn0.step)⟩
                            · rw [if_neg c19] at H
                              have c19b0 : decide ((bt a0 x4_3) ≤ 122) = false := decide_eq_false c19
                              clear c19
                              by_cases c20 : 48 ≤ (bt a0 x4_3)
                              · rw [if_pos c20] at H
                                have c20b0 : decide (48 ≤ (bt a0 x4_3)) = true := decide_eq_true c20
                                clear c20
                                by_cases c21 : ((bt a0 x4_3) ≤ 57)
                                · rw [if_pos c21] at H
                                  have c21b0 : decide ((bt a0 x4_3) ≤ 57) = true := decide_eq_true c21
                                  clear c21
                                  have H' := Aside0.mk H
                                  clear H
                                  have p17 : 0 ≤ (x4_3 : Int) := of_decide_eq_true (by first | (with_reducible assumption) | assumption)
                                  have q17 : x4_3 < (a0.size : Int) := of_decide_eq_true (by first | (with_reducible assumption) | assumption)
                                  have hx17 := bt_at a0 x4_3
                                  replace p17 := eq_true p17
                                  replace q17 := eq_true q17
                                  go_wp2
                                  go_roundg k3
                                  case measure => have := HJ1.out; have := HJ9.out; have := HK3.out; omega
                                  case rel => exact ⟨(wrap64 (x4_3 + 1)), (by first | rfl | (simp; done) | (simp [*]; done)), H', ⟨by have := HJ1.out; have := HJ9.out; have := HK3.out; omega⟩, by repeat (first | exact Drawn0.refl _ | apply Drawn0.step)⟩
                                · rw [if_neg c21] at H
                                  have c21b0 : decide ((bt a0 x4_3) ≤ 57) = false := decide_eq_false c21
                                  clear c21
                                  obtain rfl := Option.some.inj H
                                  have p17 : 0 ≤ (x4_3 : Int) := of_decide_eq_true (by first | (with_reducible assumption) | assumption)
                                  have q17 : x4_3 < (a0.size : Int) := of_decide_eq_true (by first | (with_reducible assumption) | assumption)
                                  have hx17 := bt_at a0 x4_3
                                  replace p17 := eq_true p17
                                  replace q17 := eq_true q17
                                  go_wp2
                                  go_ret
                                  exact ⟨by first | rfl | (simp; done) | (simp [*]; done), by repeat (first | exact Drawn0.refl _ | apply Drawn0.step)⟩
                              · rw [if_neg c20] at H
                                have c20b0 : decide (48 ≤ (bt a0 x4_3)) = false := decide_eq_false c20
                                clear c20
                                obtain rfl := Option.some.inj H
                                have p17 : 0 ≤ (x4_3 : Int) := of_decide_eq_true (by first | (with_reducible assumption) | assumption)
                                have q17 : x4_3 < (a0.size : Int) := of_decide_eq_true (by first | (with_reducible assumption) | assumption)
                                have hx17 := bt_at a0 x4_3
                                replace p17 := eq_true p17
                                replace q17 := eq_true q17
                                go_wp2
                                go_ret
                                exact ⟨by first | rfl | (simp; done) | (simp [*]; done), by repeat (first | exact Drawn0.refl _ | apply Drawn0.step)⟩
                          · rw [if_neg c18] at H
                            have c18b0 : decide (97 ≤ (bt a0 x4_3)) = false := decide_eq_false c18
                            clear c18
                            by_cases c22 : 48 ≤ (bt a0 x4_3)
                            · rw [if_pos c22] at H
                              have c22b0 : decide (48 ≤ (bt a0 x4_3)) = true := decide_eq_true c22
                              clear c22
                              by_cases c23 : ((bt a0 x4_3) ≤ 57)
                              · rw [if_pos c23] at H
                                have c23b0 : decide ((bt a0 x4_3) ≤ 57) = true := decide_eq_true c23
                                clear c23
                                have H' := Aside0.mk H
                                clear H
                                have p17 : 0 ≤ (x4_3 : Int) := of_decide_eq_true (by first | (with_reducible assumption) | assumption)
                                have q17 : x4_3 < (a0.size : Int) := of_decide_eq_true (by first | (with_reducible assumption) | assumption)
                                have hx17 := bt_at a0 x4_3
                                replace p17 := eq_true p17
                                replace q17 := eq_true q17
                                go_wp2
                                go_roundg k3
                                case measure => have := HJ1.out; have := HJ9.out; have := HK3.out; omega
                                case rel => exact ⟨(wrap64 (x4_3 + 1)), (by first | rfl | (simp; done) | (simp [*]; done)), H', ⟨by have := HJ1.out; have := HJ9.out; have := HK3.out; omega⟩, by repeat (first | exact Drawn0.refl _ | apply Drawn0.step)⟩
                              · rw [if_neg c23] at H
                                have c23b0 : decide ((bt a0 x4_3) ≤ 57) = false := decide_eq_false c23
                                clear c23
                                obtain rfl := Option.some.inj H
                                have p17 : 0 ≤ (x4_3 : Int) := of_decide_eq_true (by first | (with_reducible assumption) | assumption)
                                have q17 : x4_3 < (a0.size : Int) := of_decide_eq_true (by first | (with_reducible assumption) | assumption)
                                have hx17 := bt_at a0 x4_3
                                replace p17 := eq_true p17
                                replace q17 := eq_true q17
                                go_wp2
                                go_ret
                                exact ⟨by first | rfl | (simp; done) | (simp [*]; done), by repeat (first | exact Drawn0.refl _ | apply Drawn0.step)⟩
                            · rw [if_neg c22] at H
                              have c22b0 : decide (48 ≤ (bt a0 x4_3)) = false := decide_eq_false c22
                              clear c22
                              obtain rfl := Option.some.inj H
                              have p17 : 0 ≤ (x4_3 : Int) := of_decide_eq_true (by first | (with_reducible assumption) | assumption)
                              have q17 : x4_3 < (a0.size : Int) := of_decide_eq_true (by first | (with_reducible assumption) | assumption)
                              have hx17 := bt_at a0 x4_3
                              replace p17 := eq_true p17
                              replace q17 := eq_true q17
                              go_wp2
                              go_ret
                              exact ⟨by first | rfl | (simp; done) | (simp [*]; done), by repeat (first | exact Drawn0.refl _ | apply Drawn0.step)⟩
                        · rw [if_neg c16] at H
                          exact absurd H (by simp)
                      · rw [if_neg c15] at H
                        exact absurd H (by simp)
                  · rw [if_neg c13] at H
                    have c13b0 : decide (x4_3 ≤ (wrap64 (t166 + 1))) = false := decide_eq_false c13
                    clear c13
                    obtain rfl := Option.some.inj H
                    go_wp2
                    go_ret
                    exact ⟨by first | rfl | (simp; done) | (simp [*]; done), by repeat (first | exact Drawn0.refl _ | apply Drawn0.step)⟩

/-! ### goprinter_go_ast_isWhitespace: function 54 -/
def goprinter_go_ast_isWhitespace.f (a0 : Int) : Option (Bool) := if a0 = 32 then (some true) else (if a0 = 9 then (some true) else (if a0 = 10 then (some true) else (some (a0 == 13))))
set_option maxHeartbeats 8000000 in
set_option maxRecDepth 100000 in
theorem goprinter_go_ast_isWhitespace.calls (a0 : Int) (r : Bool) (w : World) (h : goprinter_go_ast_isWhitespace.f a0 = some r) :
    Calls Try.prog 54 #[.int .u8 a0] w fun e w' => e = .returned (.bool r) ∧ Drawn0 w w' := by
  have H : (if a0 = 32 then (some true) else (if a0 = 9 then (some true) else (if a0 = 10 then (some true) else (some (a0 == 13))))) = some r := h
  clear h
  by_cases c2 : a0 = 32
  · rw [if_pos c2] at H
    have c2b0 : (a0 == 32) = true := beq_iff_eq.mpr c2
    have c2b1 : (a0 != 32) = false := bne_eq_false_iff_eq.mpr c2
    clear c2
    obtain rfl := Option.some.inj H
    go_enter Try.func54, Try.ntmps54
    go_wp2
    go_ret
    exact ⟨by first | rfl | (simp; done) | (simp [*]; done), by repeat (first | exact Drawn0.refl _ | apply Drawn0.step)⟩
  · rw [if_neg c2] at H
    have c2b0 : (a0 == 32) = false := beq_eq_false_iff_ne.mpr c2
    have c2b1 : (a0 != 32) = true := bne_iff_ne.mpr c2
    by_cases c3 : a0 = 9
    · rw [if_pos c3] at H
      have c3b0 : (a0 == 9) = true := beq_iff_eq.mpr c3
      have c3b1 : (a0 != 9) = false := bne_eq_false_iff_eq.mpr c3
      clear c3
      obtain rfl := Option.some.inj H
      go_enter Try.func54, Try.ntmps54
      go_wp2
      go_ret
      exact ⟨by first | rfl | (simp; done) | (simp [*]; done), by repeat (first | exact Drawn0.refl _ | apply Drawn0.step)⟩
    · rw [if_neg c3] at H
      have c3b0 : (a0 == 9) = false := beq_eq_false_iff_ne.mpr c3
      have c3b1 : (a0 != 9) = true := bne_iff_ne.mpr c3
      by_cases c4 : a0 = 10
      · rw [if_pos c4] at H
        have c4b0 : (a0 == 10) = true := beq_iff_eq.mpr c4
        have c4b1 : (a0 != 10) = false := bne_eq_false_iff_eq.mpr c4
        clear c4
        obtain rfl := Option.some.inj H
        go_enter Try.func54, Try.ntmps54
        go_wp2
        go_ret
        exact ⟨by first | rfl | (simp; done) | (simp [*]; done), by repeat (first | exact Drawn0.refl _ | apply Drawn0.step)⟩
      · rw [if_neg c4] at H
        have c4b0 : (a0 == 10) = false := beq_eq_false_iff_ne.mpr c4
        have c4b1 : (a0 != 10) = true := bne_iff_ne.mpr c4
        obtain rfl := Option.some.inj H
        go_enter Try.func54, Try.ntmps54
        go_wp2
        go_ret
        exact ⟨by first | rfl | (simp; done) | (simp [*]; done), by repeat (first | exact Drawn0.refl _ | apply Drawn0.step)⟩

/-! ### goprinter_go_ast_stripTrailingWhitespace: function 45 -/
def goprinter_go_ast_stripTrailingWhitespace.l0 : Nat → ByteArray → Int → Option (ByteArray)
  | 0, _, _ => none
  | k + 1, x0, x3 => if x3 > 0 then (if 0 ≤ (wrap64 (x3 - 1)) then (if (wrap64 (x3 - 1)) < (x0.size : Int) then ((goprinter_go_ast_isWhitespace.f (bt x0 (wrap64 (x3 - 1)))).bind fun t167 => (if t167 = true then (goprinter_go_ast_stripTrailingWhitespace.l0 k x0 (wrap64 (x3 - 1))) else (if 0 ≤ x3 then (if x3 ≤ (x0.size : Int) then (some (x0.extract 0 (x3 : Int).toNat)) else (none)) else (none)))) else (none)) else (none)) else (if 0 ≤ x3 then (if x3 ≤ (x0.size : Int) then (some (x0.extract 0 (x3 : Int).toNat)) else (none)) else (none))
def goprinter_go_ast_stripTrailingWhitespace.f (k : Nat) (a0 : ByteArray) : Option (ByteArray) := goprinter_go_ast_stripTrailingWhitespace.l0 k a0 (a0.size : Int)
theorem goprinter_go_ast_stripTrailingWhitespace.mono_l : ∀ k, (∀ y0 y1, LeO (goprinter_go_ast_stripTrailingWhitespace.l0 k y0 y1) (goprinter_go_ast_stripTrailingWhitespace.l0 (k + 1) y0 y1))
  | 0 => fun _ _ r h => by simp [goprinter_go_ast_stripTrailingWhitespace.l0] at h
  | k + 1 => by
    have ih0 := goprinter_go_ast_stripTrailingWhitespace.mono_l k
    · intro y0 y1
      unfold goprinter_go_ast_stripTrailingWhitespace.l0
      repeat' first
      | (with_reducible exact ih0 _ _)
      | (with_reducible exact LeO.refl _)
      | (with_reducible exact LeO.none _)
      | (with_reducible refine LeO.ite ?_ ?_)
      | (with_reducible refine LeO.bind ?_ (fun _ => ?_))
      | exact ih0 _ _
      | exact LeO.none _
      | refine LeO.ite ?_ ?_
      | refine LeO.bind ?_ (fun _ => ?_)
theorem goprinter_go_ast_stripTrailingWhitespace.mono : ∀ a0 k, LeO (goprinter_go_ast_stripTrailingWhitespace.f k a0) (goprinter_go_ast_stripTrailingWhitespace.f (k + 1) a0) := by
  intro a0 k
  have ih0 := goprinter_go_ast_stripTrailingWhitespace.mono_l k
  unfold goprinter_go_ast_stripTrailingWhitespace.f
  repeat' first
      | (with_reducible exact ih0 _ _)
      | (with_reducible exact LeO.refl _)
      | (with_reducible exact LeO.none _)
      | (with_reducible refine LeO.ite ?_ ?_)
      | (with_reducible refine LeO.bind ?_ (fun _ => ?_))
      | exact ih0 _ _
      | exact LeO.none _
      | refine LeO.ite ?_ ?_
      | refine LeO.bind ?_ (fun _ => ?_)
set_option maxHeartbeats 8000000 in
set_option maxRecDepth 100000 in
theorem goprinter_go_ast_stripTrailingWhitespace.calls (k : Nat) (a0 : ByteArray) (r : ByteArray) (w : World) (h : goprinter_go_ast_stripTrailingWhitespace.f k a0 = some r) :
    Calls Try.prog 45 #[.string a0] w fun e w' => e = .returned (.string r) ∧ Drawn0 w w' := by
  have H : (goprinter_go_ast_stripTrailingWhitespace.l0 k a0 (a0.size : Int)) = some r := h
  clear h
  have H' := Aside0.mk H
  clear H
  go_enter Try.func45, Try.ntmps45
  go_wp2
  go_loopg [3] k (fun kq v3 w' => ∃ (x3_1 : Int), v3 = .int .i64 x3_1 ∧ Aside0 (goprinter_go_ast_stripTrailingWhitespace.l0 kq a0 x3_1 = some r) ∧ Aside0 (kq ≤ k) ∧ Drawn0 w w')
  case atStart => exact ⟨((a0.size : Int)), (by first | rfl | (simp; done) | (simp [*]; done)), H', ⟨Nat.le_refl _⟩, by repeat (first | exact Drawn0.refl _ | apply Drawn0.step)⟩
  case round =>
    clear H'
    obtain ⟨x3_1, rfl, HA, HK1, ⟨m1, rfl⟩⟩ := hrel
    cases gk with
    | zero => exact absurd HA.out (by simp [goprinter_go_ast_stripTrailingWhitespace.l0])
    | succ k1 =>
      have H := HA.out
      clear HA
      simp only [goprinter_go_ast_stripTrailingWhitespace.l0] at H
      by_cases c2 : x3_1 > 0
      · rw [if_pos c2] at H
        have c2b0 : decide (0 < x3_1) = true := decide_eq_true c2
        clear c2
        obtain ⟨ji3, hji3⟩ : ∃ j_ : Int, (wrap64 (x3_1 - 1)) = j_ := ⟨_, rfl⟩
        replace H : (if 0 ≤ (ji3) then (if (ji3) < (a0.size : Int) then ((goprinter_go_ast_isWhitespace.f (bt a0 (ji3))).bind fun t167 => (if t167 = true then (goprinter_go_ast_stripTrailingWhitespace.l0 k1 a0 ji3) else (if 0 ≤ x3_1 then (if x3_1 ≤ (a0.size : Int) then (some (a0.extract 0 (x3_1 : Int).toNat)) else (none)) else (none)))) else (none)) else (none)) = some r := by first | (rw [hji3] at H; exact H) | (simp only [hji3] at H ⊢; exact H)
        have hji3w : (IntKind.i64.wrap (x3_1 - 1)) = ji3 := (i64_w _).trans hji3
        by_cases c4 : 0 ≤ (ji3)
        · rw [if_pos c4] at H
          have c4b0 : decide (0 ≤ (ji3)) = true := decide_eq_true c4
          clear c4
          by_cases c5 : (ji3) < (a0.size : Int)
          · rw [if_pos c5] at H
            have c5b0 : decide ((ji3) < (a0.size : Int)) = true := decide_eq_true c5
            clear c5
            replace H := Option.bind_eq_some_iff.mp H
            obtain ⟨t167, A70, H⟩ := H
            replace H : (if t167 = true then (goprinter_go_ast_stripTrailingWhitespace.l0 k1 a0 ji3) else (if 0 ≤ x3_1 then (if x3_1 ≤ (a0.size : Int) then (some (a0.extract 0 (x3_1 : Int).toNat)) else (none)) else (none))) = some r := H
            have A7 := Aside0.mk A70
            clear A70
            by_cases c8 : t167 = true
            · subst c8
              have H1 : (goprinter_go_ast_stripTrailingWhitespace.l0 k1 a0 ji3) = some r := by rw [if_pos rfl] at H; exact H
              clear H
              have H := H1
              clear H1
              have H' := Aside0.mk H
              clear H
              have p6 : 0 ≤ ((ji3) : Int) := of_decide_eq_true (by first | (with_reducible assumption) | assumption)
              have q6 : (ji3) < (a0.size : Int) := of_decide_eq_true (by first | (with_reducible assumption) | assumption)
              have hx6 := bt_at a0 (ji3)
              replace p6 := eq_true p6
              replace q6 := eq_true q6
              go_wp2_with (first | (go_at_call 54; (with_reducible refine (goprinter_go_ast_isWhitespace.calls (bt a0 (ji3)) true _ A7.out).mono ?_); rintro e w' ⟨rfl, ⟨nd, rfl⟩⟩))
              go_roundg k1
              case measure => have := HK1.out; omega
              case rel => exact ⟨(ji3), (by first | rfl | (simp; done) | (simp only [← hji3] <;> (first | rfl | simp)) | (simp [*]; done)), H', ⟨by have := HK1.out; omega⟩, by repeat (first | exact Drawn0.refl _ | apply Drawn0.step)⟩
            · replace c8 := Bool.eq_false_iff.mpr c8
              subst c8
              have H1 : (if 0 ≤ x3_1 then (if x3_1 ≤ (a0.size : Int) then (some (a0.extract 0 (x3_1 : Int).toNat)) else (none)) else (none)) = some r := by rw [if_neg (show ¬ (false = true) by decide)] at H; exact H
              clear H
              have H := H1
              clear H1
              by_cases c9 : 0 ≤ x3_1
              · rw [if_pos c9] at H
                have c9b0 := eq_true c9
                have c9b1 : decide (0 ≤ x3_1) = true := decide_eq_true c9
                clear c9
                by_cases c10 : x3_1 ≤ (a0.size : Int)
                · rw [if_pos c10] at H
                  have c10b0 := eq_true c10
                  have c10b1 : decide (x3_1 ≤ (a0.size : Int)) = true := decide_eq_true c10
                  clear c10
                  obtain rfl := Option.some.inj H
                  have p6 : 0 ≤ ((ji3) : Int) := of_decide_eq_true (by first | (with_reducible assumption) | assumption)
                  have q6 : (ji3) < (a0.size : Int) := of_decide_eq_true (by first | (with_reducible assumption) | assumption)
                  have hx6 := bt_at a0 (ji3)
                  replace p6 := eq_true p6
                  replace q6 := eq_true q6
                  go_wp2_with (first | (go_at_call 54; (with_reducible refine (goprinter_go_ast_isWhitespace.calls (bt a0 (ji3)) false _ A7.out).mono ?_); rintro e w' ⟨rfl, ⟨nd, rfl⟩⟩))
                  go_ret
                  exact ⟨by first | rfl | (simp; done) | (simp only [← hji3] <;> (first | rfl | simp)) | (simp [*]; done), by repeat (first | exact Drawn0.refl _ | apply Drawn0.step)⟩
                · rw [if_neg c10] at H
                  exact absurd H (by simp)
              · rw [if_neg c9] at H
                exact absurd H (by simp)
          · rw [if_neg c5] at H
            exact absurd H (by simp)
        · rw [if_neg c4] at H
          exact absurd H (by simp)
      · rw [if_neg c2] at H
        have c2b0 : decide (0 < x3_1) = false := decide_eq_false c2
        clear c2
        by_cases c11 : 0 ≤ x3_1
        · rw [if_pos c11] at H
          have c11b0 := eq_true c11
          have c11b1 : decide (0 ≤ x3_1) = true := decide_eq_true c11
          clear c11
          by_cases c12 : x3_1 ≤ (a0.size : Int)
          · rw [if_pos c12] at H
            have c12b0 := eq_true c12
            have c12b1 : decide (x3_1 ≤ (a0.size : Int)) = true := decide_eq_true c12
            clear c12
            obtain rfl := Option.some.inj H
            go_wp2
            go_ret
            exact ⟨by first | rfl | (simp; done) | (simp [*]; done), by repeat (first | exact Drawn0.refl _ | apply Drawn0.step)⟩
          · rw [if_neg c12] at H
            exact absurd H (by simp)
        · rw [if_neg c11] at H
          exact absurd H (by simp)

-- NOT PRINTED: function 66 (abi_NoEscape)

-- NOT PRINTED: function 62 (strings_Builder_copyCheck)

-- NOT PRINTED: function 67 (bytealg_MakeNoZero)

-- NOT PRINTED: function 63 (strings_Builder_grow)

-- NOT PRINTED: function 55 (strings_Builder_Grow)

-- NOT PRINTED: function 56 (strings_Builder_WriteString)

-- NOT PRINTED: function 57 (strings_Builder_String)

-- NOT PRINTED: function 46 (strings_Join)

-- NOT PRINTED: function 31 (goprinter_go_ast_CommentGroup_Text)

-- GIVEN: function 17 (impl_CommentText)

/-! ### spec_isSmall: function 64 -/
def spec_isSmall.f (a0 : Int) : Option (Bool) := if a0 ≥ 97 then (if a0 ≤ 122 then (some true) else (if a0 ≥ 48 then (some (decide (a0 ≤ 57))) else (some false))) else (if a0 ≥ 48 then (some (decide (a0 ≤ 57))) else (some false))
set_option maxHeartbeats 8000000 in
set_option maxRecDepth 100000 in
theorem spec_isSmall.calls (a0 : Int) (r : Bool) (w : World) (h : spec_isSmall.f a0 = some r) :
    Calls Try.prog 64 #[.int .u8 a0] w fun e w' => e = .returned (.bool r) ∧ Drawn0 w w' := by
  have H : (if a0 ≥ 97 then (if a0 ≤ 122 then (some true) else (if a0 ≥ 48 then (some (decide (a0 ≤ 57))) else (some false))) else (if a0 ≥ 48 then (some (decide (a0 ≤ 57))) else (some false))) = some r := h
  clear h
  by_cases c2 : a0 ≥ 97
  · rw [if_pos c2] at H
    have c2b0 : decide (97 ≤ a0) = true := decide_eq_true c2
    clear c2
    by_cases c3 : a0 ≤ 122
    · rw [if_pos c3] at H
      have c3b0 : decide (a0 ≤ 122) = true := decide_eq_true c3
      clear c3
      obtain rfl := Option.some.inj H
      go_enter Try.func64, Try.ntmps64
      go_wp2
      go_ret
      exact ⟨by first | rfl | (simp; done) | (simp [*]; done), by repeat (first | exact Drawn0.refl _ | apply Drawn0.step)⟩
    · rw [if_neg c3] at H
      have c3b0 : decide (a0 ≤ 122) = false := decide_eq_false c3
      clear c3
      by_cases c4 : a0 ≥ 48
      · rw [if_pos c4] at H
        have c4b0 : decide (48 ≤ a0) = true := decide_eq_true c4
        clear c4
        obtain rfl := Option.some.inj H
        go_enter Try.func64, Try.ntmps64
        go_wp2
        go_ret
        exact ⟨by first | rfl | (simp; done) | (simp [*]; done), by repeat (first | exact Drawn0.refl _ | apply Drawn0.step)⟩
      · rw [if_neg c4] at H
        have c4b0 : decide (48 ≤ a0) = false := decide_eq_false c4
        clear c4
        obtain rfl := Option.some.inj H
        go_enter Try.func64, Try.ntmps64
        go_wp2
        go_ret
        exact ⟨by first | rfl | (simp; done) | (simp [*]; done), by repeat (first | exact Drawn0.refl _ | apply Drawn0.step)⟩
  · rw [if_neg c2] at H
    have c2b0 : decide (97 ≤ a0) = false := decide_eq_false c2
    clear c2
    by_cases c5 : a0 ≥ 48
    · rw [if_pos c5] at H
      have c5b0 : decide (48 ≤ a0) = true := decide_eq_true c5
      clear c5
      obtain rfl := Option.some.inj H
      go_enter Try.func64, Try.ntmps64
      go_wp2
      go_ret
      exact ⟨by first | rfl | (simp; done) | (simp [*]; done), by repeat (first | exact Drawn0.refl _ | apply Drawn0.step)⟩
    · rw [if_neg c5] at H
      have c5b0 : decide (48 ≤ a0) = false := decide_eq_false c5
      clear c5
      obtain rfl := Option.some.inj H
      go_enter Try.func64, Try.ntmps64
      go_wp2
      go_ret
      exact ⟨by first | rfl | (simp; done) | (simp [*]; done), by repeat (first | exact Drawn0.refl _ | apply Drawn0.step)⟩

end Go.Proofs.Yteaelkeiocogfaa.A
