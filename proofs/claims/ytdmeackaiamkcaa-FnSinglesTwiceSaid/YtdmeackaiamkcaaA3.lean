-- Written by a program of this session (gprint.py) out of the kit's print of the translation. Not trusted: Lean checks it.
import Derived.Test.YtdmeackaiamkcaaA0
import Derived.Test.YtdmeackaiamkcaaA1
import Derived.Test.YtdmeackaiamkcaaA2
import Derived.Test.YtdmeackaiamkcaaGLess
namespace Go.Proofs.Ytdmeackaiamkcaa.A
open Go.RowKit Go.Proofs.YtdmeackaiamkcaaW.PrintWords Go.Proofs.YtdmeackaiamkcaaW.PrintLast Go.Proofs.YtdmeackaiamkcaaW.PrintMore
attribute [local go_sem] max2_int min2_int max_two min_two max_three min_three max_four min_four   -- for this text's walks alone
set_option linter.unusedVariables false
set_option linter.unusedSimpArgs false

attribute [local go_sem high] eqA26
/-! ### laws_FnLess: function 3 -/
mutual
def laws_FnLess.j0 : Nat → List (S26) → Int → Int → Bool → Option (Bool)
  | 0, _, _, _, _ => none
  | k + 1, x0, x1, x2, x34 => if x34 = true then (some true) else (if 0 ≤ x1 then (if x1 < (x0.length : Int) then (if 0 ≤ x2 then (if x2 < (x0.length : Int) then ((laws_before9.f ((rd_T26 x0 x1).f0) ((rd_T26 x0 x1).f1) ((rd_T26 x0 x1).f2) ((rd_T26 x0 x1).f3) ((rd_T26 x0 x2).f0) ((rd_T26 x0 x2).f1) ((rd_T26 x0 x2).f2) ((rd_T26 x0 x2).f3)).bind fun t115 => ((laws_before9.f ((rd_T26 x0 x2).f0) ((rd_T26 x0 x2).f1) ((rd_T26 x0 x2).f2) ((rd_T26 x0 x2).f3) ((rd_T26 x0 x1).f0) ((rd_T26 x0 x1).f1) ((rd_T26 x0 x1).f2) ((rd_T26 x0 x1).f3)).bind fun t118 => (if t115 = true then (laws_FnLess.j1 k x0 x1 x2 t115 t118 false) else (laws_FnLess.j1 k x0 x1 x2 t115 t118 (!t118))))) else (none)) else (none)) else (none)) else (none))
def laws_FnLess.j1 : Nat → List (S26) → Int → Int → Bool → Bool → Bool → Option (Bool)
  | 0, _, _, _, _, _, _ => none
  | k + 1, x0, x1, x2, x7, x8, x58 => if x58 = true then (some true) else ((impl_IsLess.f x0 x1 x2 false).bind fun t119 => (if (t119 == x7) = true then ((impl_IsLess.f x0 x1 x2 true).bind fun t120 => (some (t120 == x8))) else (some false)))
end
def laws_FnLess.f (k : Nat) (l0 : List (S26)) (a1 : Int) (a2 : Int) : Option (Bool) := (laws_zzFits4.f k l0).bind fun t111 => (if t111 = true then ((laws_fewFaults9.f k l0).bind fun t112 => (if t112 = true then (if a1 < 0 then (laws_FnLess.j0 k l0 a1 a2 true) else (if a2 < 0 then (laws_FnLess.j0 k l0 a1 a2 true) else (if a1 ≥ (l0.length : Int) then (laws_FnLess.j0 k l0 a1 a2 true) else (laws_FnLess.j0 k l0 a1 a2 (decide (a2 ≥ (l0.length : Int))))))) else (laws_FnLess.j0 k l0 a1 a2 true))) else (some true))
theorem laws_FnLess.mono_l : ∀ k, (∀ y0 y1 y2 y3, LeO (laws_FnLess.j0 k y0 y1 y2 y3) (laws_FnLess.j0 (k + 1) y0 y1 y2 y3)) ∧ (∀ y0 y1 y2 y3 y4 y5, LeO (laws_FnLess.j1 k y0 y1 y2 y3 y4 y5) (laws_FnLess.j1 (k + 1) y0 y1 y2 y3 y4 y5))
  | 0 => ⟨fun _ _ _ _ r h => by simp [laws_FnLess.j0] at h, fun _ _ _ _ _ _ r h => by simp [laws_FnLess.j1] at h⟩
  | k + 1 => by
    obtain ⟨ih0, ih1⟩ := laws_FnLess.mono_l k
    refine ⟨?_, ?_⟩
    · intro y0 y1 y2 y3
      unfold laws_FnLess.j0
      repeat' first
      | (with_reducible exact ih0 _ _ _ _)
      | (with_reducible exact ih1 _ _ _ _ _ _)
      | (with_reducible exact laws_fewFaults9.mono _ _)
      | (with_reducible exact laws_zzFits4.mono _ _)
      | (with_reducible exact LeO.refl _)
      | (with_reducible exact LeO.none _)
      | (with_reducible refine LeO.ite ?_ ?_)
      | (with_reducible refine LeO.bind ?_ (fun _ => ?_))
      | exact ih0 _ _ _ _
      | exact ih1 _ _ _ _ _ _
      | exact laws_fewFaults9.mono _ _
      | exact laws_zzFits4.mono _ _
      | exact LeO.none _
      | refine LeO.ite ?_ ?_
      | refine LeO.bind ?_ (fun _ => ?_)
    · intro y0 y1 y2 y3 y4 y5
      unfold laws_FnLess.j1
      repeat' first
      | (with_reducible exact ih0 _ _ _ _)
      | (with_reducible exact ih1 _ _ _ _ _ _)
      | (with_reducible exact laws_fewFaults9.mono _ _)
      | (with_reducible exact laws_zzFits4.mono _ _)
      | (with_reducible exact LeO.refl _)
      | (with_reducible exact LeO.none _)
      | (with_reducible refine LeO.ite ?_ ?_)
      | (with_reducible refine LeO.bind ?_ (fun _ => ?_))
      | exact ih0 _ _ _ _
      | exact ih1 _ _ _ _ _ _
      | exact laws_fewFaults9.mono _ _
      | exact laws_zzFits4.mono _ _
      | exact LeO.none _
      | refine LeO.ite ?_ ?_
      | refine LeO.bind ?_ (fun _ => ?_)
theorem laws_FnLess.mono : ∀ a0 a1 a2 k, LeO (laws_FnLess.f k a0 a1 a2) (laws_FnLess.f (k + 1) a0 a1 a2) := by
  intro a0 a1 a2 k
  obtain ⟨ih0, ih1⟩ := laws_FnLess.mono_l k
  unfold laws_FnLess.f
  repeat' first
      | (with_reducible exact ih0 _ _ _ _)
      | (with_reducible exact ih1 _ _ _ _ _ _)
      | (with_reducible exact laws_fewFaults9.mono _ _)
      | (with_reducible exact laws_zzFits4.mono _ _)
      | (with_reducible exact LeO.refl _)
      | (with_reducible exact LeO.none _)
      | (with_reducible refine LeO.ite ?_ ?_)
      | (with_reducible refine LeO.bind ?_ (fun _ => ?_))
      | exact ih0 _ _ _ _
      | exact ih1 _ _ _ _ _ _
      | exact laws_fewFaults9.mono _ _
      | exact laws_zzFits4.mono _ _
      | exact LeO.none _
      | refine LeO.ite ?_ ?_
      | refine LeO.bind ?_ (fun _ => ?_)
def laws_FnLess.T5 : Bool × List (List Nat × List Nat) := (true, [([], []), ([], []), ([0, 1], [0, 1]), ([2], [2]), ([], []), ([], []), ([4, 5], [4, 5]), ([6], [6]), ([3, 7], [3, 7]), ([], []), ([], []), ([9, 10], [9, 10]), ([11], [11]), ([], []), ([], []), ([13, 14], [13, 14]), ([15], [15]), ([12, 16, 8], [12, 16]), ([8, 17, 0, 1, 2, 3, 4, 5, 6, 7, 8], [8]), ([17, 18, 0, 1, 2, 3, 4, 5, 6, 7, 8, 9, 10, 11, 12, 13, 14, 15, 16, 17, 18], [17])])
def laws_FnLess.B5 : List Nat := [0, 0, 3, 7, 0, 0, 48, 112, 255, 0, 0, 1536, 3584, 0, 0, 24576, 57344, 131071, 262143, 524287]
theorem laws_FnLess.tab5 : rtab .any (opsOf Try.f3 5) = laws_FnLess.T5 := by kernel_rfl
theorem laws_FnLess.bits5 : waitsOk laws_FnLess.T5.2 laws_FnLess.B5 = true := by kernel_rfl
set_option maxHeartbeats 8000000 in
set_option maxRecDepth 100000 in
theorem laws_FnLess.calls (k : Nat) (A0 : Option Addr) (c0 : Nat) (l0 : List (S26)) (a1 : Int) (a2 : Int) (r : Bool) (w : World) (hr0 : Kd.C k26 w A0 l0.length l0) (hc0 : l0.length ≤ c0) (h : laws_FnLess.f k l0 a1 a2 = some r) :
    Calls Try.prog 3 #[.slice A0 l0.length c0, .int .i64 a1, .int .i64 a2] w fun e w' => e = .returned (.bool r) ∧ Below w.heap.size w w' := by
  have hu26 := Try.underlying26
  have HR0 := Aside0.mk hr0
  have HC0 := Aside0.mk hc0
  clear hr0 hc0
  have HB := Aside0.mk (Below.refl w.heap.size w)
  have H : ((laws_zzFits4.f k l0).bind fun t111 => (if t111 = true then ((laws_fewFaults9.f k l0).bind fun t112 => (if t112 = true then (if a1 < 0 then (laws_FnLess.j0 k l0 a1 a2 true) else (if a2 < 0 then (laws_FnLess.j0 k l0 a1 a2 true) else (if a1 ≥ (l0.length : Int) then (laws_FnLess.j0 k l0 a1 a2 true) else (laws_FnLess.j0 k l0 a1 a2 (decide (a2 ≥ (l0.length : Int))))))) else (laws_FnLess.j0 k l0 a1 a2 true))) else (some true))) = some r := h
  clear h
  replace H := Option.bind_eq_some_iff.mp H
  obtain ⟨t111, A40, H⟩ := H
  replace H : (if t111 = true then ((laws_fewFaults9.f k l0).bind fun t112 => (if t112 = true then (if a1 < 0 then (laws_FnLess.j0 k l0 a1 a2 true) else (if a2 < 0 then (laws_FnLess.j0 k l0 a1 a2 true) else (if a1 ≥ (l0.length : Int) then (laws_FnLess.j0 k l0 a1 a2 true) else (laws_FnLess.j0 k l0 a1 a2 (decide (a2 ≥ (l0.length : Int))))))) else (laws_FnLess.j0 k l0 a1 a2 true))) else (some true)) = some r := H
  have A4 := Aside0.mk A40
  clear A40
  by_cases c5 : t111 = true
  · subst c5
    have H1 : ((laws_fewFaults9.f k l0).bind fun t112 => (if t112 = true then (if a1 < 0 then (laws_FnLess.j0 k l0 a1 a2 true) else (if a2 < 0 then (laws_FnLess.j0 k l0 a1 a2 true) else (if a1 ≥ (l0.length : Int) then (laws_FnLess.j0 k l0 a1 a2 true) else (laws_FnLess.j0 k l0 a1 a2 (decide (a2 ≥ (l0.length : Int))))))) else (laws_FnLess.j0 k l0 a1 a2 true))) = some r := by rw [if_pos rfl] at H; exact H
    clear H
    have H := H1
    clear H1
    have HC6 := Aside0.mk H
    clear H
    go_enter Try.func3, Try.ntmps3
    go_upto_region 3 with (first | ((with_reducible refine gate_callee (f := 8) rfl ?_); refine goesL_ (some 10) rfl rfl Try.func8 (by kernel_rfl) rfl #[.slice A0 l0.length c0] rfl (by (try simp only [List.map_toArray, List.map_cons, List.map_nil]); first | done | rfl | (simp only [List.length_drop, List.length_take]; rfl)) ?_; (with_reducible refine (laws_zzFits4.calls k _ _ l0 true _ ?side1 ?side2 A4.out).mono ?_); (case side1 => repeat (first | exact HR0.out | (with_reducible refine Kd.C_alloc ?_ _) | (with_reducible refine Kd.C_drewN ?_ _) | (with_reducible refine Kd.C_drew ?_))); (case side2 => exact HC0.out); rintro e w7 ⟨rfl, hb⟩; refine ⟨_, rfl, ?_⟩; have n0_ := Aside0.mk (below_step (by repeat (first | (with_reducible first | exact HB.out | apply below_alloc | apply pw_below_drewN | apply below_drew1) | exact HB.out)) hb); clear HB; have HB := n0_; clear n0_; (try clear hb); (try clear hb2); (try clear hk); (try clear hi)))
    (try simp only [Act.put, List.setIfInBounds_toArray, List.set_cons_zero, List.set_cons_succ])
    go_cut [34] (fun v34 wc => ∃ (kq : Nat) (x34_5 : Bool), v34 = .bool x34_5 ∧ Aside0 (laws_FnLess.j0 kq l0 a1 a2 x34_5 = some r) ∧ Aside0 (kq ≤ k) ∧ Aside0 (Below w.heap.size w wc))
    case first =>
      have H := HC6.out
      clear HC6
      replace H := Option.bind_eq_some_iff.mp H
      obtain ⟨t112, A80, H⟩ := H
      replace H : (if t112 = true then (if a1 < 0 then (laws_FnLess.j0 k l0 a1 a2 true) else (if a2 < 0 then (laws_FnLess.j0 k l0 a1 a2 true) else (if a1 ≥ (l0.length : Int) then (laws_FnLess.j0 k l0 a1 a2 true) else (laws_FnLess.j0 k l0 a1 a2 (decide (a2 ≥ (l0.length : Int))))))) else (laws_FnLess.j0 k l0 a1 a2 true)) = some r := H
      have A8 := Aside0.mk A80
      clear A80
      by_cases c9 : t112 = true
      · subst c9
        have H1 : (if a1 < 0 then (laws_FnLess.j0 k l0 a1 a2 true) else (if a2 < 0 then (laws_FnLess.j0 k l0 a1 a2 true) else (if a1 ≥ (l0.length : Int) then (laws_FnLess.j0 k l0 a1 a2 true) else (laws_FnLess.j0 k l0 a1 a2 (decide (a2 ≥ (l0.length : Int))))))) = some r := by rw [if_pos rfl] at H; exact H
        clear H
        have H := H1
        clear H1
        by_cases c10 : a1 < 0
        · rw [if_pos c10] at H
          have c10b0 : decide (a1 < 0) = true := decide_eq_true c10
          clear c10
          (first | rw [c10b0] | (simp only [i64_w, i32_w]; rw [c10b0]) | skip)
          have H' := Aside0.mk H
          clear H
          go_wp2_with (first | ((with_reducible refine gate_callee (f := 9) rfl ?_); refine goesL_ (some 13) rfl rfl Try.func9 (by kernel_rfl) rfl #[.slice A0 l0.length c0] rfl (by (try simp only [List.map_toArray, List.map_cons, List.map_nil]); first | done | rfl | (simp only [List.length_drop, List.length_take]; rfl)) ?_; (with_reducible refine (laws_fewFaults9.calls k _ _ l0 true _ ?side1 ?side2 A8.out).mono ?_); (case side1 => repeat (first | exact (Kd.C_below HR0.out HB.out) | (with_reducible refine Kd.C_alloc ?_ _) | (with_reducible refine Kd.C_drewN ?_ _) | (with_reducible refine Kd.C_drew ?_))); (case side2 => exact HC0.out); rintro e w11 ⟨rfl, hb⟩; refine ⟨_, rfl, ?_⟩; have n0_ := Aside0.mk (below_step (by repeat (first | (with_reducible first | exact HB.out | apply below_alloc | apply pw_below_drewN | apply below_drew1) | exact HB.out)) hb); clear HB; have HB := n0_; clear n0_; (try clear hb); (try clear hb2); (try clear hk); (try clear hi)))
          go_meet
          case rel => exact ⟨_, (true), (by first | rfl | (simp; done) | (simp [*]; done)), H', ⟨by first | omega | exact Nat.le_refl _⟩, ⟨by repeat (first | (with_reducible first | exact HB.out | apply below_alloc | apply pw_below_drewN | apply below_drew1) | exact HB.out)⟩⟩
        · rw [if_neg c10] at H
          have c10b0 : decide (a1 < 0) = false := decide_eq_false c10
          clear c10
          (first | rw [c10b0] | (simp only [i64_w, i32_w]; rw [c10b0]) | skip)
          by_cases c12 : a2 < 0
          · rw [if_pos c12] at H
            have c12b0 : decide (a2 < 0) = true := decide_eq_true c12
            clear c12
            have H' := Aside0.mk H
            clear H
            go_wp2_with (first | ((with_reducible refine gate_callee (f := 9) rfl ?_); refine goesL_ (some 13) rfl rfl Try.func9 (by kernel_rfl) rfl #[.slice A0 l0.length c0] rfl (by (try simp only [List.map_toArray, List.map_cons, List.map_nil]); first | done | rfl | (simp only [List.length_drop, List.length_take]; rfl)) ?_; (with_reducible refine (laws_fewFaults9.calls k _ _ l0 true _ ?side1 ?side2 A8.out).mono ?_); (case side1 => repeat (first | exact (Kd.C_below HR0.out HB.out) | (with_reducible refine Kd.C_alloc ?_ _) | (with_reducible refine Kd.C_drewN ?_ _) | (with_reducible refine Kd.C_drew ?_))); (case side2 => exact HC0.out); rintro e w13 ⟨rfl, hb⟩; refine ⟨_, rfl, ?_⟩; have n0_ := Aside0.mk (below_step (by repeat (first | (with_reducible first | exact HB.out | apply below_alloc | apply pw_below_drewN | apply below_drew1) | exact HB.out)) hb); clear HB; have HB := n0_; clear n0_; (try clear hb); (try clear hb2); (try clear hk); (try clear hi)))
            go_meet
            case rel => exact ⟨_, (true), (by first | rfl | (simp; done) | (simp [*]; done)), H', ⟨by first | omega | exact Nat.le_refl _⟩, ⟨by repeat (first | (with_reducible first | exact HB.out | apply below_alloc | apply pw_below_drewN | apply below_drew1) | exact HB.out)⟩⟩
          · rw [if_neg c12] at H
            have c12b0 : decide (a2 < 0) = false := decide_eq_false c12
            clear c12
            by_cases c14 : a1 ≥ (l0.length : Int)
            · rw [if_pos c14] at H
              have c14b0 : decide ((l0.length : Int) ≤ a1) = true := decide_eq_true c14
              clear c14
              have H' := Aside0.mk H
              clear H
              go_wp2_with (first | ((with_reducible refine gate_callee (f := 9) rfl ?_); refine goesL_ (some 13) rfl rfl Try.func9 (by kernel_rfl) rfl #[.slice A0 l0.length c0] rfl (by (try simp only [List.map_toArray, List.map_cons, List.map_nil]); first | done | rfl | (simp only [List.length_drop, List.length_take]; rfl)) ?_; (with_reducible refine (laws_fewFaults9.calls k _ _ l0 true _ ?side1 ?side2 A8.out).mono ?_); (case side1 => repeat (first | exact (Kd.C_below HR0.out HB.out) | (with_reducible refine Kd.C_alloc ?_ _) | (with_reducible refine Kd.C_drewN ?_ _) | (with_reducible refine Kd.C_drew ?_))); (case side2 => exact HC0.out); rintro e w15 ⟨rfl, hb⟩; refine ⟨_, rfl, ?_⟩; have n0_ := Aside0.mk (below_step (by repeat (first | (with_reducible first | exact HB.out | apply below_alloc | apply pw_below_drewN | apply below_drew1) | exact HB.out)) hb); clear HB; have HB := n0_; clear n0_; (try clear hb); (try clear hb2); (try clear hk); (try clear hi)))
              go_meet
              case rel => exact ⟨_, (true), (by first | rfl | (simp; done) | (simp [*]; done)), H', ⟨by first | omega | exact Nat.le_refl _⟩, ⟨by repeat (first | (with_reducible first | exact HB.out | apply below_alloc | apply pw_below_drewN | apply below_drew1) | exact HB.out)⟩⟩
            · rw [if_neg c14] at H
              have c14b0 : decide ((l0.length : Int) ≤ a1) = false := decide_eq_false c14
              clear c14
              have H' := Aside0.mk H
              clear H
              go_wp2_with (first | ((with_reducible refine gate_callee (f := 9) rfl ?_); refine goesL_ (some 13) rfl rfl Try.func9 (by kernel_rfl) rfl #[.slice A0 l0.length c0] rfl (by (try simp only [List.map_toArray, List.map_cons, List.map_nil]); first | done | rfl | (simp only [List.length_drop, List.length_take]; rfl)) ?_; (with_reducible refine (laws_fewFaults9.calls k _ _ l0 true _ ?side1 ?side2 A8.out).mono ?_); (case side1 => repeat (first | exact (Kd.C_below HR0.out HB.out) | (with_reducible refine Kd.C_alloc ?_ _) | (with_reducible refine Kd.C_drewN ?_ _) | (with_reducible refine Kd.C_drew ?_))); (case side2 => exact HC0.out); rintro e w16 ⟨rfl, hb⟩; refine ⟨_, rfl, ?_⟩; have n0_ := Aside0.mk (below_step (by repeat (first | (with_reducible first | exact HB.out | apply below_alloc | apply pw_below_drewN | apply below_drew1) | exact HB.out)) hb); clear HB; have HB := n0_; clear n0_; (try clear hb); (try clear hb2); (try clear hk); (try clear hi)))
              go_meet
              case rel => exact ⟨_, (decide (a2 ≥ (l0.length : Int))), (by first | rfl | (simp; done) | (simp [*]; done)), H', ⟨by first | omega | exact Nat.le_refl _⟩, ⟨by repeat (first | (with_reducible first | exact HB.out | apply below_alloc | apply pw_below_drewN | apply below_drew1) | exact HB.out)⟩⟩
      · replace c9 := Bool.eq_false_iff.mpr c9
        subst c9
        have H1 : (laws_FnLess.j0 k l0 a1 a2 true) = some r := by rw [if_neg (show ¬ (false = true) by decide)] at H; exact H
        clear H
        have H := H1
        clear H1
        have H' := Aside0.mk H
        clear H
        go_wp2_with (first | ((with_reducible refine gate_callee (f := 9) rfl ?_); refine goesL_ (some 13) rfl rfl Try.func9 (by kernel_rfl) rfl #[.slice A0 l0.length c0] rfl (by (try simp only [List.map_toArray, List.map_cons, List.map_nil]); first | done | rfl | (simp only [List.length_drop, List.length_take]; rfl)) ?_; (with_reducible refine (laws_fewFaults9.calls k _ _ l0 false _ ?side1 ?side2 A8.out).mono ?_); (case side1 => repeat (first | exact (Kd.C_below HR0.out HB.out) | (with_reducible refine Kd.C_alloc ?_ _) | (with_reducible refine Kd.C_drewN ?_ _) | (with_reducible refine Kd.C_drew ?_))); (case side2 => exact HC0.out); rintro e w17 ⟨rfl, hb⟩; refine ⟨_, rfl, ?_⟩; have n0_ := Aside0.mk (below_step (by repeat (first | (with_reducible first | exact HB.out | apply below_alloc | apply pw_below_drewN | apply below_drew1) | exact HB.out)) hb); clear HB; have HB := n0_; clear n0_; (try clear hb); (try clear hb2); (try clear hk); (try clear hi)))
        go_meet
        case rel => exact ⟨_, (true), (by first | rfl | (simp; done) | (simp [*]; done)), H', ⟨by first | omega | exact Nat.le_refl _⟩, ⟨by repeat (first | (with_reducible first | exact HB.out | apply below_alloc | apply pw_below_drewN | apply below_drew1) | exact HB.out)⟩⟩
    case rest =>
      clear HC6
      try clear c1
      try clear p2
      try clear c3
      try clear c5
      try clear c8
      try clear c9
      try clear c10
      try clear c10b0
      try clear c12
      try clear c12b0
      try clear c14
      try clear c14b0
      obtain ⟨kq, x34_5, rfl, HA, HJ5, HB⟩ := hcut
      cases kq with
      | zero => exact absurd HA.out (by simp [laws_FnLess.j0])
      | succ kj5 =>
        have H := HA.out
        clear HA
        simp only [laws_FnLess.j0] at H
        by_cases c18 : x34_5 = true
        · subst c18
          have H1 : (some true) = some r := by rw [if_pos rfl] at H; exact H
          clear H
          have H := H1
          clear H1
          obtain rfl := Option.some.inj H
          go_wp2
          go_ret
          exact ⟨by first | rfl | (simp [errW_none, errW_some] <;> rfl) | (simp [*, errW_none, errW_some] <;> rfl), by repeat (first | (with_reducible first | exact HB.out | apply below_alloc | apply pw_below_drewN | apply below_drew1) | exact HB.out)⟩
        · replace c18 := Bool.eq_false_iff.mpr c18
          subst c18
          have H1 : (if 0 ≤ a1 then (if a1 < (l0.length : Int) then (if 0 ≤ a2 then (if a2 < (l0.length : Int) then ((laws_before9.f ((rd_T26 l0 a1).f0) ((rd_T26 l0 a1).f1) ((rd_T26 l0 a1).f2) ((rd_T26 l0 a1).f3) ((rd_T26 l0 a2).f0) ((rd_T26 l0 a2).f1) ((rd_T26 l0 a2).f2) ((rd_T26 l0 a2).f3)).bind fun t115 => ((laws_before9.f ((rd_T26 l0 a2).f0) ((rd_T26 l0 a2).f1) ((rd_T26 l0 a2).f2) ((rd_T26 l0 a2).f3) ((rd_T26 l0 a1).f0) ((rd_T26 l0 a1).f1) ((rd_T26 l0 a1).f2) ((rd_T26 l0 a1).f3)).bind fun t118 => (if t115 = true then (laws_FnLess.j1 kj5 l0 a1 a2 t115 t118 false) else (laws_FnLess.j1 kj5 l0 a1 a2 t115 t118 (!t118))))) else (none)) else (none)) else (none)) else (none)) = some r := by rw [if_neg (show ¬ (false = true) by decide)] at H; exact H
          clear H
          have H := H1
          clear H1
          by_cases c19 : 0 ≤ a1
          · rw [if_pos c19] at H
            have c19b0 : decide (0 ≤ a1) = true := decide_eq_true c19
            clear c19
            by_cases c20 : a1 < (l0.length : Int)
            · rw [if_pos c20] at H
              have c20b0 : decide (a1 < (l0.length : Int)) = true := decide_eq_true c20
              clear c20
              by_cases c21 : 0 ≤ a2
              · rw [if_pos c21] at H
                have c21b0 : decide (0 ≤ a2) = true := decide_eq_true c21
                clear c21
                by_cases c22 : a2 < (l0.length : Int)
                · rw [if_pos c22] at H
                  have c22b0 : decide (a2 < (l0.length : Int)) = true := decide_eq_true c22
                  clear c22
                  replace H := Option.bind_eq_some_iff.mp H
                  obtain ⟨t115, A230, H⟩ := H
                  replace H : ((laws_before9.f ((rd_T26 l0 a2).f0) ((rd_T26 l0 a2).f1) ((rd_T26 l0 a2).f2) ((rd_T26 l0 a2).f3) ((rd_T26 l0 a1).f0) ((rd_T26 l0 a1).f1) ((rd_T26 l0 a1).f2) ((rd_T26 l0 a1).f3)).bind fun t118 => (if t115 = true then (laws_FnLess.j1 kj5 l0 a1 a2 t115 t118 false) else (laws_FnLess.j1 kj5 l0 a1 a2 t115 t118 (!t118)))) = some r := H
                  have A23 := Aside0.mk A230
                  clear A230
                  replace H := Option.bind_eq_some_iff.mp H
                  obtain ⟨t118, A240, H⟩ := H
                  replace H : (if t115 = true then (laws_FnLess.j1 kj5 l0 a1 a2 t115 t118 false) else (laws_FnLess.j1 kj5 l0 a1 a2 t115 t118 (!t118))) = some r := H
                  have A24 := Aside0.mk A240
                  clear A240
                  have HC25 := Aside0.mk H
                  clear H
                  try go_wp2
                  have n0_ := Aside0.mk (below_drew1 HB.out)
                  clear HB
                  have HB := n0_
                  clear n0_
                  have p113 : 0 ≤ (a1 : Int) := of_decide_eq_true (by first | (with_reducible assumption) | assumption)
                  have q113 : a1 < (l0.length : Int) := of_decide_eq_true (by first | (with_reducible assumption) | assumption)
                  obtain ⟨ad113, e113, hx113_0, hx113_1, hx113_2, hx113_3⟩ := at_T26 HR0.out a1 p113 q113
                  have hw113_3 := hx113_3
                  have hw113_2 := hx113_2
                  have hw113_1 := hx113_1
                  have hw113_0 := hx113_0
                  cases e113
                  replace hx113_0 := (HB.out.cell (World.block_lt_of_cell? w _ hx113_0)).trans hx113_0
                  replace hx113_1 := (HB.out.cell (World.block_lt_of_cell? w _ hx113_1)).trans hx113_1
                  replace hx113_2 := (HB.out.cell (World.block_lt_of_cell? w _ hx113_2)).trans hx113_2
                  replace hx113_3 := (HB.out.cell (World.block_lt_of_cell? w _ hx113_3)).trans hx113_3
                  replace p113 := eq_true p113
                  replace q113 := eq_true q113
                  have p114 : 0 ≤ (a2 : Int) := of_decide_eq_true (by first | (with_reducible assumption) | assumption)
                  have q114 : a2 < (l0.length : Int) := of_decide_eq_true (by first | (with_reducible assumption) | assumption)
                  obtain ⟨ad114, e114, hx114_0, hx114_1, hx114_2, hx114_3⟩ := at_T26 HR0.out a2 p114 q114
                  have hw114_3 := hx114_3
                  have hw114_2 := hx114_2
                  have hw114_1 := hx114_1
                  have hw114_0 := hx114_0
                  obtain rfl : ad113 = ad114 := (by injection e114)
                  replace hx114_0 := (HB.out.cell (World.block_lt_of_cell? w _ hx114_0)).trans hx114_0
                  replace hx114_1 := (HB.out.cell (World.block_lt_of_cell? w _ hx114_1)).trans hx114_1
                  replace hx114_2 := (HB.out.cell (World.block_lt_of_cell? w _ hx114_2)).trans hx114_2
                  replace hx114_3 := (HB.out.cell (World.block_lt_of_cell? w _ hx114_3)).trans hx114_3
                  replace p114 := eq_true p114
                  replace q114 := eq_true q114
                  have p116 : 0 ≤ (a2 : Int) := of_decide_eq_true (by first | (with_reducible assumption) | assumption)
                  have q116 : a2 < (l0.length : Int) := of_decide_eq_true (by first | (with_reducible assumption) | assumption)
                  obtain ⟨ad116, e116, hx116_0, hx116_1, hx116_2, hx116_3⟩ := at_T26 HR0.out a2 p116 q116
                  have hw116_3 := hx116_3
                  have hw116_2 := hx116_2
                  have hw116_1 := hx116_1
                  have hw116_0 := hx116_0
                  obtain rfl : ad113 = ad116 := (by injection e116)
                  replace hx116_0 := (HB.out.cell (World.block_lt_of_cell? w _ hx116_0)).trans hx116_0
                  replace hx116_1 := (HB.out.cell (World.block_lt_of_cell? w _ hx116_1)).trans hx116_1
                  replace hx116_2 := (HB.out.cell (World.block_lt_of_cell? w _ hx116_2)).trans hx116_2
                  replace hx116_3 := (HB.out.cell (World.block_lt_of_cell? w _ hx116_3)).trans hx116_3
                  replace p116 := eq_true p116
                  replace q116 := eq_true q116
                  have p117 : 0 ≤ (a1 : Int) := of_decide_eq_true (by first | (with_reducible assumption) | assumption)
                  have q117 : a1 < (l0.length : Int) := of_decide_eq_true (by first | (with_reducible assumption) | assumption)
                  obtain ⟨ad117, e117, hx117_0, hx117_1, hx117_2, hx117_3⟩ := at_T26 HR0.out a1 p117 q117
                  have hw117_3 := hx117_3
                  have hw117_2 := hx117_2
                  have hw117_1 := hx117_1
                  have hw117_0 := hx117_0
                  obtain rfl : ad113 = ad117 := (by injection e117)
                  replace hx117_0 := (HB.out.cell (World.block_lt_of_cell? w _ hx117_0)).trans hx117_0
                  replace hx117_1 := (HB.out.cell (World.block_lt_of_cell? w _ hx117_1)).trans hx117_1
                  replace hx117_2 := (HB.out.cell (World.block_lt_of_cell? w _ hx117_2)).trans hx117_2
                  replace hx117_3 := (HB.out.cell (World.block_lt_of_cell? w _ hx117_3)).trans hx117_3
                  replace p117 := eq_true p117
                  replace q117 := eq_true q117
                  refine start_ (n := 20) (S := fun w' => w'.cell? (ad113.add ((a1).toNat * 4)) = some (.string ((rd_T26 l0 a1).f0)) ∧ w'.cell? ⟨(ad113.add ((a1).toNat * 4)).block, (ad113.add ((a1).toNat * 4)).off + 1, none⟩ = some (.int .i64 ((rd_T26 l0 a1).f1)) ∧ w'.cell? ⟨(ad113.add ((a1).toNat * 4)).block, (ad113.add ((a1).toNat * 4)).off + 2, none⟩ = some (.int .i64 ((rd_T26 l0 a1).f2)) ∧ w'.cell? ⟨(ad113.add ((a1).toNat * 4)).block, (ad113.add ((a1).toNat * 4)).off + 3, none⟩ = some (.string ((rd_T26 l0 a1).f3)) ∧ w'.cell? (ad113.add ((a2).toNat * 4)) = some (.string ((rd_T26 l0 a2).f0)) ∧ w'.cell? ⟨(ad113.add ((a2).toNat * 4)).block, (ad113.add ((a2).toNat * 4)).off + 1, none⟩ = some (.int .i64 ((rd_T26 l0 a2).f1)) ∧ w'.cell? ⟨(ad113.add ((a2).toNat * 4)).block, (ad113.add ((a2).toNat * 4)).off + 2, none⟩ = some (.int .i64 ((rd_T26 l0 a2).f2)) ∧ w'.cell? ⟨(ad113.add ((a2).toNat * 4)).block, (ad113.add ((a2).toNat * 4)).off + 3, none⟩ = some (.string ((rd_T26 l0 a2).f3)) ∧ w'.cell? (ad113.add ((a2).toNat * 4)) = some (.string ((rd_T26 l0 a2).f0)) ∧ w'.cell? ⟨(ad113.add ((a2).toNat * 4)).block, (ad113.add ((a2).toNat * 4)).off + 1, none⟩ = some (.int .i64 ((rd_T26 l0 a2).f1)) ∧ w'.cell? ⟨(ad113.add ((a2).toNat * 4)).block, (ad113.add ((a2).toNat * 4)).off + 2, none⟩ = some (.int .i64 ((rd_T26 l0 a2).f2)) ∧ w'.cell? ⟨(ad113.add ((a2).toNat * 4)).block, (ad113.add ((a2).toNat * 4)).off + 3, none⟩ = some (.string ((rd_T26 l0 a2).f3)) ∧ w'.cell? (ad113.add ((a1).toNat * 4)) = some (.string ((rd_T26 l0 a1).f0)) ∧ w'.cell? ⟨(ad113.add ((a1).toNat * 4)).block, (ad113.add ((a1).toNat * 4)).off + 1, none⟩ = some (.int .i64 ((rd_T26 l0 a1).f1)) ∧ w'.cell? ⟨(ad113.add ((a1).toNat * 4)).block, (ad113.add ((a1).toNat * 4)).off + 2, none⟩ = some (.int .i64 ((rd_T26 l0 a1).f2)) ∧ w'.cell? ⟨(ad113.add ((a1).toNat * 4)).block, (ad113.add ((a1).toNat * 4)).off + 3, none⟩ = some (.string ((rd_T26 l0 a1).f3))) (ds := []) #[false, false, false, false, false, false, false, false, false, false, false, false, false, false, false, false, false, false, false, false] (by kernel_rfl) rfl rfl ⟨((HB.out.cell (World.block_lt_of_cell? w _ hw113_0)).trans hw113_0), ((HB.out.cell (World.block_lt_of_cell? w _ hw113_1)).trans hw113_1), ((HB.out.cell (World.block_lt_of_cell? w _ hw113_2)).trans hw113_2), ((HB.out.cell (World.block_lt_of_cell? w _ hw113_3)).trans hw113_3), ((HB.out.cell (World.block_lt_of_cell? w _ hw114_0)).trans hw114_0), ((HB.out.cell (World.block_lt_of_cell? w _ hw114_1)).trans hw114_1), ((HB.out.cell (World.block_lt_of_cell? w _ hw114_2)).trans hw114_2), ((HB.out.cell (World.block_lt_of_cell? w _ hw114_3)).trans hw114_3), ((HB.out.cell (World.block_lt_of_cell? w _ hw116_0)).trans hw116_0), ((HB.out.cell (World.block_lt_of_cell? w _ hw116_1)).trans hw116_1), ((HB.out.cell (World.block_lt_of_cell? w _ hw116_2)).trans hw116_2), ((HB.out.cell (World.block_lt_of_cell? w _ hw116_3)).trans hw116_3), ((HB.out.cell (World.block_lt_of_cell? w _ hw117_0)).trans hw117_0), ((HB.out.cell (World.block_lt_of_cell? w _ hw117_1)).trans hw117_1), ((HB.out.cell (World.block_lt_of_cell? w _ hw117_2)).trans hw117_2), ((HB.out.cell (World.block_lt_of_cell? w _ hw117_3)).trans hw117_3)⟩ (fun hHeld => ?_); refine with_tabW laws_FnLess.tab5 laws_FnLess.bits5 (fun HT_ HW_ => ?_)
                  generalize wc.drew = w26 at HB hx113_0 hx113_1 hx113_2 hx113_3 hx114_0 hx114_1 hx114_2 hx114_3 hx116_0 hx116_1 hx116_2 hx116_3 hx117_0 hx117_1 hx117_2 hx117_3 hHeld ⊢
                  refine pure_ (i := 0) (N := some 35) (v := ?_) (a' := ?_) #[true, false, false, false, false, false, false, false, false, false, false, false, false, false, false, false, false, false, false, false] rfl rfl (any_of HT_.out (by kernel_rfl)) (fun _ _ _ h => h) (Or.inl ⟨by rfl, ?_⟩) ?_ ?_
                  rotate_left
                  · intro w'
                    go_simp
                    with_reducible rfl
                  rotate_left
                  · simp only [Act.put, List.setIfInBounds_toArray, List.set_cons_zero, List.set_cons_succ, i64_w, i32_w]
                    rfl
                  refine pure_ (i := 1) (N := some 36) (v := ?_) (a' := ?_) #[true, true, false, false, false, false, false, false, false, false, false, false, false, false, false, false, false, false, false, false] rfl rfl (any_of HT_.out (by kernel_rfl)) (fun _ _ _ h => h) (Or.inl ⟨by rfl, ?_⟩) ?_ ?_
                  rotate_left
                  · intro w'
                    go_simp
                    with_reducible rfl
                  rotate_left
                  · simp only [Act.put, List.setIfInBounds_toArray, List.set_cons_zero, List.set_cons_succ, i64_w, i32_w]
                    rfl
                  refine pure_ (i := 2) (N := some 37) (v := ?_) (a' := ?_) #[true, true, true, false, false, false, false, false, false, false, false, false, false, false, false, false, false, false, false, false] rfl rfl (any_of HT_.out (by kernel_rfl)) (fun _ _ _ h => h) (Or.inl ⟨by rfl, ?_⟩) ?_ ?_
                  rotate_left
                  · intro w'
                    go_simp
                    with_reducible rfl
                  rotate_left
                  · simp only [Act.put, List.setIfInBounds_toArray, List.set_cons_zero, List.set_cons_succ, i64_w, i32_w]
                    rfl
                  refine pure_ (i := 4) (N := some 39) (v := ?_) (a' := ?_) #[true, true, true, false, true, false, false, false, false, false, false, false, false, false, false, false, false, false, false, false] rfl rfl (any_of HT_.out (by kernel_rfl)) (fun _ _ _ h => h) (Or.inl ⟨by rfl, ?_⟩) ?_ ?_
                  rotate_left
                  · intro w'
                    go_simp
                    with_reducible rfl
                  rotate_left
                  · simp only [Act.put, List.setIfInBounds_toArray, List.set_cons_zero, List.set_cons_succ, i64_w, i32_w]
                    rfl
                  refine pure_ (i := 5) (N := some 40) (v := ?_) (a' := ?_) #[true, true, true, false, true, true, false, false, false, false, false, false, false, false, false, false, false, false, false, false] rfl rfl (any_of HT_.out (by kernel_rfl)) (fun _ _ _ h => h) (Or.inl ⟨by rfl, ?_⟩) ?_ ?_
                  rotate_left
                  · intro w'
                    go_simp
                    with_reducible rfl
                  rotate_left
                  · simp only [Act.put, List.setIfInBounds_toArray, List.set_cons_zero, List.set_cons_succ, i64_w, i32_w]
                    rfl
                  refine pure_ (i := 6) (N := some 41) (v := ?_) (a' := ?_) #[true, true, true, false, true, true, true, false, false, false, false, false, false, false, false, false, false, false, false, false] rfl rfl (any_of HT_.out (by kernel_rfl)) (fun _ _ _ h => h) (Or.inl ⟨by rfl, ?_⟩) ?_ ?_
                  rotate_left
                  · intro w'
                    go_simp
                    with_reducible rfl
                  rotate_left
                  · simp only [Act.put, List.setIfInBounds_toArray, List.set_cons_zero, List.set_cons_succ, i64_w, i32_w]
                    rfl
                  refine pure_ (i := 9) (N := some 44) (v := ?_) (a' := ?_) #[true, true, true, false, true, true, true, false, false, true, false, false, false, false, false, false, false, false, false, false] rfl rfl (any_of HT_.out (by kernel_rfl)) (fun _ _ _ h => h) (Or.inl ⟨by rfl, ?_⟩) ?_ ?_
                  rotate_left
                  · intro w'
                    go_simp
                    with_reducible rfl
                  rotate_left
                  · simp only [Act.put, List.setIfInBounds_toArray, List.set_cons_zero, List.set_cons_succ, i64_w, i32_w]
                    rfl
                  refine pure_ (i := 10) (N := some 45) (v := ?_) (a' := ?_) #[true, true, true, false, true, true, true, false, false, true, true, false, false, false, false, false, false, false, false, false] rfl rfl (any_of HT_.out (by kernel_rfl)) (fun _ _ _ h => h) (Or.inl ⟨by rfl, ?_⟩) ?_ ?_
                  rotate_left
                  · intro w'
                    go_simp
                    with_reducible rfl
                  rotate_left
                  · simp only [Act.put, List.setIfInBounds_toArray, List.set_cons_zero, List.set_cons_succ, i64_w, i32_w]
                    rfl
                  refine pure_ (i := 11) (N := some 46) (v := ?_) (a' := ?_) #[true, true, true, false, true, true, true, false, false, true, true, true, false, false, false, false, false, false, false, false] rfl rfl (any_of HT_.out (by kernel_rfl)) (fun _ _ _ h => h) (Or.inl ⟨by rfl, ?_⟩) ?_ ?_
                  rotate_left
                  · intro w'
                    go_simp
                    with_reducible rfl
                  rotate_left
                  · simp only [Act.put, List.setIfInBounds_toArray, List.set_cons_zero, List.set_cons_succ, i64_w, i32_w]
                    rfl
                  refine pure_ (i := 13) (N := some 48) (v := ?_) (a' := ?_) #[true, true, true, false, true, true, true, false, false, true, true, true, false, true, false, false, false, false, false, false] rfl rfl (any_of HT_.out (by kernel_rfl)) (fun _ _ _ h => h) (Or.inl ⟨by rfl, ?_⟩) ?_ ?_
                  rotate_left
                  · intro w'
                    go_simp
                    with_reducible rfl
                  rotate_left
                  · simp only [Act.put, List.setIfInBounds_toArray, List.set_cons_zero, List.set_cons_succ, i64_w, i32_w]
                    rfl
                  refine pure_ (i := 14) (N := some 49) (v := ?_) (a' := ?_) #[true, true, true, false, true, true, true, false, false, true, true, true, false, true, true, false, false, false, false, false] rfl rfl (any_of HT_.out (by kernel_rfl)) (fun _ _ _ h => h) (Or.inl ⟨by rfl, ?_⟩) ?_ ?_
                  rotate_left
                  · intro w'
                    go_simp
                    with_reducible rfl
                  rotate_left
                  · simp only [Act.put, List.setIfInBounds_toArray, List.set_cons_zero, List.set_cons_succ, i64_w, i32_w]
                    rfl
                  refine pure_ (i := 15) (N := some 50) (v := ?_) (a' := ?_) #[true, true, true, false, true, true, true, false, false, true, true, true, false, true, true, true, false, false, false, false] rfl rfl (any_of HT_.out (by kernel_rfl)) (fun _ _ _ h => h) (Or.inl ⟨by rfl, ?_⟩) ?_ ?_
                  rotate_left
                  · intro w'
                    go_simp
                    with_reducible rfl
                  rotate_left
                  · simp only [Act.put, List.setIfInBounds_toArray, List.set_cons_zero, List.set_cons_succ, i64_w, i32_w]
                    rfl
                  refine take_ (i := 3) (N := some 38) (v := ?_) (a' := ?_) #[true, true, true, true, true, true, true, false, false, true, true, true, false, true, true, true, false, false, false, false] rfl rfl (take_ofW HT_.out HW_.out (by kernel_rfl)) (fun _ _ _ h => h) (Or.inl ⟨by rfl, ?_⟩) hHeld ?_ ?_
                  rotate_left
                  · rintro w' ⟨s0, s1, s2, s3, s4, s5, s6, s7, s8, s9, s10, s11, s12, s13, s14, s15⟩
                    go_simp
                    with_reducible rfl
                  rotate_left
                  · simp only [Act.put, List.setIfInBounds_toArray, List.set_cons_zero, List.set_cons_succ, i64_w, i32_w]
                    rfl
                  refine take_ (i := 7) (N := some 42) (v := ?_) (a' := ?_) #[true, true, true, true, true, true, true, true, false, true, true, true, false, true, true, true, false, false, false, false] rfl rfl (take_ofW HT_.out HW_.out (by kernel_rfl)) (fun _ _ _ h => h) (Or.inl ⟨by rfl, ?_⟩) hHeld ?_ ?_
                  rotate_left
                  · rintro w' ⟨s0, s1, s2, s3, s4, s5, s6, s7, s8, s9, s10, s11, s12, s13, s14, s15⟩
                    go_simp
                    with_reducible rfl
                  rotate_left
                  · simp only [Act.put, List.setIfInBounds_toArray, List.set_cons_zero, List.set_cons_succ, i64_w, i32_w]
                    rfl
                  refine take_ (i := 12) (N := some 47) (v := ?_) (a' := ?_) #[true, true, true, true, true, true, true, true, false, true, true, true, true, true, true, true, false, false, false, false] rfl rfl (take_ofW HT_.out HW_.out (by kernel_rfl)) (fun _ _ _ h => h) (Or.inl ⟨by rfl, ?_⟩) hHeld ?_ ?_
                  rotate_left
                  · rintro w' ⟨s0, s1, s2, s3, s4, s5, s6, s7, s8, s9, s10, s11, s12, s13, s14, s15⟩
                    go_simp
                    with_reducible rfl
                  rotate_left
                  · simp only [Act.put, List.setIfInBounds_toArray, List.set_cons_zero, List.set_cons_succ, i64_w, i32_w]
                    rfl
                  refine take_ (i := 16) (N := some 51) (v := ?_) (a' := ?_) #[true, true, true, true, true, true, true, true, false, true, true, true, true, true, true, true, true, false, false, false] rfl rfl (take_ofW HT_.out HW_.out (by kernel_rfl)) (fun _ _ _ h => h) (Or.inl ⟨by rfl, ?_⟩) hHeld ?_ ?_
                  rotate_left
                  · rintro w' ⟨s0, s1, s2, s3, s4, s5, s6, s7, s8, s9, s10, s11, s12, s13, s14, s15⟩
                    go_simp
                    with_reducible rfl
                  rotate_left
                  · simp only [Act.put, List.setIfInBounds_toArray, List.set_cons_zero, List.set_cons_succ, i64_w, i32_w]
                    rfl
                  refine one_ (i := 8) (N := some 43) #[true, true, true, true, true, true, true, true, true, true, true, true, true, true, true, true, true, false, false, false] rfl rfl (one_of HT_.out (by kernel_rfl)) (by decide) (fun K hK => ?_)
                  refine goes_ Try.func10 (by kernel_rfl) rfl #[.agg #[.string ((rd_T26 l0 a1).f0), .int .i64 ((rd_T26 l0 a1).f1), .int .i64 ((rd_T26 l0 a1).f2), .string ((rd_T26 l0 a1).f3)], .agg #[.string ((rd_T26 l0 a2).f0), .int .i64 ((rd_T26 l0 a2).f1), .int .i64 ((rd_T26 l0 a2).f2), .string ((rd_T26 l0 a2).f3)]] (by rfl) rfl rfl (by (try simp only [List.map_toArray, List.map_cons, List.map_nil]); first | done | rfl | (simp only [List.length_drop, List.length_take]; rfl)) ?_
                  with_reducible refine (laws_before9.calls ((rd_T26 l0 a1).f0) ((rd_T26 l0 a1).f1) ((rd_T26 l0 a1).f2) ((rd_T26 l0 a1).f3) ((rd_T26 l0 a2).f0) ((rd_T26 l0 a2).f1) ((rd_T26 l0 a2).f2) ((rd_T26 l0 a2).f3) t115 _ A23.out).mono ?_
                  rintro e w27 ⟨rfl, hb⟩
                  refine ⟨_, rfl, ?_⟩
                  have n0_ := Aside0.mk (below_step (by repeat (first | (with_reducible first | exact HB.out | apply below_alloc | apply pw_below_drewN | apply below_drew1) | exact HB.out)) hb)
                  clear HB
                  have HB := n0_
                  clear n0_
                  (try clear hb)
                  (try clear hb2)
                  (try clear hk)
                  (try clear hi)
                  refine hK.out _ _ ⟨((HB.out.cell (World.block_lt_of_cell? w _ hw113_0)).trans hw113_0), ((HB.out.cell (World.block_lt_of_cell? w _ hw113_1)).trans hw113_1), ((HB.out.cell (World.block_lt_of_cell? w _ hw113_2)).trans hw113_2), ((HB.out.cell (World.block_lt_of_cell? w _ hw113_3)).trans hw113_3), ((HB.out.cell (World.block_lt_of_cell? w _ hw114_0)).trans hw114_0), ((HB.out.cell (World.block_lt_of_cell? w _ hw114_1)).trans hw114_1), ((HB.out.cell (World.block_lt_of_cell? w _ hw114_2)).trans hw114_2), ((HB.out.cell (World.block_lt_of_cell? w _ hw114_3)).trans hw114_3), ((HB.out.cell (World.block_lt_of_cell? w _ hw116_0)).trans hw116_0), ((HB.out.cell (World.block_lt_of_cell? w _ hw116_1)).trans hw116_1), ((HB.out.cell (World.block_lt_of_cell? w _ hw116_2)).trans hw116_2), ((HB.out.cell (World.block_lt_of_cell? w _ hw116_3)).trans hw116_3), ((HB.out.cell (World.block_lt_of_cell? w _ hw117_0)).trans hw117_0), ((HB.out.cell (World.block_lt_of_cell? w _ hw117_1)).trans hw117_1), ((HB.out.cell (World.block_lt_of_cell? w _ hw117_2)).trans hw117_2), ((HB.out.cell (World.block_lt_of_cell? w _ hw117_3)).trans hw117_3)⟩ (fun hHeld => ?_)
                  clear hK K
                  refine norm_ (a' := ?_) ?_ ?_
                  rotate_left
                  · show Act.put _ (some 43) _ = _
                    simp only [Act.put, List.setIfInBounds_toArray, List.set_cons_zero, List.set_cons_succ, i64_w, i32_w]
                    rfl
                  refine one_ (i := 17) (N := some 52) #[true, true, true, true, true, true, true, true, true, true, true, true, true, true, true, true, true, true, false, false] rfl rfl (one_of HT_.out (by kernel_rfl)) (by decide) (fun K hK => ?_)
                  refine goes_ Try.func10 (by kernel_rfl) rfl #[.agg #[.string ((rd_T26 l0 a2).f0), .int .i64 ((rd_T26 l0 a2).f1), .int .i64 ((rd_T26 l0 a2).f2), .string ((rd_T26 l0 a2).f3)], .agg #[.string ((rd_T26 l0 a1).f0), .int .i64 ((rd_T26 l0 a1).f1), .int .i64 ((rd_T26 l0 a1).f2), .string ((rd_T26 l0 a1).f3)]] (by rfl) rfl rfl (by (try simp only [List.map_toArray, List.map_cons, List.map_nil]); first | done | rfl | (simp only [List.length_drop, List.length_take]; rfl)) ?_
                  with_reducible refine (laws_before9.calls ((rd_T26 l0 a2).f0) ((rd_T26 l0 a2).f1) ((rd_T26 l0 a2).f2) ((rd_T26 l0 a2).f3) ((rd_T26 l0 a1).f0) ((rd_T26 l0 a1).f1) ((rd_T26 l0 a1).f2) ((rd_T26 l0 a1).f3) t118 _ A24.out).mono ?_
                  rintro e w28 ⟨rfl, hb⟩
                  refine ⟨_, rfl, ?_⟩
                  have n0_ := Aside0.mk (below_step (by repeat (first | (with_reducible first | exact HB.out | apply below_alloc | apply pw_below_drewN | apply below_drew1) | exact HB.out)) hb)
                  clear HB
                  have HB := n0_
                  clear n0_
                  (try clear hb)
                  (try clear hb2)
                  (try clear hk)
                  (try clear hi)
                  refine hK.out _ _ ⟨((HB.out.cell (World.block_lt_of_cell? w _ hw113_0)).trans hw113_0), ((HB.out.cell (World.block_lt_of_cell? w _ hw113_1)).trans hw113_1), ((HB.out.cell (World.block_lt_of_cell? w _ hw113_2)).trans hw113_2), ((HB.out.cell (World.block_lt_of_cell? w _ hw113_3)).trans hw113_3), ((HB.out.cell (World.block_lt_of_cell? w _ hw114_0)).trans hw114_0), ((HB.out.cell (World.block_lt_of_cell? w _ hw114_1)).trans hw114_1), ((HB.out.cell (World.block_lt_of_cell? w _ hw114_2)).trans hw114_2), ((HB.out.cell (World.block_lt_of_cell? w _ hw114_3)).trans hw114_3), ((HB.out.cell (World.block_lt_of_cell? w _ hw116_0)).trans hw116_0), ((HB.out.cell (World.block_lt_of_cell? w _ hw116_1)).trans hw116_1), ((HB.out.cell (World.block_lt_of_cell? w _ hw116_2)).trans hw116_2), ((HB.out.cell (World.block_lt_of_cell? w _ hw116_3)).trans hw116_3), ((HB.out.cell (World.block_lt_of_cell? w _ hw117_0)).trans hw117_0), ((HB.out.cell (World.block_lt_of_cell? w _ hw117_1)).trans hw117_1), ((HB.out.cell (World.block_lt_of_cell? w _ hw117_2)).trans hw117_2), ((HB.out.cell (World.block_lt_of_cell? w _ hw117_3)).trans hw117_3)⟩ (fun hHeld => ?_)
                  clear hK K
                  refine norm_ (a' := ?_) ?_ ?_
                  rotate_left
                  · show Act.put _ (some 52) _ = _
                    simp only [Act.put, List.setIfInBounds_toArray, List.set_cons_zero, List.set_cons_succ, i64_w, i32_w]
                    rfl
                  refine pure_ (i := 18) (N := some 7) (v := ?_) (a' := ?_) #[true, true, true, true, true, true, true, true, true, true, true, true, true, true, true, true, true, true, true, false] rfl rfl (any_of HT_.out (by kernel_rfl)) (fun _ _ _ h => h) (Or.inl ⟨by rfl, ?_⟩) ?_ ?_
                  rotate_left
                  · intro w'
                    go_simp
                    with_reducible rfl
                  rotate_left
                  · simp only [Act.put, List.setIfInBounds_toArray, List.set_cons_zero, List.set_cons_succ, i64_w, i32_w]
                    rfl
                  refine pure_ (i := 19) (N := some 8) (v := ?_) (a' := ?_) #[true, true, true, true, true, true, true, true, true, true, true, true, true, true, true, true, true, true, true, true] rfl rfl (any_of HT_.out (by kernel_rfl)) (fun _ _ _ h => h) (Or.inl ⟨by rfl, ?_⟩) ?_ ?_
                  rotate_left
                  · intro w'
                    go_simp
                    with_reducible rfl
                  rotate_left
                  · simp only [Act.put, List.setIfInBounds_toArray, List.set_cons_zero, List.set_cons_succ, i64_w, i32_w]
                    rfl
                  refine done_ (done_of HT_.out (by kernel_rfl)) ?_
                  go_upto_region 6 with (fail)
                  go_cut [58] (fun v58 wc => ∃ (kq : Nat) (x58_24 : Bool), v58 = .bool x58_24 ∧ Aside0 (laws_FnLess.j1 kq l0 a1 a2 t115 t118 x58_24 = some r) ∧ Aside0 (kq ≤ kj5) ∧ Aside0 (Below w.heap.size w wc))
                  case first =>
                    have H := HC25.out
                    clear HC25
                    by_cases c29 : t115 = true
                    · subst c29
                      have H1 : (laws_FnLess.j1 kj5 l0 a1 a2 true t118 false) = some r := by rw [if_pos rfl] at H; exact H
                      clear H
                      have H := H1
                      clear H1
                      have H' := Aside0.mk H
                      clear H
                      go_wp2
                      go_meet
                      case rel => exact ⟨_, (false), (by first | rfl | (simp; done) | (simp [*]; done)), H', ⟨by have := HJ5.out; first | omega | exact Nat.le_refl _⟩, ⟨by repeat (first | (with_reducible first | exact HB.out | apply below_alloc | apply pw_below_drewN | apply below_drew1) | exact HB.out)⟩⟩
                    · replace c29 := Bool.eq_false_iff.mpr c29
                      subst c29
                      have H1 : (laws_FnLess.j1 kj5 l0 a1 a2 false t118 (!t118)) = some r := by rw [if_neg (show ¬ (false = true) by decide)] at H; exact H
                      clear H
                      have H := H1
                      clear H1
                      have H' := Aside0.mk H
                      clear H
                      go_wp2
                      go_meet
                      case rel => exact ⟨_, (!t118), (by first | rfl | (simp; done) | (simp [*]; done)), H', ⟨by have := HJ5.out; first | omega | exact Nat.le_refl _⟩, ⟨by repeat (first | (with_reducible first | exact HB.out | apply below_alloc | apply pw_below_drewN | apply below_drew1) | exact HB.out)⟩⟩
                  case rest =>
                    clear HC25
                    try clear c1
                    try clear p1
                    try clear q1
                    try clear hx1
                    try clear c2
                    try clear p2
                    try clear c3
                    try clear c5
                    try clear c8
                    try clear c9
                    try clear c10
                    try clear c10b0
                    try clear p11
                    try clear q11
                    try clear hx11
                    try clear c12
                    try clear c12b0
                    try clear c14
                    try clear c14b0
                    try clear c18
                    try clear c19
                    try clear c19b0
                    try clear c20
                    try clear c20b0
                    try clear c21
                    try clear c21b0
                    try clear c22
                    try clear c22b0
                    try clear c29
                    try clear hx113_0
                    try clear hx113_1
                    try clear hx113_2
                    try clear hx113_3
                    try clear hx114_0
                    try clear hx114_1
                    try clear hx114_2
                    try clear hx114_3
                    try clear hx116_0
                    try clear hx116_1
                    try clear hx116_2
                    try clear hx116_3
                    try clear hx117_0
                    try clear hx117_1
                    try clear hx117_2
                    try clear hx117_3
                    try clear p113
                    try clear p114
                    try clear p116
                    try clear p117
                    try clear p2
                    try clear q113
                    try clear q114
                    try clear q116
                    try clear q117
                    obtain ⟨kq, x58_24, rfl, HA, HJ24, HB⟩ := hcut
                    cases kq with
                    | zero => exact absurd HA.out (by simp [laws_FnLess.j1])
                    | succ kj24 =>
                      have H := HA.out
                      clear HA
                      simp only [laws_FnLess.j1] at H
                      by_cases c30 : x58_24 = true
                      · subst c30
                        have H1 : (some true) = some r := by rw [if_pos rfl] at H; exact H
                        clear H
                        have H := H1
                        clear H1
                        obtain rfl := Option.some.inj H
                        go_wp2
                        go_ret
                        exact ⟨by first | rfl | (simp [errW_none, errW_some] <;> rfl) | (simp [*, errW_none, errW_some] <;> rfl), by repeat (first | (with_reducible first | exact HB.out | apply below_alloc | apply pw_below_drewN | apply below_drew1) | exact HB.out)⟩
                      · replace c30 := Bool.eq_false_iff.mpr c30
                        subst c30
                        have H1 : ((impl_IsLess.f l0 a1 a2 false).bind fun t119 => (if (t119 == t115) = true then ((impl_IsLess.f l0 a1 a2 true).bind fun t120 => (some (t120 == t118))) else (some false))) = some r := by rw [if_neg (show ¬ (false = true) by decide)] at H; exact H
                        clear H
                        have H := H1
                        clear H1
                        replace H := Option.bind_eq_some_iff.mp H
                        obtain ⟨t119, A310, H⟩ := H
                        replace H : (if (t119 == t115) = true then ((impl_IsLess.f l0 a1 a2 true).bind fun t120 => (some (t120 == t118))) else (some false)) = some r := H
                        have A31 := Aside0.mk A310
                        clear A310
                        by_cases c32 : (t119 == t115) = true
                        · rw [if_pos c32] at H
                          have c32b0 : (t119 == t115) = true := c32
                          (try (have c32b1 : decide (t119 = t115) = true := by simpa using c32))
                          (try (have c32b2 : (t119 == t115) = true := by simpa using c32))
                          clear c32
                          replace H := Option.bind_eq_some_iff.mp H
                          obtain ⟨t120, A330, H⟩ := H
                          replace H : (some (t120 == t118)) = some r := H
                          have A33 := Aside0.mk A330
                          clear A330
                          obtain rfl := Option.some.inj H
                          go_wp2_with (first | ((with_reducible refine gate_callee (f := 11) rfl ?_); refine goesL_ (some 62) rfl rfl Try.func11 (by kernel_rfl) rfl #[.slice (some ad113) l0.length c0, .int .i64 a1, .int .i64 a2, .bool false] rfl (by (try simp only [List.map_toArray, List.map_cons, List.map_nil]); first | done | rfl | (simp only [List.length_drop, List.length_take]; rfl)) ?_; (with_reducible refine (impl_IsLess.calls _ _ l0 a1 a2 false t119 _ ?side1 ?side2 A31.out).mono ?_); (case side1 => repeat (first | exact (Kd.C_below HR0.out HB.out) | (with_reducible refine Kd.C_alloc ?_ _) | (with_reducible refine Kd.C_drewN ?_ _) | (with_reducible refine Kd.C_drew ?_))); (case side2 => exact HC0.out); rintro e w34 ⟨rfl, hb⟩; refine ⟨_, rfl, ?_⟩; have n0_ := Aside0.mk (below_step (by repeat (first | (with_reducible first | exact HB.out | apply below_alloc | apply pw_below_drewN | apply below_drew1) | exact HB.out)) hb); clear HB; have HB := n0_; clear n0_; (try clear hb); (try clear hb2); (try clear hk); (try clear hi)) | (go_at_call 11; (with_reducible refine (impl_IsLess.calls _ _ l0 a1 a2 true t120 _ ?side1 ?side2 A33.out).mono ?_); (case side1 => repeat (first | exact (Kd.C_below HR0.out HB.out) | (with_reducible refine Kd.C_alloc ?_ _) | (with_reducible refine Kd.C_drewN ?_ _) | (with_reducible refine Kd.C_drew ?_))); (case side2 => exact HC0.out); rintro e w35 ⟨rfl, hb⟩; have n0_ := Aside0.mk (below_step (by repeat (first | (with_reducible first | exact HB.out | apply below_alloc | apply pw_below_drewN | apply below_drew1) | exact HB.out)) hb); clear HB; have HB := n0_; clear n0_; (try clear hb); (try clear hb2); (try clear hk); (try clear hi)))
                          go_ret
                          exact ⟨by first | rfl | (simp [errW_none, errW_some] <;> rfl) | (simp [*, errW_none, errW_some] <;> rfl), by repeat (first | (with_reducible first | exact HB.out | apply below_alloc | apply pw_below_drewN | apply below_drew1) | exact HB.out)⟩
                        · rw [if_neg c32] at H
                          have c32b0 : (t119 == t115) = false := by simpa using c32
                          (try (have c32b1 : decide (t119 = t115) = false := by simpa using c32))
                          (try (have c32b2 : (t119 == t115) = false := by simpa using c32))
                          (try (have c32b3 : ¬ (t119 = t115) := by simpa using c32))
                          clear c32
                          obtain rfl := Option.some.inj H
                          go_wp2_with (first | ((with_reducible refine gate_callee (f := 11) rfl ?_); refine goesL_ (some 62) rfl rfl Try.func11 (by kernel_rfl) rfl #[.slice (some ad113) l0.length c0, .int .i64 a1, .int .i64 a2, .bool false] rfl (by (try simp only [List.map_toArray, List.map_cons, List.map_nil]); first | done | rfl | (simp only [List.length_drop, List.length_take]; rfl)) ?_; (with_reducible refine (impl_IsLess.calls _ _ l0 a1 a2 false t119 _ ?side1 ?side2 A31.out).mono ?_); (case side1 => repeat (first | exact (Kd.C_below HR0.out HB.out) | (with_reducible refine Kd.C_alloc ?_ _) | (with_reducible refine Kd.C_drewN ?_ _) | (with_reducible refine Kd.C_drew ?_))); (case side2 => exact HC0.out); rintro e w36 ⟨rfl, hb⟩; refine ⟨_, rfl, ?_⟩; have n0_ := Aside0.mk (below_step (by repeat (first | (with_reducible first | exact HB.out | apply below_alloc | apply pw_below_drewN | apply below_drew1) | exact HB.out)) hb); clear HB; have HB := n0_; clear n0_; (try clear hb); (try clear hb2); (try clear hk); (try clear hi)))
                          go_ret
                          exact ⟨by first | rfl | (simp [errW_none, errW_some] <;> rfl) | (simp [*, errW_none, errW_some] <;> rfl), by repeat (first | (with_reducible first | exact HB.out | apply below_alloc | apply pw_below_drewN | apply below_drew1) | exact HB.out)⟩
                · rw [if_neg c22] at H
                  exact absurd H (by simp)
              · rw [if_neg c21] at H
                exact absurd H (by simp)
            · rw [if_neg c20] at H
              exact absurd H (by simp)
          · rw [if_neg c19] at H
            exact absurd H (by simp)
  · replace c5 := Bool.eq_false_iff.mpr c5
    subst c5
    have H1 : (some true) = some r := by rw [if_neg (show ¬ (false = true) by decide)] at H; exact H
    clear H
    have H := H1
    clear H1
    obtain rfl := Option.some.inj H
    go_enter Try.func3, Try.ntmps3
    go_wp2_with (first | ((with_reducible refine gate_callee (f := 8) rfl ?_); refine goesL_ (some 10) rfl rfl Try.func8 (by kernel_rfl) rfl #[.slice A0 l0.length c0] rfl (by (try simp only [List.map_toArray, List.map_cons, List.map_nil]); first | done | rfl | (simp only [List.length_drop, List.length_take]; rfl)) ?_; (with_reducible refine (laws_zzFits4.calls k _ _ l0 false _ ?side1 ?side2 A4.out).mono ?_); (case side1 => repeat (first | exact HR0.out | (with_reducible refine Kd.C_alloc ?_ _) | (with_reducible refine Kd.C_drewN ?_ _) | (with_reducible refine Kd.C_drew ?_))); (case side2 => exact HC0.out); rintro e w37 ⟨rfl, hb⟩; refine ⟨_, rfl, ?_⟩; have n0_ := Aside0.mk (below_step (by repeat (first | (with_reducible first | exact HB.out | apply below_alloc | apply pw_below_drewN | apply below_drew1) | exact HB.out)) hb); clear HB; have HB := n0_; clear n0_; (try clear hb); (try clear hb2); (try clear hk); (try clear hi)))
    go_ret
    exact ⟨by first | rfl | (simp [errW_none, errW_some] <;> rfl) | (simp [*, errW_none, errW_some] <;> rfl), by repeat (first | (with_reducible first | exact HB.out | apply below_alloc | apply pw_below_drewN | apply below_drew1) | exact HB.out)⟩

-- NOT PRINTED: function 25 (impl_faultsOf)

-- NOT PRINTED: function 26 (goprinter_go_scanner_ErrorList_Len)

-- GIVEN: function 12 (impl_Added)

-- NOT PRINTED: function 27 (goprinter_go_scanner_ErrorList_Reset)

-- GIVEN: function 13 (impl_Cleared)

/-! ### laws_sameFaults9: function 14 -/
def laws_sameFaults9.l0 : Nat → List (S26) → List (S26) → Int → Int → Option (Bool)
  | 0, _, _, _, _ => none
  | k + 1, x1, x12, x13, x14 => if x14 < x13 then (if 0 ≤ x14 then (if x14 < (x12.length : Int) then (if x14 < (x1.length : Int) then (if (!((((rd_T26 x12 x14).f0).toList) == (((rd_T26 x1 x14).f0).toList)) || (!(((rd_T26 x12 x14).f1) == ((rd_T26 x1 x14).f1)) || (!(((rd_T26 x12 x14).f2) == ((rd_T26 x1 x14).f2)) || (!((((rd_T26 x12 x14).f3).toList) == (((rd_T26 x1 x14).f3).toList)))))) = true then (some false) else (laws_sameFaults9.l0 k x1 x12 x13 (wrap64 (x14 + 1)))) else (none)) else (none)) else (none)) else (some true)
def laws_sameFaults9.f (k : Nat) (l0 : List (S26)) (l1 : List (S26)) : Option (Bool) := if (l0.length : Int) = (l1.length : Int) then (laws_sameFaults9.l0 k l1 l0 (l0.length : Int) 0) else (some false)
theorem laws_sameFaults9.mono_l : ∀ k, (∀ y0 y1 y2 y3, LeO (laws_sameFaults9.l0 k y0 y1 y2 y3) (laws_sameFaults9.l0 (k + 1) y0 y1 y2 y3))
  | 0 => fun _ _ _ _ r h => by simp [laws_sameFaults9.l0] at h
  | k + 1 => by
    have ih0 := laws_sameFaults9.mono_l k
    · intro y0 y1 y2 y3
      unfold laws_sameFaults9.l0
      repeat' first
      | (with_reducible exact ih0 _ _ _ _)
      | (with_reducible exact LeO.refl _)
      | (with_reducible exact LeO.none _)
      | (with_reducible refine LeO.ite ?_ ?_)
      | (with_reducible refine LeO.bind ?_ (fun _ => ?_))
      | exact ih0 _ _ _ _
      | exact LeO.none _
      | refine LeO.ite ?_ ?_
      | refine LeO.bind ?_ (fun _ => ?_)
theorem laws_sameFaults9.mono : ∀ a0 a1 k, LeO (laws_sameFaults9.f k a0 a1) (laws_sameFaults9.f (k + 1) a0 a1) := by
  intro a0 a1 k
  have ih0 := laws_sameFaults9.mono_l k
  unfold laws_sameFaults9.f
  repeat' first
      | (with_reducible exact ih0 _ _ _ _)
      | (with_reducible exact LeO.refl _)
      | (with_reducible exact LeO.none _)
      | (with_reducible refine LeO.ite ?_ ?_)
      | (with_reducible refine LeO.bind ?_ (fun _ => ?_))
      | exact ih0 _ _ _ _
      | exact LeO.none _
      | refine LeO.ite ?_ ?_
      | refine LeO.bind ?_ (fun _ => ?_)
set_option maxHeartbeats 8000000 in
set_option maxRecDepth 100000 in
theorem laws_sameFaults9.calls (k : Nat) (A0 : Option Addr) (c0 : Nat) (l0 : List (S26)) (A1 : Option Addr) (c1 : Nat) (l1 : List (S26)) (r : Bool) (w : World) (hr0 : Kd.C k26 w A0 l0.length l0) (hc0 : l0.length ≤ c0) (hr1 : Kd.C k26 w A1 l1.length l1) (hc1 : l1.length ≤ c1) (h : laws_sameFaults9.f k l0 l1 = some r) :
    Calls Try.prog 14 #[.slice A0 l0.length c0, .slice A1 l1.length c1] w fun e w' => e = .returned (.bool r) ∧ Below w.heap.size w w' := by
  have hu26 := Try.underlying26
  have HR0 := Aside0.mk hr0
  have HC0 := Aside0.mk hc0
  clear hr0 hc0
  have HR1 := Aside0.mk hr1
  have HC1 := Aside0.mk hc1
  clear hr1 hc1
  have HB := Aside0.mk (Below.refl w.heap.size w)
  have H : (if (l0.length : Int) = (l1.length : Int) then (laws_sameFaults9.l0 k l1 l0 (l0.length : Int) 0) else (some false)) = some r := h
  clear h
  by_cases c3 : (l0.length : Int) = (l1.length : Int)
  · rw [if_pos c3] at H
    have c3b0 : ((l0.length : Int) == (l1.length : Int)) = true := beq_iff_eq.mpr c3
    have c3b1 : ((l0.length : Int) != (l1.length : Int)) = false := bne_eq_false_iff_eq.mpr c3
    have c3b2 : (l0.length == l1.length) = true := by first | simpa using c3 | (simp at c3 ⊢; omega)
    clear c3
    have H' := Aside0.mk H
    clear H
    go_enter Try.func14, Try.ntmps14
    go_wp2
    repeat (go_quiet (fail); try go_wp2)
    go_loopg [14] k (fun kq v14 w' => ∃ (x14_1 : Int), v14 = .int .i64 x14_1 ∧ Aside0 (laws_sameFaults9.l0 kq l1 l0 (l0.length : Int) x14_1 = some r) ∧ Aside0 (kq ≤ k) ∧ Aside0 (Below w.heap.size w w'))
    case atStart => exact ⟨(0), (by first | rfl | (simp; done) | (simp [*]; done)), H', ⟨Nat.le_refl _⟩, ⟨by repeat (first | (with_reducible first | exact HB.out | apply below_alloc | apply pw_below_drewN | apply below_drew1) | exact HB.out)⟩⟩
    case round =>
      clear H'
      try clear c1
      try clear p2
      try clear c3
      try clear c3b0
      try clear c3b1
      try clear c3b2
      obtain ⟨x14_1, rfl, HA, HK1, HB⟩ := hrel
      cases gk with
      | zero => exact absurd HA.out (by simp [laws_sameFaults9.l0])
      | succ k1 =>
        have H := HA.out
        clear HA
        simp only [laws_sameFaults9.l0] at H
        by_cases c4 : x14_1 < (l0.length : Int)
        · rw [if_pos c4] at H
          have c4b0 : decide (x14_1 < (l0.length : Int)) = true := decide_eq_true c4
          clear c4
          by_cases c5 : 0 ≤ x14_1
          · rw [if_pos c5] at H
            have c5b0 : decide (0 ≤ x14_1) = true := decide_eq_true c5
            clear c5
            by_cases c6 : x14_1 < (l0.length : Int)
            · rw [if_pos c6] at H
              have c6b0 : decide (x14_1 < (l0.length : Int)) = true := decide_eq_true c6
              clear c6
              by_cases c7 : x14_1 < (l1.length : Int)
              · rw [if_pos c7] at H
                have c7b0 : decide (x14_1 < (l1.length : Int)) = true := decide_eq_true c7
                clear c7
                by_cases c8 : (!((((rd_T26 l0 x14_1).f0).toList) == (((rd_T26 l1 x14_1).f0).toList)) || (!(((rd_T26 l0 x14_1).f1) == ((rd_T26 l1 x14_1).f1)) || (!(((rd_T26 l0 x14_1).f2) == ((rd_T26 l1 x14_1).f2)) || (!((((rd_T26 l0 x14_1).f3).toList) == (((rd_T26 l1 x14_1).f3).toList)))))) = true
                · rw [if_pos c8] at H
                  have c8b0 : (!((((rd_T26 l0 x14_1).f0).toList) == (((rd_T26 l1 x14_1).f0).toList)) || (!(((rd_T26 l0 x14_1).f1) == ((rd_T26 l1 x14_1).f1)) || (!(((rd_T26 l0 x14_1).f2) == ((rd_T26 l1 x14_1).f2)) || (!((((rd_T26 l0 x14_1).f3).toList) == (((rd_T26 l1 x14_1).f3).toList)))))) = true := c8
                  clear c8
                  obtain rfl := Option.some.inj H
                  have p121 : 0 ≤ (x14_1 : Int) := of_decide_eq_true (by first | (with_reducible assumption) | assumption)
                  have q121 : x14_1 < (l0.length : Int) := of_decide_eq_true (by first | (with_reducible assumption) | assumption)
                  obtain ⟨ad121, e121, hx121_0, hx121_1, hx121_2, hx121_3⟩ := at_T26 HR0.out x14_1 p121 q121
                  cases e121
                  replace hx121_0 := (HB.out.cell (World.block_lt_of_cell? w _ hx121_0)).trans hx121_0
                  replace hx121_1 := (HB.out.cell (World.block_lt_of_cell? w _ hx121_1)).trans hx121_1
                  replace hx121_2 := (HB.out.cell (World.block_lt_of_cell? w _ hx121_2)).trans hx121_2
                  replace hx121_3 := (HB.out.cell (World.block_lt_of_cell? w _ hx121_3)).trans hx121_3
                  replace p121 := eq_true p121
                  replace q121 := eq_true q121
                  go_wp2_with (first | ((with_reducible refine gate_dst (N := 6) rfl ?_); refine box_event ?hg (N := 6) ?hd (cs := #[.string (⟨#[]⟩ : ByteArray), .int .i64 0, .int .i64 0, .string (⟨#[]⟩ : ByteArray)]) (t := 26) ?hr ?_; (case hd => rfl); (case hg => rfl); (case hr => first | (go_simp; done) | (go_simp; rfl)); intro gb122 hg w9 hbox hb; have n0_ := Aside0.mk (below_step (by repeat (first | (with_reducible first | exact HB.out | apply below_alloc | apply pw_below_drewN | apply below_drew1) | exact HB.out)) hb); have n1_ := Aside0.mk (hbox); have n2_ := Aside0.mk ((by rw [hg]; exact (below_size (by repeat (first | (with_reducible first | exact HB.out | apply below_alloc | apply pw_below_drewN | apply below_drew1) | exact HB.out))) : w.heap.size ≤ gb122)); have n3_ := Aside0.mk ((by rw [hg]; exact (below_size (by repeat (first | (with_reducible first | exact HB.out | apply below_alloc | apply pw_below_drewN | apply below_drew1) | exact HB.out))) : w.heap.size ≤ gb122)); clear HB; have HB := n0_; have BK122 := n1_; have GW122 := n2_; have GE122 := n3_; clear n0_ n1_ n2_ n3_; clear hb hbox hg; have hcz10_0 : w9.cell? ⟨gb122, 0, none⟩ = some (.string (⟨#[]⟩ : ByteArray)) := (blk_cell BK122.out 0).trans rfl; have hcz10_1 : w9.cell? ⟨gb122, 1, none⟩ = some (.int .i64 0) := (blk_cell BK122.out 1).trans rfl; have hcz10_2 : w9.cell? ⟨gb122, 2, none⟩ = some (.int .i64 0) := (blk_cell BK122.out 2).trans rfl; have hcz10_3 : w9.cell? ⟨gb122, 3, none⟩ = some (.string (⟨#[]⟩ : ByteArray)) := (blk_cell BK122.out 3).trans rfl; have hfz10_0 := blk_frozen BK122.out 0; have hfz10_1 := blk_frozen BK122.out 1; have hfz10_2 := blk_frozen BK122.out 2; have hfz10_3 := blk_frozen BK122.out 3; have p123 : 0 ≤ (x14_1 : Int) := of_decide_eq_true (by first | (with_reducible assumption) | assumption); have q123 : x14_1 < (l1.length : Int) := of_decide_eq_true (by first | (with_reducible assumption) | assumption); obtain ⟨ad123, e123, hx123_0, hx123_1, hx123_2, hx123_3⟩ := at_T26 HR1.out x14_1 p123 q123; cases e123; have hn123_0 : ad123.block ≠ gb122 := Nat.ne_of_lt (Nat.lt_of_lt_of_le (by have := World.block_lt_of_cell? _ _ hx123_0; first | rwa [add_block] at this | exact this) GW122.out); have hn123_1 : ad123.block ≠ gb122 := Nat.ne_of_lt (Nat.lt_of_lt_of_le (by have := World.block_lt_of_cell? _ _ hx123_0; first | rwa [add_block] at this | exact this) GW122.out); have hn123_2 : ad123.block ≠ gb122 := Nat.ne_of_lt (Nat.lt_of_lt_of_le (by have := World.block_lt_of_cell? _ _ hx123_0; first | rwa [add_block] at this | exact this) GW122.out); have hn123_3 : ad123.block ≠ gb122 := Nat.ne_of_lt (Nat.lt_of_lt_of_le (by have := World.block_lt_of_cell? _ _ hx123_0; first | rwa [add_block] at this | exact this) GW122.out); replace hx123_0 := (HB.out.cell (World.block_lt_of_cell? w _ hx123_0)).trans hx123_0; replace hx123_1 := (HB.out.cell (World.block_lt_of_cell? w _ hx123_1)).trans hx123_1; replace hx123_2 := (HB.out.cell (World.block_lt_of_cell? w _ hx123_2)).trans hx123_2; replace hx123_3 := (HB.out.cell (World.block_lt_of_cell? w _ hx123_3)).trans hx123_3; replace hx123_0 := (cell_far (p := ⟨gb122, 0, none⟩) (by first | (rw [add_block]; exact hn123_0) | (show (Addr.add _ _).block ≠ _; rw [add_block]; exact hn123_0) | exact hn123_0) (.string ((rd_T26 l0 x14_1).f0))).trans hx123_0; replace hx123_1 := (cell_far (p := ⟨gb122, 0, none⟩) (by first | (rw [add_block]; exact hn123_0) | (show (Addr.add _ _).block ≠ _; rw [add_block]; exact hn123_0) | exact hn123_0) (.string ((rd_T26 l0 x14_1).f0))).trans hx123_1; replace hx123_2 := (cell_far (p := ⟨gb122, 0, none⟩) (by first | (rw [add_block]; exact hn123_0) | (show (Addr.add _ _).block ≠ _; rw [add_block]; exact hn123_0) | exact hn123_0) (.string ((rd_T26 l0 x14_1).f0))).trans hx123_2; replace hx123_3 := (cell_far (p := ⟨gb122, 0, none⟩) (by first | (rw [add_block]; exact hn123_0) | (show (Addr.add _ _).block ≠ _; rw [add_block]; exact hn123_0) | exact hn123_0) (.string ((rd_T26 l0 x14_1).f0))).trans hx123_3; replace hx123_0 := (cell_far (p := ⟨gb122, 1, none⟩) (by first | (rw [add_block]; exact hn123_1) | (show (Addr.add _ _).block ≠ _; rw [add_block]; exact hn123_1) | exact hn123_1) (.int .i64 ((rd_T26 l0 x14_1).f1))).trans hx123_0; replace hx123_1 := (cell_far (p := ⟨gb122, 1, none⟩) (by first | (rw [add_block]; exact hn123_1) | (show (Addr.add _ _).block ≠ _; rw [add_block]; exact hn123_1) | exact hn123_1) (.int .i64 ((rd_T26 l0 x14_1).f1))).trans hx123_1; replace hx123_2 := (cell_far (p := ⟨gb122, 1, none⟩) (by first | (rw [add_block]; exact hn123_1) | (show (Addr.add _ _).block ≠ _; rw [add_block]; exact hn123_1) | exact hn123_1) (.int .i64 ((rd_T26 l0 x14_1).f1))).trans hx123_2; replace hx123_3 := (cell_far (p := ⟨gb122, 1, none⟩) (by first | (rw [add_block]; exact hn123_1) | (show (Addr.add _ _).block ≠ _; rw [add_block]; exact hn123_1) | exact hn123_1) (.int .i64 ((rd_T26 l0 x14_1).f1))).trans hx123_3; replace hx123_0 := (cell_far (p := ⟨gb122, 2, none⟩) (by first | (rw [add_block]; exact hn123_2) | (show (Addr.add _ _).block ≠ _; rw [add_block]; exact hn123_2) | exact hn123_2) (.int .i64 ((rd_T26 l0 x14_1).f2))).trans hx123_0; replace hx123_1 := (cell_far (p := ⟨gb122, 2, none⟩) (by first | (rw [add_block]; exact hn123_2) | (show (Addr.add _ _).block ≠ _; rw [add_block]; exact hn123_2) | exact hn123_2) (.int .i64 ((rd_T26 l0 x14_1).f2))).trans hx123_1; replace hx123_2 := (cell_far (p := ⟨gb122, 2, none⟩) (by first | (rw [add_block]; exact hn123_2) | (show (Addr.add _ _).block ≠ _; rw [add_block]; exact hn123_2) | exact hn123_2) (.int .i64 ((rd_T26 l0 x14_1).f2))).trans hx123_2; replace hx123_3 := (cell_far (p := ⟨gb122, 2, none⟩) (by first | (rw [add_block]; exact hn123_2) | (show (Addr.add _ _).block ≠ _; rw [add_block]; exact hn123_2) | exact hn123_2) (.int .i64 ((rd_T26 l0 x14_1).f2))).trans hx123_3; replace hx123_0 := (cell_far (p := ⟨gb122, 3, none⟩) (by first | (rw [add_block]; exact hn123_3) | (show (Addr.add _ _).block ≠ _; rw [add_block]; exact hn123_3) | exact hn123_3) (.string ((rd_T26 l0 x14_1).f3))).trans hx123_0; replace hx123_1 := (cell_far (p := ⟨gb122, 3, none⟩) (by first | (rw [add_block]; exact hn123_3) | (show (Addr.add _ _).block ≠ _; rw [add_block]; exact hn123_3) | exact hn123_3) (.string ((rd_T26 l0 x14_1).f3))).trans hx123_1; replace hx123_2 := (cell_far (p := ⟨gb122, 3, none⟩) (by first | (rw [add_block]; exact hn123_3) | (show (Addr.add _ _).block ≠ _; rw [add_block]; exact hn123_3) | exact hn123_3) (.string ((rd_T26 l0 x14_1).f3))).trans hx123_2; replace hx123_3 := (cell_far (p := ⟨gb122, 3, none⟩) (by first | (rw [add_block]; exact hn123_3) | (show (Addr.add _ _).block ≠ _; rw [add_block]; exact hn123_3) | exact hn123_3) (.string ((rd_T26 l0 x14_1).f3))).trans hx123_3; (try have hy123_0 := fun (n_ : Nat) => (show ((((((w9.drewN n_).setCell ⟨gb122, 0, none⟩ (.string ((rd_T26 l0 x14_1).f0))).setCell ⟨gb122, 1, none⟩ (.int .i64 ((rd_T26 l0 x14_1).f1))).setCell ⟨gb122, 2, none⟩ (.int .i64 ((rd_T26 l0 x14_1).f2))).setCell ⟨gb122, 3, none⟩ (.string ((rd_T26 l0 x14_1).f3)))).cell? _ = some _ from hx123_0)); (try have hy123_1 := fun (n_ : Nat) => (show ((((((w9.drewN n_).setCell ⟨gb122, 0, none⟩ (.string ((rd_T26 l0 x14_1).f0))).setCell ⟨gb122, 1, none⟩ (.int .i64 ((rd_T26 l0 x14_1).f1))).setCell ⟨gb122, 2, none⟩ (.int .i64 ((rd_T26 l0 x14_1).f2))).setCell ⟨gb122, 3, none⟩ (.string ((rd_T26 l0 x14_1).f3)))).cell? _ = some _ from hx123_1)); (try have hy123_2 := fun (n_ : Nat) => (show ((((((w9.drewN n_).setCell ⟨gb122, 0, none⟩ (.string ((rd_T26 l0 x14_1).f0))).setCell ⟨gb122, 1, none⟩ (.int .i64 ((rd_T26 l0 x14_1).f1))).setCell ⟨gb122, 2, none⟩ (.int .i64 ((rd_T26 l0 x14_1).f2))).setCell ⟨gb122, 3, none⟩ (.string ((rd_T26 l0 x14_1).f3)))).cell? _ = some _ from hx123_2)); (try have hy123_3 := fun (n_ : Nat) => (show ((((((w9.drewN n_).setCell ⟨gb122, 0, none⟩ (.string ((rd_T26 l0 x14_1).f0))).setCell ⟨gb122, 1, none⟩ (.int .i64 ((rd_T26 l0 x14_1).f1))).setCell ⟨gb122, 2, none⟩ (.int .i64 ((rd_T26 l0 x14_1).f2))).setCell ⟨gb122, 3, none⟩ (.string ((rd_T26 l0 x14_1).f3)))).cell? _ = some _ from hx123_3)); clear hn123_0; clear hn123_1; clear hn123_2; clear hn123_3; replace p123 := eq_true p123; replace q123 := eq_true q123))
                  repeat (go_quiet (first | ((with_reducible refine gate_dst (N := 6) rfl ?_); refine box_event ?hg (N := 6) ?hd (cs := #[.string (⟨#[]⟩ : ByteArray), .int .i64 0, .int .i64 0, .string (⟨#[]⟩ : ByteArray)]) (t := 26) ?hr ?_; (case hd => rfl); (case hg => rfl); (case hr => first | (go_simp; done) | (go_simp; rfl)); intro gb122 hg w9 hbox hb; have n0_ := Aside0.mk (below_step (by repeat (first | (with_reducible first | exact HB.out | apply below_alloc | apply pw_below_drewN | apply below_drew1) | exact HB.out)) hb); have n1_ := Aside0.mk (hbox); have n2_ := Aside0.mk ((by rw [hg]; exact (below_size (by repeat (first | (with_reducible first | exact HB.out | apply below_alloc | apply pw_below_drewN | apply below_drew1) | exact HB.out))) : w.heap.size ≤ gb122)); have n3_ := Aside0.mk ((by rw [hg]; exact (below_size (by repeat (first | (with_reducible first | exact HB.out | apply below_alloc | apply pw_below_drewN | apply below_drew1) | exact HB.out))) : w.heap.size ≤ gb122)); clear HB; have HB := n0_; have BK122 := n1_; have GW122 := n2_; have GE122 := n3_; clear n0_ n1_ n2_ n3_; clear hb hbox hg; have hcz10_0 : w9.cell? ⟨gb122, 0, none⟩ = some (.string (⟨#[]⟩ : ByteArray)) := (blk_cell BK122.out 0).trans rfl; have hcz10_1 : w9.cell? ⟨gb122, 1, none⟩ = some (.int .i64 0) := (blk_cell BK122.out 1).trans rfl; have hcz10_2 : w9.cell? ⟨gb122, 2, none⟩ = some (.int .i64 0) := (blk_cell BK122.out 2).trans rfl; have hcz10_3 : w9.cell? ⟨gb122, 3, none⟩ = some (.string (⟨#[]⟩ : ByteArray)) := (blk_cell BK122.out 3).trans rfl; have hfz10_0 := blk_frozen BK122.out 0; have hfz10_1 := blk_frozen BK122.out 1; have hfz10_2 := blk_frozen BK122.out 2; have hfz10_3 := blk_frozen BK122.out 3; have p123 : 0 ≤ (x14_1 : Int) := of_decide_eq_true (by first | (with_reducible assumption) | assumption); have q123 : x14_1 < (l1.length : Int) := of_decide_eq_true (by first | (with_reducible assumption) | assumption); obtain ⟨ad123, e123, hx123_0, hx123_1, hx123_2, hx123_3⟩ := at_T26 HR1.out x14_1 p123 q123; cases e123; have hn123_0 : ad123.block ≠ gb122 := Nat.ne_of_lt (Nat.lt_of_lt_of_le (by have := World.block_lt_of_cell? _ _ hx123_0; first | rwa [add_block] at this | exact this) GW122.out); have hn123_1 : ad123.block ≠ gb122 := Nat.ne_of_lt (Nat.lt_of_lt_of_le (by have := World.block_lt_of_cell? _ _ hx123_0; first | rwa [add_block] at this | exact this) GW122.out); have hn123_2 : ad123.block ≠ gb122 := Nat.ne_of_lt (Nat.lt_of_lt_of_le (by have := World.block_lt_of_cell? _ _ hx123_0; first | rwa [add_block] at this | exact this) GW122.out); have hn123_3 : ad123.block ≠ gb122 := Nat.ne_of_lt (Nat.lt_of_lt_of_le (by have := World.block_lt_of_cell? _ _ hx123_0; first | rwa [add_block] at this | exact this) GW122.out); replace hx123_0 := (HB.out.cell (World.block_lt_of_cell? w _ hx123_0)).trans hx123_0; replace hx123_1 := (HB.out.cell (World.block_lt_of_cell? w _ hx123_1)).trans hx123_1; replace hx123_2 := (HB.out.cell (World.block_lt_of_cell? w _ hx123_2)).trans hx123_2; replace hx123_3 := (HB.out.cell (World.block_lt_of_cell? w _ hx123_3)).trans hx123_3; replace hx123_0 := (cell_far (p := ⟨gb122, 0, none⟩) (by first | (rw [add_block]; exact hn123_0) | (show (Addr.add _ _).block ≠ _; rw [add_block]; exact hn123_0) | exact hn123_0) (.string ((rd_T26 l0 x14_1).f0))).trans hx123_0; replace hx123_1 := (cell_far (p := ⟨gb122, 0, none⟩) (by first | (rw [add_block]; exact hn123_0) | (show (Addr.add _ _).block ≠ _; rw [add_block]; exact hn123_0) | exact hn123_0) (.string ((rd_T26 l0 x14_1).f0))).trans hx123_1; replace hx123_2 := (cell_far (p := ⟨gb122, 0, none⟩) (by first | (rw [add_block]; exact hn123_0) | (show (Addr.add _ _).block ≠ _; rw [add_block]; exact hn123_0) | exact hn123_0) (.string ((rd_T26 l0 x14_1).f0))).trans hx123_2; replace hx123_3 := (cell_far (p := ⟨gb122, 0, none⟩) (by first | (rw [add_block]; exact hn123_0) | (show (Addr.add _ _).block ≠ _; rw [add_block]; exact hn123_0) | exact hn123_0) (.string ((rd_T26 l0 x14_1).f0))).trans hx123_3; replace hx123_0 := (cell_far (p := ⟨gb122, 1, none⟩) (by first | (rw [add_block]; exact hn123_1) | (show (Addr.add _ _).block ≠ _; rw [add_block]; exact hn123_1) | exact hn123_1) (.int .i64 ((rd_T26 l0 x14_1).f1))).trans hx123_0; replace hx123_1 := (cell_far (p := ⟨gb122, 1, none⟩) (by first | (rw [add_block]; exact hn123_1) | (show (Addr.add _ _).block ≠ _; rw [add_block]; exact hn123_1) | exact hn123_1) (.int .i64 ((rd_T26 l0 x14_1).f1))).trans hx123_1; replace hx123_2 := (cell_far (p := ⟨gb122, 1, none⟩) (by first | (rw [add_block]; exact hn123_1) | (show (Addr.add _ _).block ≠ _; rw [add_block]; exact hn123_1) | exact hn123_1) (.int .i64 ((rd_T26 l0 x14_1).f1))).trans hx123_2; replace hx123_3 := (cell_far (p := ⟨gb122, 1, none⟩) (by first | (rw [add_block]; exact hn123_1) | (show (Addr.add _ _).block ≠ _; rw [add_block]; exact hn123_1) | exact hn123_1) (.int .i64 ((rd_T26 l0 x14_1).f1))).trans hx123_3; replace hx123_0 := (cell_far (p := ⟨gb122, 2, none⟩) (by first | (rw [add_block]; exact hn123_2) | (show (Addr.add _ _).block ≠ _; rw [add_block]; exact hn123_2) | exact hn123_2) (.int .i64 ((rd_T26 l0 x14_1).f2))).trans hx123_0; replace hx123_1 := (cell_far (p := ⟨gb122, 2, none⟩) (by first | (rw [add_block]; exact hn123_2) | (show (Addr.add _ _).block ≠ _; rw [add_block]; exact hn123_2) | exact hn123_2) (.int .i64 ((rd_T26 l0 x14_1).f2))).trans hx123_1; replace hx123_2 := (cell_far (p := ⟨gb122, 2, none⟩) (by first | (rw [add_block]; exact hn123_2) | (show (Addr.add _ _).block ≠ _; rw [add_block]; exact hn123_2) | exact hn123_2) (.int .i64 ((rd_T26 l0 x14_1).f2))).trans hx123_2; replace hx123_3 := (cell_far (p := ⟨gb122, 2, none⟩) (by first | (rw [add_block]; exact hn123_2) | (show (Addr.add _ _).block ≠ _; rw [add_block]; exact hn123_2) | exact hn123_2) (.int .i64 ((rd_T26 l0 x14_1).f2))).trans hx123_3; replace hx123_0 := (cell_far (p := ⟨gb122, 3, none⟩) (by first | (rw [add_block]; exact hn123_3) | (show (Addr.add _ _).block ≠ _; rw [add_block]; exact hn123_3) | exact hn123_3) (.string ((rd_T26 l0 x14_1).f3))).trans hx123_0; replace hx123_1 := (cell_far (p := ⟨gb122, 3, none⟩) (by first | (rw [add_block]; exact hn123_3) | (show (Addr.add _ _).block ≠ _; rw [add_block]; exact hn123_3) | exact hn123_3) (.string ((rd_T26 l0 x14_1).f3))).trans hx123_1; replace hx123_2 := (cell_far (p := ⟨gb122, 3, none⟩) (by first | (rw [add_block]; exact hn123_3) | (show (Addr.add _ _).block ≠ _; rw [add_block]; exact hn123_3) | exact hn123_3) (.string ((rd_T26 l0 x14_1).f3))).trans hx123_2; replace hx123_3 := (cell_far (p := ⟨gb122, 3, none⟩) (by first | (rw [add_block]; exact hn123_3) | (show (Addr.add _ _).block ≠ _; rw [add_block]; exact hn123_3) | exact hn123_3) (.string ((rd_T26 l0 x14_1).f3))).trans hx123_3; (try have hy123_0 := fun (n_ : Nat) => (show ((((((w9.drewN n_).setCell ⟨gb122, 0, none⟩ (.string ((rd_T26 l0 x14_1).f0))).setCell ⟨gb122, 1, none⟩ (.int .i64 ((rd_T26 l0 x14_1).f1))).setCell ⟨gb122, 2, none⟩ (.int .i64 ((rd_T26 l0 x14_1).f2))).setCell ⟨gb122, 3, none⟩ (.string ((rd_T26 l0 x14_1).f3)))).cell? _ = some _ from hx123_0)); (try have hy123_1 := fun (n_ : Nat) => (show ((((((w9.drewN n_).setCell ⟨gb122, 0, none⟩ (.string ((rd_T26 l0 x14_1).f0))).setCell ⟨gb122, 1, none⟩ (.int .i64 ((rd_T26 l0 x14_1).f1))).setCell ⟨gb122, 2, none⟩ (.int .i64 ((rd_T26 l0 x14_1).f2))).setCell ⟨gb122, 3, none⟩ (.string ((rd_T26 l0 x14_1).f3)))).cell? _ = some _ from hx123_1)); (try have hy123_2 := fun (n_ : Nat) => (show ((((((w9.drewN n_).setCell ⟨gb122, 0, none⟩ (.string ((rd_T26 l0 x14_1).f0))).setCell ⟨gb122, 1, none⟩ (.int .i64 ((rd_T26 l0 x14_1).f1))).setCell ⟨gb122, 2, none⟩ (.int .i64 ((rd_T26 l0 x14_1).f2))).setCell ⟨gb122, 3, none⟩ (.string ((rd_T26 l0 x14_1).f3)))).cell? _ = some _ from hx123_2)); (try have hy123_3 := fun (n_ : Nat) => (show ((((((w9.drewN n_).setCell ⟨gb122, 0, none⟩ (.string ((rd_T26 l0 x14_1).f0))).setCell ⟨gb122, 1, none⟩ (.int .i64 ((rd_T26 l0 x14_1).f1))).setCell ⟨gb122, 2, none⟩ (.int .i64 ((rd_T26 l0 x14_1).f2))).setCell ⟨gb122, 3, none⟩ (.string ((rd_T26 l0 x14_1).f3)))).cell? _ = some _ from hx123_3)); clear hn123_0; clear hn123_1; clear hn123_2; clear hn123_3; replace p123 := eq_true p123; replace q123 := eq_true q123)); try go_wp2_with (first | ((with_reducible refine gate_dst (N := 6) rfl ?_); refine box_event ?hg (N := 6) ?hd (cs := #[.string (⟨#[]⟩ : ByteArray), .int .i64 0, .int .i64 0, .string (⟨#[]⟩ : ByteArray)]) (t := 26) ?hr ?_; (case hd => rfl); (case hg => rfl); (case hr => first | (go_simp; done) | (go_simp; rfl)); intro gb122 hg w9 hbox hb; have n0_ := Aside0.mk (below_step (by repeat (first | (with_reducible first | exact HB.out | apply below_alloc | apply pw_below_drewN | apply below_drew1) | exact HB.out)) hb); have n1_ := Aside0.mk (hbox); have n2_ := Aside0.mk ((by rw [hg]; exact (below_size (by repeat (first | (with_reducible first | exact HB.out | apply below_alloc | apply pw_below_drewN | apply below_drew1) | exact HB.out))) : w.heap.size ≤ gb122)); have n3_ := Aside0.mk ((by rw [hg]; exact (below_size (by repeat (first | (with_reducible first | exact HB.out | apply below_alloc | apply pw_below_drewN | apply below_drew1) | exact HB.out))) : w.heap.size ≤ gb122)); clear HB; have HB := n0_; have BK122 := n1_; have GW122 := n2_; have GE122 := n3_; clear n0_ n1_ n2_ n3_; clear hb hbox hg; have hcz10_0 : w9.cell? ⟨gb122, 0, none⟩ = some (.string (⟨#[]⟩ : ByteArray)) := (blk_cell BK122.out 0).trans rfl; have hcz10_1 : w9.cell? ⟨gb122, 1, none⟩ = some (.int .i64 0) := (blk_cell BK122.out 1).trans rfl; have hcz10_2 : w9.cell? ⟨gb122, 2, none⟩ = some (.int .i64 0) := (blk_cell BK122.out 2).trans rfl; have hcz10_3 : w9.cell? ⟨gb122, 3, none⟩ = some (.string (⟨#[]⟩ : ByteArray)) := (blk_cell BK122.out 3).trans rfl; have hfz10_0 := blk_frozen BK122.out 0; have hfz10_1 := blk_frozen BK122.out 1; have hfz10_2 := blk_frozen BK122.out 2; have hfz10_3 := blk_frozen BK122.out 3; have p123 : 0 ≤ (x14_1 : Int) := of_decide_eq_true (by first | (with_reducible assumption) | assumption); have q123 : x14_1 < (l1.length : Int) := of_decide_eq_true (by first | (with_reducible assumption) | assumption); obtain ⟨ad123, e123, hx123_0, hx123_1, hx123_2, hx123_3⟩ := at_T26 HR1.out x14_1 p123 q123; cases e123; have hn123_0 : ad123.block ≠ gb122 := Nat.ne_of_lt (Nat.lt_of_lt_of_le (by have := World.block_lt_of_cell? _ _ hx123_0; first | rwa [add_block] at this | exact this) GW122.out); have hn123_1 : ad123.block ≠ gb122 := Nat.ne_of_lt (Nat.lt_of_lt_of_le (by have := World.block_lt_of_cell? _ _ hx123_0; first | rwa [add_block] at this | exact this) GW122.out); have hn123_2 : ad123.block ≠ gb122 := Nat.ne_of_lt (Nat.lt_of_lt_of_le (by have := World.block_lt_of_cell? _ _ hx123_0; first | rwa [add_block] at this | exact this) GW122.out); have hn123_3 : ad123.block ≠ gb122 := Nat.ne_of_lt (Nat.lt_of_lt_of_le (by have := World.block_lt_of_cell? _ _ hx123_0; first | rwa [add_block] at this | exact this) GW122.out); replace hx123_0 := (HB.out.cell (World.block_lt_of_cell? w _ hx123_0)).trans hx123_0; replace hx123_1 := (HB.out.cell (World.block_lt_of_cell? w _ hx123_1)).trans hx123_1; replace hx123_2 := (HB.out.cell (World.block_lt_of_cell? w _ hx123_2)).trans hx123_2; replace hx123_3 := (HB.out.cell (World.block_lt_of_cell? w _ hx123_3)).trans hx123_3; replace hx123_0 := (cell_far (p := ⟨gb122, 0, none⟩) (by first | (rw [add_block]; exact hn123_0) | (show (Addr.add _ _).block ≠ _; rw [add_block]; exact hn123_0) | exact hn123_0) (.string ((rd_T26 l0 x14_1).f0))).trans hx123_0; replace hx123_1 := (cell_far (p := ⟨gb122, 0, none⟩) (by first | (rw [add_block]; exact hn123_0) | (show (Addr.add _ _).block ≠ _; rw [add_block]; exact hn123_0) | exact hn123_0) (.string ((rd_T26 l0 x14_1).f0))).trans hx123_1; replace hx123_2 := (cell_far (p := ⟨gb122, 0, none⟩) (by first | (rw [add_block]; exact hn123_0) | (show (Addr.add _ _).block ≠ _; rw [add_block]; exact hn123_0) | exact hn123_0) (.string ((rd_T26 l0 x14_1).f0))).trans hx123_2; replace hx123_3 := (cell_far (p := ⟨gb122, 0, none⟩) (by first | (rw [add_block]; exact hn123_0) | (show (Addr.add _ _).block ≠ _; rw [add_block]; exact hn123_0) | exact hn123_0) (.string ((rd_T26 l0 x14_1).f0))).trans hx123_3; replace hx123_0 := (cell_far (p := ⟨gb122, 1, none⟩) (by first | (rw [add_block]; exact hn123_1) | (show (Addr.add _ _).block ≠ _; rw [add_block]; exact hn123_1) | exact hn123_1) (.int .i64 ((rd_T26 l0 x14_1).f1))).trans hx123_0; replace hx123_1 := (cell_far (p := ⟨gb122, 1, none⟩) (by first | (rw [add_block]; exact hn123_1) | (show (Addr.add _ _).block ≠ _; rw [add_block]; exact hn123_1) | exact hn123_1) (.int .i64 ((rd_T26 l0 x14_1).f1))).trans hx123_1; replace hx123_2 := (cell_far (p := ⟨gb122, 1, none⟩) (by first | (rw [add_block]; exact hn123_1) | (show (Addr.add _ _).block ≠ _; rw [add_block]; exact hn123_1) | exact hn123_1) (.int .i64 ((rd_T26 l0 x14_1).f1))).trans hx123_2; replace hx123_3 := (cell_far (p := ⟨gb122, 1, none⟩) (by first | (rw [add_block]; exact hn123_1) | (show (Addr.add _ _).block ≠ _; rw [add_block]; exact hn123_1) | exact hn123_1) (.int .i64 ((rd_T26 l0 x14_1).f1))).trans hx123_3; replace hx123_0 := (cell_far (p := ⟨gb122, 2, none⟩) (by first | (rw [add_block]; exact hn123_2) | (show (Addr.add _ _).block ≠ _; rw [add_block]; exact hn123_2) | exact hn123_2) (.int .i64 ((rd_T26 l0 x14_1).f2))).trans hx123_0; replace hx123_1 := (cell_far (p := ⟨gb122, 2, none⟩) (by first | (rw [add_block]; exact hn123_2) | (show (Addr.add _ _).block ≠ _; rw [add_block]; exact hn123_2) | exact hn123_2) (.int .i64 ((rd_T26 l0 x14_1).f2))).trans hx123_1; replace hx123_2 := (cell_far (p := ⟨gb122, 2, none⟩) (by first | (rw [add_block]; exact hn123_2) | (show (Addr.add _ _).block ≠ _; rw [add_block]; exact hn123_2) | exact hn123_2) (.int .i64 ((rd_T26 l0 x14_1).f2))).trans hx123_2; replace hx123_3 := (cell_far (p := ⟨gb122, 2, none⟩) (by first | (rw [add_block]; exact hn123_2) | (show (Addr.add _ _).block ≠ _; rw [add_block]; exact hn123_2) | exact hn123_2) (.int .i64 ((rd_T26 l0 x14_1).f2))).trans hx123_3; replace hx123_0 := (cell_far (p := ⟨gb122, 3, none⟩) (by first | (rw [add_block]; exact hn123_3) | (show (Addr.add _ _).block ≠ _; rw [add_block]; exact hn123_3) | exact hn123_3) (.string ((rd_T26 l0 x14_1).f3))).trans hx123_0; replace hx123_1 := (cell_far (p := ⟨gb122, 3, none⟩) (by first | (rw [add_block]; exact hn123_3) | (show (Addr.add _ _).block ≠ _; rw [add_block]; exact hn123_3) | exact hn123_3) (.string ((rd_T26 l0 x14_1).f3))).trans hx123_1; replace hx123_2 := (cell_far (p := ⟨gb122, 3, none⟩) (by first | (rw [add_block]; exact hn123_3) | (show (Addr.add _ _).block ≠ _; rw [add_block]; exact hn123_3) | exact hn123_3) (.string ((rd_T26 l0 x14_1).f3))).trans hx123_2; replace hx123_3 := (cell_far (p := ⟨gb122, 3, none⟩) (by first | (rw [add_block]; exact hn123_3) | (show (Addr.add _ _).block ≠ _; rw [add_block]; exact hn123_3) | exact hn123_3) (.string ((rd_T26 l0 x14_1).f3))).trans hx123_3; (try have hy123_0 := fun (n_ : Nat) => (show ((((((w9.drewN n_).setCell ⟨gb122, 0, none⟩ (.string ((rd_T26 l0 x14_1).f0))).setCell ⟨gb122, 1, none⟩ (.int .i64 ((rd_T26 l0 x14_1).f1))).setCell ⟨gb122, 2, none⟩ (.int .i64 ((rd_T26 l0 x14_1).f2))).setCell ⟨gb122, 3, none⟩ (.string ((rd_T26 l0 x14_1).f3)))).cell? _ = some _ from hx123_0)); (try have hy123_1 := fun (n_ : Nat) => (show ((((((w9.drewN n_).setCell ⟨gb122, 0, none⟩ (.string ((rd_T26 l0 x14_1).f0))).setCell ⟨gb122, 1, none⟩ (.int .i64 ((rd_T26 l0 x14_1).f1))).setCell ⟨gb122, 2, none⟩ (.int .i64 ((rd_T26 l0 x14_1).f2))).setCell ⟨gb122, 3, none⟩ (.string ((rd_T26 l0 x14_1).f3)))).cell? _ = some _ from hx123_1)); (try have hy123_2 := fun (n_ : Nat) => (show ((((((w9.drewN n_).setCell ⟨gb122, 0, none⟩ (.string ((rd_T26 l0 x14_1).f0))).setCell ⟨gb122, 1, none⟩ (.int .i64 ((rd_T26 l0 x14_1).f1))).setCell ⟨gb122, 2, none⟩ (.int .i64 ((rd_T26 l0 x14_1).f2))).setCell ⟨gb122, 3, none⟩ (.string ((rd_T26 l0 x14_1).f3)))).cell? _ = some _ from hx123_2)); (try have hy123_3 := fun (n_ : Nat) => (show ((((((w9.drewN n_).setCell ⟨gb122, 0, none⟩ (.string ((rd_T26 l0 x14_1).f0))).setCell ⟨gb122, 1, none⟩ (.int .i64 ((rd_T26 l0 x14_1).f1))).setCell ⟨gb122, 2, none⟩ (.int .i64 ((rd_T26 l0 x14_1).f2))).setCell ⟨gb122, 3, none⟩ (.string ((rd_T26 l0 x14_1).f3)))).cell? _ = some _ from hx123_3)); clear hn123_0; clear hn123_1; clear hn123_2; clear hn123_3; replace p123 := eq_true p123; replace q123 := eq_true q123)))
                  go_ret
                  exact ⟨by first | rfl | (simp [errW_none, errW_some] <;> rfl) | (simp [*, errW_none, errW_some] <;> rfl), by repeat (first | (with_reducible first | exact HB.out | apply below_alloc | apply pw_below_drewN | apply below_drew1 | refine below_set ?_ GE122.out) | exact HB.out)⟩
                · rw [if_neg c8] at H
                  have c8b0 : (!((((rd_T26 l0 x14_1).f0).toList) == (((rd_T26 l1 x14_1).f0).toList)) || (!(((rd_T26 l0 x14_1).f1) == ((rd_T26 l1 x14_1).f1)) || (!(((rd_T26 l0 x14_1).f2) == ((rd_T26 l1 x14_1).f2)) || (!((((rd_T26 l0 x14_1).f3).toList) == (((rd_T26 l1 x14_1).f3).toList)))))) = false := by simpa using c8
                  clear c8
                  have H' := Aside0.mk H
                  clear H
                  have p121 : 0 ≤ (x14_1 : Int) := of_decide_eq_true (by first | (with_reducible assumption) | assumption)
                  have q121 : x14_1 < (l0.length : Int) := of_decide_eq_true (by first | (with_reducible assumption) | assumption)
                  obtain ⟨ad121, e121, hx121_0, hx121_1, hx121_2, hx121_3⟩ := at_T26 HR0.out x14_1 p121 q121
                  cases e121
                  replace hx121_0 := (HB.out.cell (World.block_lt_of_cell? w _ hx121_0)).trans hx121_0
                  replace hx121_1 := (HB.out.cell (World.block_lt_of_cell? w _ hx121_1)).trans hx121_1
                  replace hx121_2 := (HB.out.cell (World.block_lt_of_cell? w _ hx121_2)).trans hx121_2
                  replace hx121_3 := (HB.out.cell (World.block_lt_of_cell? w _ hx121_3)).trans hx121_3
                  replace p121 := eq_true p121
                  replace q121 := eq_true q121
                  go_wp2_with (first | ((with_reducible refine gate_dst (N := 6) rfl ?_); refine box_event ?hg (N := 6) ?hd (cs := #[.string (⟨#[]⟩ : ByteArray), .int .i64 0, .int .i64 0, .string (⟨#[]⟩ : ByteArray)]) (t := 26) ?hr ?_; (case hd => rfl); (case hg => rfl); (case hr => first | (go_simp; done) | (go_simp; rfl)); intro gb122 hg w11 hbox hb; have n0_ := Aside0.mk (below_step (by repeat (first | (with_reducible first | exact HB.out | apply below_alloc | apply pw_below_drewN | apply below_drew1) | exact HB.out)) hb); have n1_ := Aside0.mk (hbox); have n2_ := Aside0.mk ((by rw [hg]; exact (below_size (by repeat (first | (with_reducible first | exact HB.out | apply below_alloc | apply pw_below_drewN | apply below_drew1) | exact HB.out))) : w.heap.size ≤ gb122)); have n3_ := Aside0.mk ((by rw [hg]; exact (below_size (by repeat (first | (with_reducible first | exact HB.out | apply below_alloc | apply pw_below_drewN | apply below_drew1) | exact HB.out))) : w.heap.size ≤ gb122)); clear HB; have HB := n0_; have BK122 := n1_; have GW122 := n2_; have GE122 := n3_; clear n0_ n1_ n2_ n3_; clear hb hbox hg; have hcz12_0 : w11.cell? ⟨gb122, 0, none⟩ = some (.string (⟨#[]⟩ : ByteArray)) := (blk_cell BK122.out 0).trans rfl; have hcz12_1 : w11.cell? ⟨gb122, 1, none⟩ = some (.int .i64 0) := (blk_cell BK122.out 1).trans rfl; have hcz12_2 : w11.cell? ⟨gb122, 2, none⟩ = some (.int .i64 0) := (blk_cell BK122.out 2).trans rfl; have hcz12_3 : w11.cell? ⟨gb122, 3, none⟩ = some (.string (⟨#[]⟩ : ByteArray)) := (blk_cell BK122.out 3).trans rfl; have hfz12_0 := blk_frozen BK122.out 0; have hfz12_1 := blk_frozen BK122.out 1; have hfz12_2 := blk_frozen BK122.out 2; have hfz12_3 := blk_frozen BK122.out 3; have p123 : 0 ≤ (x14_1 : Int) := of_decide_eq_true (by first | (with_reducible assumption) | assumption); have q123 : x14_1 < (l1.length : Int) := of_decide_eq_true (by first | (with_reducible assumption) | assumption); obtain ⟨ad123, e123, hx123_0, hx123_1, hx123_2, hx123_3⟩ := at_T26 HR1.out x14_1 p123 q123; cases e123; have hn123_0 : ad123.block ≠ gb122 := Nat.ne_of_lt (Nat.lt_of_lt_of_le (by have := World.block_lt_of_cell? _ _ hx123_0; first | rwa [add_block] at this | exact this) GW122.out); have hn123_1 : ad123.block ≠ gb122 := Nat.ne_of_lt (Nat.lt_of_lt_of_le (by have := World.block_lt_of_cell? _ _ hx123_0; first | rwa [add_block] at this | exact this) GW122.out); have hn123_2 : ad123.block ≠ gb122 := Nat.ne_of_lt (Nat.lt_of_lt_of_le (by have := World.block_lt_of_cell? _ _ hx123_0; first | rwa [add_block] at this | exact this) GW122.out); have hn123_3 : ad123.block ≠ gb122 := Nat.ne_of_lt (Nat.lt_of_lt_of_le (by have := World.block_lt_of_cell? _ _ hx123_0; first | rwa [add_block] at this | exact this) GW122.out); replace hx123_0 := (HB.out.cell (World.block_lt_of_cell? w _ hx123_0)).trans hx123_0; replace hx123_1 := (HB.out.cell (World.block_lt_of_cell? w _ hx123_1)).trans hx123_1; replace hx123_2 := (HB.out.cell (World.block_lt_of_cell? w _ hx123_2)).trans hx123_2; replace hx123_3 := (HB.out.cell (World.block_lt_of_cell? w _ hx123_3)).trans hx123_3; replace hx123_0 := (cell_far (p := ⟨gb122, 0, none⟩) (by first | (rw [add_block]; exact hn123_0) | (show (Addr.add _ _).block ≠ _; rw [add_block]; exact hn123_0) | exact hn123_0) (.string ((rd_T26 l0 x14_1).f0))).trans hx123_0; replace hx123_1 := (cell_far (p := ⟨gb122, 0, none⟩) (by first | (rw [add_block]; exact hn123_0) | (show (Addr.add _ _).block ≠ _; rw [add_block]; exact hn123_0) | exact hn123_0) (.string ((rd_T26 l0 x14_1).f0))).trans hx123_1; replace hx123_2 := (cell_far (p := ⟨gb122, 0, none⟩) (by first | (rw [add_block]; exact hn123_0) | (show (Addr.add _ _).block ≠ _; rw [add_block]; exact hn123_0) | exact hn123_0) (.string ((rd_T26 l0 x14_1).f0))).trans hx123_2; replace hx123_3 := (cell_far (p := ⟨gb122, 0, none⟩) (by first | (rw [add_block]; exact hn123_0) | (show (Addr.add _ _).block ≠ _; rw [add_block]; exact hn123_0) | exact hn123_0) (.string ((rd_T26 l0 x14_1).f0))).trans hx123_3; replace hx123_0 := (cell_far (p := ⟨gb122, 1, none⟩) (by first | (rw [add_block]; exact hn123_1) | (show (Addr.add _ _).block ≠ _; rw [add_block]; exact hn123_1) | exact hn123_1) (.int .i64 ((rd_T26 l0 x14_1).f1))).trans hx123_0; replace hx123_1 := (cell_far (p := ⟨gb122, 1, none⟩) (by first | (rw [add_block]; exact hn123_1) | (show (Addr.add _ _).block ≠ _; rw [add_block]; exact hn123_1) | exact hn123_1) (.int .i64 ((rd_T26 l0 x14_1).f1))).trans hx123_1; replace hx123_2 := (cell_far (p := ⟨gb122, 1, none⟩) (by first | (rw [add_block]; exact hn123_1) | (show (Addr.add _ _).block ≠ _; rw [add_block]; exact hn123_1) | exact hn123_1) (.int .i64 ((rd_T26 l0 x14_1).f1))).trans hx123_2; replace hx123_3 := (cell_far (p := ⟨gb122, 1, none⟩) (by first | (rw [add_block]; exact hn123_1) | (show (Addr.add _ _).block ≠ _; rw [add_block]; exact hn123_1) | exact hn123_1) (.int .i64 ((rd_T26 l0 x14_1).f1))).trans hx123_3; replace hx123_0 := (cell_far (p := ⟨gb122, 2, none⟩) (by first | (rw [add_block]; exact hn123_2) | (show (Addr.add _ _).block ≠ _; rw [add_block]; exact hn123_2) | exact hn123_2) (.int .i64 ((rd_T26 l0 x14_1).f2))).trans hx123_0; replace hx123_1 := (cell_far (p := ⟨gb122, 2, none⟩) (by first | (rw [add_block]; exact hn123_2) | (show (Addr.add _ _).block ≠ _; rw [add_block]; exact hn123_2) | exact hn123_2) (.int .i64 ((rd_T26 l0 x14_1).f2))).trans hx123_1; replace hx123_2 := (cell_far (p := ⟨gb122, 2, none⟩) (by first | (rw [add_block]; exact hn123_2) | (show (Addr.add _ _).block ≠ _; rw [add_block]; exact hn123_2) | exact hn123_2) (.int .i64 ((rd_T26 l0 x14_1).f2))).trans hx123_2; replace hx123_3 := (cell_far (p := ⟨gb122, 2, none⟩) (by first | (rw [add_block]; exact hn123_2) | (show (Addr.add _ _).block ≠ _; rw [add_block]; exact hn123_2) | exact hn123_2) (.int .i64 ((rd_T26 l0 x14_1).f2))).trans hx123_3; replace hx123_0 := (cell_far (p := ⟨gb122, 3, none⟩) (by first | (rw [add_block]; exact hn123_3) | (show (Addr.add _ _).block ≠ _; rw [add_block]; exact hn123_3) | exact hn123_3) (.string ((rd_T26 l0 x14_1).f3))).trans hx123_0; replace hx123_1 := (cell_far (p := ⟨gb122, 3, none⟩) (by first | (rw [add_block]; exact hn123_3) | (show (Addr.add _ _).block ≠ _; rw [add_block]; exact hn123_3) | exact hn123_3) (.string ((rd_T26 l0 x14_1).f3))).trans hx123_1; replace hx123_2 := (cell_far (p := ⟨gb122, 3, none⟩) (by first | (rw [add_block]; exact hn123_3) | (show (Addr.add _ _).block ≠ _; rw [add_block]; exact hn123_3) | exact hn123_3) (.string ((rd_T26 l0 x14_1).f3))).trans hx123_2; replace hx123_3 := (cell_far (p := ⟨gb122, 3, none⟩) (by first | (rw [add_block]; exact hn123_3) | (show (Addr.add _ _).block ≠ _; rw [add_block]; exact hn123_3) | exact hn123_3) (.string ((rd_T26 l0 x14_1).f3))).trans hx123_3; (try have hy123_0 := fun (n_ : Nat) => (show ((((((w11.drewN n_).setCell ⟨gb122, 0, none⟩ (.string ((rd_T26 l0 x14_1).f0))).setCell ⟨gb122, 1, none⟩ (.int .i64 ((rd_T26 l0 x14_1).f1))).setCell ⟨gb122, 2, none⟩ (.int .i64 ((rd_T26 l0 x14_1).f2))).setCell ⟨gb122, 3, none⟩ (.string ((rd_T26 l0 x14_1).f3)))).cell? _ = some _ from hx123_0)); (try have hy123_1 := fun (n_ : Nat) => (show ((((((w11.drewN n_).setCell ⟨gb122, 0, none⟩ (.string ((rd_T26 l0 x14_1).f0))).setCell ⟨gb122, 1, none⟩ (.int .i64 ((rd_T26 l0 x14_1).f1))).setCell ⟨gb122, 2, none⟩ (.int .i64 ((rd_T26 l0 x14_1).f2))).setCell ⟨gb122, 3, none⟩ (.string ((rd_T26 l0 x14_1).f3)))).cell? _ = some _ from hx123_1)); (try have hy123_2 := fun (n_ : Nat) => (show ((((((w11.drewN n_).setCell ⟨gb122, 0, none⟩ (.string ((rd_T26 l0 x14_1).f0))).setCell ⟨gb122, 1, none⟩ (.int .i64 ((rd_T26 l0 x14_1).f1))).setCell ⟨gb122, 2, none⟩ (.int .i64 ((rd_T26 l0 x14_1).f2))).setCell ⟨gb122, 3, none⟩ (.string ((rd_T26 l0 x14_1).f3)))).cell? _ = some _ from hx123_2)); (try have hy123_3 := fun (n_ : Nat) => (show ((((((w11.drewN n_).setCell ⟨gb122, 0, none⟩ (.string ((rd_T26 l0 x14_1).f0))).setCell ⟨gb122, 1, none⟩ (.int .i64 ((rd_T26 l0 x14_1).f1))).setCell ⟨gb122, 2, none⟩ (.int .i64 ((rd_T26 l0 x14_1).f2))).setCell ⟨gb122, 3, none⟩ (.string ((rd_T26 l0 x14_1).f3)))).cell? _ = some _ from hx123_3)); clear hn123_0; clear hn123_1; clear hn123_2; clear hn123_3; replace p123 := eq_true p123; replace q123 := eq_true q123))
                  repeat (go_quiet (first | ((with_reducible refine gate_dst (N := 6) rfl ?_); refine box_event ?hg (N := 6) ?hd (cs := #[.string (⟨#[]⟩ : ByteArray), .int .i64 0, .int .i64 0, .string (⟨#[]⟩ : ByteArray)]) (t := 26) ?hr ?_; (case hd => rfl); (case hg => rfl); (case hr => first | (go_simp; done) | (go_simp; rfl)); intro gb122 hg w11 hbox hb; have n0_ := Aside0.mk (below_step (by repeat (first | (with_reducible first | exact HB.out | apply below_alloc | apply pw_below_drewN | apply below_drew1) | exact HB.out)) hb); have n1_ := Aside0.mk (hbox); have n2_ := Aside0.mk ((by rw [hg]; exact (below_size (by repeat (first | (with_reducible first | exact HB.out | apply below_alloc | apply pw_below_drewN | apply below_drew1) | exact HB.out))) : w.heap.size ≤ gb122)); have n3_ := Aside0.mk ((by rw [hg]; exact (below_size (by repeat (first | (with_reducible first | exact HB.out | apply below_alloc | apply pw_below_drewN | apply below_drew1) | exact HB.out))) : w.heap.size ≤ gb122)); clear HB; have HB := n0_; have BK122 := n1_; have GW122 := n2_; have GE122 := n3_; clear n0_ n1_ n2_ n3_; clear hb hbox hg; have hcz12_0 : w11.cell? ⟨gb122, 0, none⟩ = some (.string (⟨#[]⟩ : ByteArray)) := (blk_cell BK122.out 0).trans rfl; have hcz12_1 : w11.cell? ⟨gb122, 1, none⟩ = some (.int .i64 0) := (blk_cell BK122.out 1).trans rfl; have hcz12_2 : w11.cell? ⟨gb122, 2, none⟩ = some (.int .i64 0) := (blk_cell BK122.out 2).trans rfl; have hcz12_3 : w11.cell? ⟨gb122, 3, none⟩ = some (.string (⟨#[]⟩ : ByteArray)) := (blk_cell BK122.out 3).trans rfl; have hfz12_0 := blk_frozen BK122.out 0; have hfz12_1 := blk_frozen BK122.out 1; have hfz12_2 := blk_frozen BK122.out 2; have hfz12_3 := blk_frozen BK122.out 3; have p123 : 0 ≤ (x14_1 : Int) := of_decide_eq_true (by first | (with_reducible assumption) | assumption); have q123 : x14_1 < (l1.length : Int) := of_decide_eq_true (by first | (with_reducible assumption) | assumption); obtain ⟨ad123, e123, hx123_0, hx123_1, hx123_2, hx123_3⟩ := at_T26 HR1.out x14_1 p123 q123; cases e123; have hn123_0 : ad123.block ≠ gb122 := Nat.ne_of_lt (Nat.lt_of_lt_of_le (by have := World.block_lt_of_cell? _ _ hx123_0; first | rwa [add_block] at this | exact this) GW122.out); have hn123_1 : ad123.block ≠ gb122 := Nat.ne_of_lt (Nat.lt_of_lt_of_le (by have := World.block_lt_of_cell? _ _ hx123_0; first | rwa [add_block] at this | exact this) GW122.out); have hn123_2 : ad123.block ≠ gb122 := Nat.ne_of_lt (Nat.lt_of_lt_of_le (by have := World.block_lt_of_cell? _ _ hx123_0; first | rwa [add_block] at this | exact this) GW122.out); have hn123_3 : ad123.block ≠ gb122 := Nat.ne_of_lt (Nat.lt_of_lt_of_le (by have := World.block_lt_of_cell? _ _ hx123_0; first | rwa [add_block] at this | exact this) GW122.out); replace hx123_0 := (HB.out.cell (World.block_lt_of_cell? w _ hx123_0)).trans hx123_0; replace hx123_1 := (HB.out.cell (World.block_lt_of_cell? w _ hx123_1)).trans hx123_1; replace hx123_2 := (HB.out.cell (World.block_lt_of_cell? w _ hx123_2)).trans hx123_2; replace hx123_3 := (HB.out.cell (World.block_lt_of_cell? w _ hx123_3)).trans hx123_3; replace hx123_0 := (cell_far (p := ⟨gb122, 0, none⟩) (by first | (rw [add_block]; exact hn123_0) | (show (Addr.add _ _).block ≠ _; rw [add_block]; exact hn123_0) | exact hn123_0) (.string ((rd_T26 l0 x14_1).f0))).trans hx123_0; replace hx123_1 := (cell_far (p := ⟨gb122, 0, none⟩) (by first | (rw [add_block]; exact hn123_0) | (show (Addr.add _ _).block ≠ _; rw [add_block]; exact hn123_0) | exact hn123_0) (.string ((rd_T26 l0 x14_1).f0))).trans hx123_1; replace hx123_2 := (cell_far (p := ⟨gb122, 0, none⟩) (by first | (rw [add_block]; exact hn123_0) | (show (Addr.add _ _).block ≠ _; rw [add_block]; exact hn123_0) | exact hn123_0) (.string ((rd_T26 l0 x14_1).f0))).trans hx123_2; replace hx123_3 := (cell_far (p := ⟨gb122, 0, none⟩) (by first | (rw [add_block]; exact hn123_0) | (show (Addr.add _ _).block ≠ _; rw [add_block]; exact hn123_0) | exact hn123_0) (.string ((rd_T26 l0 x14_1).f0))).trans hx123_3; replace hx123_0 := (cell_far (p := ⟨gb122, 1, none⟩) (by first | (rw [add_block]; exact hn123_1) | (show (Addr.add _ _).block ≠ _; rw [add_block]; exact hn123_1) | exact hn123_1) (.int .i64 ((rd_T26 l0 x14_1).f1))).trans hx123_0; replace hx123_1 := (cell_far (p := ⟨gb122, 1, none⟩) (by first | (rw [add_block]; exact hn123_1) | (show (Addr.add _ _).block ≠ _; rw [add_block]; exact hn123_1) | exact hn123_1) (.int .i64 ((rd_T26 l0 x14_1).f1))).trans hx123_1; replace hx123_2 := (cell_far (p := ⟨gb122, 1, none⟩) (by first | (rw [add_block]; exact hn123_1) | (show (Addr.add _ _).block ≠ _; rw [add_block]; exact hn123_1) | exact hn123_1) (.int .i64 ((rd_T26 l0 x14_1).f1))).trans hx123_2; replace hx123_3 := (cell_far (p := ⟨gb122, 1, none⟩) (by first | (rw [add_block]; exact hn123_1) | (show (Addr.add _ _).block ≠ _; rw [add_block]; exact hn123_1) | exact hn123_1) (.int .i64 ((rd_T26 l0 x14_1).f1))).trans hx123_3; replace hx123_0 := (cell_far (p := ⟨gb122, 2, none⟩) (by first | (rw [add_block]; exact hn123_2) | (show (Addr.add _ _).block ≠ _; rw [add_block]; exact hn123_2) | exact hn123_2) (.int .i64 ((rd_T26 l0 x14_1).f2))).trans hx123_0; replace hx123_1 := (cell_far (p := ⟨gb122, 2, none⟩) (by first | (rw [add_block]; exact hn123_2) | (show (Addr.add _ _).block ≠ _; rw [add_block]; exact hn123_2) | exact hn123_2) (.int .i64 ((rd_T26 l0 x14_1).f2))).trans hx123_1; replace hx123_2 := (cell_far (p := ⟨gb122, 2, none⟩) (by first | (rw [add_block]; exact hn123_2) | (show (Addr.add _ _).block ≠ _; rw [add_block]; exact hn123_2) | exact hn123_2) (.int .i64 ((rd_T26 l0 x14_1).f2))).trans hx123_2; replace hx123_3 := (cell_far (p := ⟨gb122, 2, none⟩) (by first | (rw [add_block]; exact hn123_2) | (show (Addr.add _ _).block ≠ _; rw [add_block]; exact hn123_2) | exact hn123_2) (.int .i64 ((rd_T26 l0 x14_1).f2))).trans hx123_3; replace hx123_0 := (cell_far (p := ⟨gb122, 3, none⟩) (by first | (rw [add_block]; exact hn123_3) | (show (Addr.add _ _).block ≠ _; rw [add_block]; exact hn123_3) | exact hn123_3) (.string ((rd_T26 l0 x14_1).f3))).trans hx123_0; replace hx123_1 := (cell_far (p := ⟨gb122, 3, none⟩) (by first | (rw [add_block]; exact hn123_3) | (show (Addr.add _ _).block ≠ _; rw [add_block]; exact hn123_3) | exact hn123_3) (.string ((rd_T26 l0 x14_1).f3))).trans hx123_1; replace hx123_2 := (cell_far (p := ⟨gb122, 3, none⟩) (by first | (rw [add_block]; exact hn123_3) | (show (Addr.add _ _).block ≠ _; rw [add_block]; exact hn123_3) | exact hn123_3) (.string ((rd_T26 l0 x14_1).f3))).trans hx123_2; replace hx123_3 := (cell_far (p := ⟨gb122, 3, none⟩) (by first | (rw [add_block]; exact hn123_3) | (show (Addr.add _ _).block ≠ _; rw [add_block]; exact hn123_3) | exact hn123_3) (.string ((rd_T26 l0 x14_1).f3))).trans hx123_3; (try have hy123_0 := fun (n_ : Nat) => (show ((((((w11.drewN n_).setCell ⟨gb122, 0, none⟩ (.string ((rd_T26 l0 x14_1).f0))).setCell ⟨gb122, 1, none⟩ (.int .i64 ((rd_T26 l0 x14_1).f1))).setCell ⟨gb122, 2, none⟩ (.int .i64 ((rd_T26 l0 x14_1).f2))).setCell ⟨gb122, 3, none⟩ (.string ((rd_T26 l0 x14_1).f3)))).cell? _ = some _ from hx123_0)); (try have hy123_1 := fun (n_ : Nat) => (show ((((((w11.drewN n_).setCell ⟨gb122, 0, none⟩ (.string ((rd_T26 l0 x14_1).f0))).setCell ⟨gb122, 1, none⟩ (.int .i64 ((rd_T26 l0 x14_1).f1))).setCell ⟨gb122, 2, none⟩ (.int .i64 ((rd_T26 l0 x14_1).f2))).setCell ⟨gb122, 3, none⟩ (.string ((rd_T26 l0 x14_1).f3)))).cell? _ = some _ from hx123_1)); (try have hy123_2 := fun (n_ : Nat) => (show ((((((w11.drewN n_).setCell ⟨gb122, 0, none⟩ (.string ((rd_T26 l0 x14_1).f0))).setCell ⟨gb122, 1, none⟩ (.int .i64 ((rd_T26 l0 x14_1).f1))).setCell ⟨gb122, 2, none⟩ (.int .i64 ((rd_T26 l0 x14_1).f2))).setCell ⟨gb122, 3, none⟩ (.string ((rd_T26 l0 x14_1).f3)))).cell? _ = some _ from hx123_2)); (try have hy123_3 := fun (n_ : Nat) => (show ((((((w11.drewN n_).setCell ⟨gb122, 0, none⟩ (.string ((rd_T26 l0 x14_1).f0))).setCell ⟨gb122, 1, none⟩ (.int .i64 ((rd_T26 l0 x14_1).f1))).setCell ⟨gb122, 2, none⟩ (.int .i64 ((rd_T26 l0 x14_1).f2))).setCell ⟨gb122, 3, none⟩ (.string ((rd_T26 l0 x14_1).f3)))).cell? _ = some _ from hx123_3)); clear hn123_0; clear hn123_1; clear hn123_2; clear hn123_3; replace p123 := eq_true p123; replace q123 := eq_true q123)); try go_wp2_with (first | ((with_reducible refine gate_dst (N := 6) rfl ?_); refine box_event ?hg (N := 6) ?hd (cs := #[.string (⟨#[]⟩ : ByteArray), .int .i64 0, .int .i64 0, .string (⟨#[]⟩ : ByteArray)]) (t := 26) ?hr ?_; (case hd => rfl); (case hg => rfl); (case hr => first | (go_simp; done) | (go_simp; rfl)); intro gb122 hg w11 hbox hb; have n0_ := Aside0.mk (below_step (by repeat (first | (with_reducible first | exact HB.out | apply below_alloc | apply pw_below_drewN | apply below_drew1) | exact HB.out)) hb); have n1_ := Aside0.mk (hbox); have n2_ := Aside0.mk ((by rw [hg]; exact (below_size (by repeat (first | (with_reducible first | exact HB.out | apply below_alloc | apply pw_below_drewN | apply below_drew1) | exact HB.out))) : w.heap.size ≤ gb122)); have n3_ := Aside0.mk ((by rw [hg]; exact (below_size (by repeat (first | (with_reducible first | exact HB.out | apply below_alloc | apply pw_below_drewN | apply below_drew1) | exact HB.out))) : w.heap.size ≤ gb122)); clear HB; have HB := n0_; have BK122 := n1_; have GW122 := n2_; have GE122 := n3_; clear n0_ n1_ n2_ n3_; clear hb hbox hg; have hcz12_0 : w11.cell? ⟨gb122, 0, none⟩ = some (.string (⟨#[]⟩ : ByteArray)) := (blk_cell BK122.out 0).trans rfl; have hcz12_1 : w11.cell? ⟨gb122, 1, none⟩ = some (.int .i64 0) := (blk_cell BK122.out 1).trans rfl; have hcz12_2 : w11.cell? ⟨gb122, 2, none⟩ = some (.int .i64 0) := (blk_cell BK122.out 2).trans rfl; have hcz12_3 : w11.cell? ⟨gb122, 3, none⟩ = some (.string (⟨#[]⟩ : ByteArray)) := (blk_cell BK122.out 3).trans rfl; have hfz12_0 := blk_frozen BK122.out 0; have hfz12_1 := blk_frozen BK122.out 1; have hfz12_2 := blk_frozen BK122.out 2; have hfz12_3 := blk_frozen BK122.out 3; have p123 : 0 ≤ (x14_1 : Int) := of_decide_eq_true (by first | (with_reducible assumption) | assumption); have q123 : x14_1 < (l1.length : Int) := of_decide_eq_true (by first | (with_reducible assumption) | assumption); obtain ⟨ad123, e123, hx123_0, hx123_1, hx123_2, hx123_3⟩ := at_T26 HR1.out x14_1 p123 q123; cases e123; have hn123_0 : ad123.block ≠ gb122 := Nat.ne_of_lt (Nat.lt_of_lt_of_le (by have := World.block_lt_of_cell? _ _ hx123_0; first | rwa [add_block] at this | exact this) GW122.out); have hn123_1 : ad123.block ≠ gb122 := Nat.ne_of_lt (Nat.lt_of_lt_of_le (by have := World.block_lt_of_cell? _ _ hx123_0; first | rwa [add_block] at this | exact this) GW122.out); have hn123_2 : ad123.block ≠ gb122 := Nat.ne_of_lt (Nat.lt_of_lt_of_le (by have := World.block_lt_of_cell? _ _ hx123_0; first | rwa [add_block] at this | exact this) GW122.out); have hn123_3 : ad123.block ≠ gb122 := Nat.ne_of_lt (Nat.lt_of_lt_of_le (by have := World.block_lt_of_cell? _ _ hx123_0; first | rwa [add_block] at this | exact this) GW122.out); replace hx123_0 := (HB.out.cell (World.block_lt_of_cell? w _ hx123_0)).trans hx123_0; replace hx123_1 := (HB.out.cell (World.block_lt_of_cell? w _ hx123_1)).trans hx123_1; replace hx123_2 := (HB.out.cell (World.block_lt_of_cell? w _ hx123_2)).trans hx123_2; replace hx123_3 := (HB.out.cell (World.block_lt_of_cell? w _ hx123_3)).trans hx123_3; replace hx123_0 := (cell_far (p := ⟨gb122, 0, none⟩) (by first | (rw [add_block]; exact hn123_0) | (show (Addr.add _ _).block ≠ _; rw [add_block]; exact hn123_0) | exact hn123_0) (.string ((rd_T26 l0 x14_1).f0))).trans hx123_0; replace hx123_1 := (cell_far (p := ⟨gb122, 0, none⟩) (by first | (rw [add_block]; exact hn123_0) | (show (Addr.add _ _).block ≠ _; rw [add_block]; exact hn123_0) | exact hn123_0) (.string ((rd_T26 l0 x14_1).f0))).trans hx123_1; replace hx123_2 := (cell_far (p := ⟨gb122, 0, none⟩) (by first | (rw [add_block]; exact hn123_0) | (show (Addr.add _ _).block ≠ _; rw [add_block]; exact hn123_0) | exact hn123_0) (.string ((rd_T26 l0 x14_1).f0))).trans hx123_2; replace hx123_3 := (cell_far (p := ⟨gb122, 0, none⟩) (by first | (rw [add_block]; exact hn123_0) | (show (Addr.add _ _).block ≠ _; rw [add_block]; exact hn123_0) | exact hn123_0) (.string ((rd_T26 l0 x14_1).f0))).trans hx123_3; replace hx123_0 := (cell_far (p := ⟨gb122, 1, none⟩) (by first | (rw [add_block]; exact hn123_1) | (show (Addr.add _ _).block ≠ _; rw [add_block]; exact hn123_1) | exact hn123_1) (.int .i64 ((rd_T26 l0 x14_1).f1))).trans hx123_0; replace hx123_1 := (cell_far (p := ⟨gb122, 1, none⟩) (by first | (rw [add_block]; exact hn123_1) | (show (Addr.add _ _).block ≠ _; rw [add_block]; exact hn123_1) | exact hn123_1) (.int .i64 ((rd_T26 l0 x14_1).f1))).trans hx123_1; replace hx123_2 := (cell_far (p := ⟨gb122, 1, none⟩) (by first | (rw [add_block]; exact hn123_1) | (show (Addr.add _ _).block ≠ _; rw [add_block]; exact hn123_1) | exact hn123_1) (.int .i64 ((rd_T26 l0 x14_1).f1))).trans hx123_2; replace hx123_3 := (cell_far (p := ⟨gb122, 1, none⟩) (by first | (rw [add_block]; exact hn123_1) | (show (Addr.add _ _).block ≠ _; rw [add_block]; exact hn123_1) | exact hn123_1) (.int .i64 ((rd_T26 l0 x14_1).f1))).trans hx123_3; replace hx123_0 := (cell_far (p := ⟨gb122, 2, none⟩) (by first | (rw [add_block]; exact hn123_2) | (show (Addr.add _ _).block ≠ _; rw [add_block]; exact hn123_2) | exact hn123_2) (.int .i64 ((rd_T26 l0 x14_1).f2))).trans hx123_0; replace hx123_1 := (cell_far (p := ⟨gb122, 2, none⟩) (by first | (rw [add_block]; exact hn123_2) | (show (Addr.add _ _).block ≠ _; rw [add_block]; exact hn123_2) | exact hn123_2) (.int .i64 ((rd_T26 l0 x14_1).f2))).trans hx123_1; replace hx123_2 := (cell_far (p := ⟨gb122, 2, none⟩) (by first | (rw [add_block]; exact hn123_2) | (show (Addr.add _ _).block ≠ _; rw [add_block]; exact hn123_2) | exact hn123_2) (.int .i64 ((rd_T26 l0 x14_1).f2))).trans hx123_2; replace hx123_3 := (cell_far (p := ⟨gb122, 2, none⟩) (by first | (rw [add_block]; exact hn123_2) | (show (Addr.add _ _).block ≠ _; rw [add_block]; exact hn123_2) | exact hn123_2) (.int .i64 ((rd_T26 l0 x14_1).f2))).trans hx123_3; replace hx123_0 := (cell_far (p := ⟨gb122, 3, none⟩) (by first | (rw [add_block]; exact hn123_3) | (show (Addr.add _ _).block ≠ _; rw [add_block]; exact hn123_3) | exact hn123_3) (.string ((rd_T26 l0 x14_1).f3))).trans hx123_0; replace hx123_1 := (cell_far (p := ⟨gb122, 3, none⟩) (by first | (rw [add_block]; exact hn123_3) | (show (Addr.add _ _).block ≠ _; rw [add_block]; exact hn123_3) | exact hn123_3) (.string ((rd_T26 l0 x14_1).f3))).trans hx123_1; replace hx123_2 := (cell_far (p := ⟨gb122, 3, none⟩) (by first | (rw [add_block]; exact hn123_3) | (show (Addr.add _ _).block ≠ _; rw [add_block]; exact hn123_3) | exact hn123_3) (.string ((rd_T26 l0 x14_1).f3))).trans hx123_2; replace hx123_3 := (cell_far (p := ⟨gb122, 3, none⟩) (by first | (rw [add_block]; exact hn123_3) | (show (Addr.add _ _).block ≠ _; rw [add_block]; exact hn123_3) | exact hn123_3) (.string ((rd_T26 l0 x14_1).f3))).trans hx123_3; (try have hy123_0 := fun (n_ : Nat) => (show ((((((w11.drewN n_).setCell ⟨gb122, 0, none⟩ (.string ((rd_T26 l0 x14_1).f0))).setCell ⟨gb122, 1, none⟩ (.int .i64 ((rd_T26 l0 x14_1).f1))).setCell ⟨gb122, 2, none⟩ (.int .i64 ((rd_T26 l0 x14_1).f2))).setCell ⟨gb122, 3, none⟩ (.string ((rd_T26 l0 x14_1).f3)))).cell? _ = some _ from hx123_0)); (try have hy123_1 := fun (n_ : Nat) => (show ((((((w11.drewN n_).setCell ⟨gb122, 0, none⟩ (.string ((rd_T26 l0 x14_1).f0))).setCell ⟨gb122, 1, none⟩ (.int .i64 ((rd_T26 l0 x14_1).f1))).setCell ⟨gb122, 2, none⟩ (.int .i64 ((rd_T26 l0 x14_1).f2))).setCell ⟨gb122, 3, none⟩ (.string ((rd_T26 l0 x14_1).f3)))).cell? _ = some _ from hx123_1)); (try have hy123_2 := fun (n_ : Nat) => (show ((((((w11.drewN n_).setCell ⟨gb122, 0, none⟩ (.string ((rd_T26 l0 x14_1).f0))).setCell ⟨gb122, 1, none⟩ (.int .i64 ((rd_T26 l0 x14_1).f1))).setCell ⟨gb122, 2, none⟩ (.int .i64 ((rd_T26 l0 x14_1).f2))).setCell ⟨gb122, 3, none⟩ (.string ((rd_T26 l0 x14_1).f3)))).cell? _ = some _ from hx123_2)); (try have hy123_3 := fun (n_ : Nat) => (show ((((((w11.drewN n_).setCell ⟨gb122, 0, none⟩ (.string ((rd_T26 l0 x14_1).f0))).setCell ⟨gb122, 1, none⟩ (.int .i64 ((rd_T26 l0 x14_1).f1))).setCell ⟨gb122, 2, none⟩ (.int .i64 ((rd_T26 l0 x14_1).f2))).setCell ⟨gb122, 3, none⟩ (.string ((rd_T26 l0 x14_1).f3)))).cell? _ = some _ from hx123_3)); clear hn123_0; clear hn123_1; clear hn123_2; clear hn123_3; replace p123 := eq_true p123; replace q123 := eq_true q123)))
                  go_roundg k1
                  case measure => have := HK1.out; omega
                  case rel => exact ⟨(wrap64 (x14_1 + 1)), (by first | rfl | (simp; done) | (simp [*]; done)), H', ⟨by have := HK1.out; omega⟩, ⟨by repeat (first | (with_reducible first | exact HB.out | apply below_alloc | apply pw_below_drewN | apply below_drew1 | refine below_set ?_ GE122.out) | exact HB.out)⟩⟩
              · rw [if_neg c7] at H
                exact absurd H (by simp)
            · rw [if_neg c6] at H
              exact absurd H (by simp)
          · rw [if_neg c5] at H
            exact absurd H (by simp)
        · rw [if_neg c4] at H
          have c4b0 : decide (x14_1 < (l0.length : Int)) = false := decide_eq_false c4
          clear c4
          obtain rfl := Option.some.inj H
          go_wp2
          repeat (go_quiet (fail); try go_wp2)
          go_ret
          exact ⟨by first | rfl | (simp [errW_none, errW_some] <;> rfl) | (simp [*, errW_none, errW_some] <;> rfl), by repeat (first | (with_reducible first | exact HB.out | apply below_alloc | apply pw_below_drewN | apply below_drew1) | exact HB.out)⟩
  · rw [if_neg c3] at H
    have c3b0 : ((l0.length : Int) == (l1.length : Int)) = false := beq_eq_false_iff_ne.mpr c3
    have c3b1 : ((l0.length : Int) != (l1.length : Int)) = true := bne_iff_ne.mpr c3
    have c3b2 : (l0.length == l1.length) = false := by first | simpa using c3 | (simp at c3 ⊢; omega)
    obtain rfl := Option.some.inj H
    go_enter Try.func14, Try.ntmps14
    go_wp2
    repeat (go_quiet (fail); try go_wp2)
    go_ret
    exact ⟨by first | rfl | (simp [errW_none, errW_some] <;> rfl) | (simp [*, errW_none, errW_some] <;> rfl), by repeat (first | (with_reducible first | exact HB.out | apply below_alloc | apply pw_below_drewN | apply below_drew1) | exact HB.out)⟩

-- NOT PRINTED: function 28 (goprinter_go_scanner_ErrorList_Err)

-- GIVEN: function 15 (impl_HasError)

end Go.Proofs.Ytdmeackaiamkcaa.A
