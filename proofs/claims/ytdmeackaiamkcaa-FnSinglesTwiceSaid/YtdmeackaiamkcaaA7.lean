-- Written by a program of this session (gprint.py) out of the kit's print of the translation. Not trusted: Lean checks it.
import Derived.Test.YtdmeackaiamkcaaA0
import Derived.Test.YtdmeackaiamkcaaA2
import Derived.Test.YtdmeackaiamkcaaA4
import Derived.Test.YtdmeackaiamkcaaA5
import Derived.Test.YtdmeackaiamkcaaA6
import Derived.Test.YtdmeackaiamkcaaGSik
namespace Go.Proofs.Ytdmeackaiamkcaa.A
open Go.RowKit Go.Proofs.YtdmeackaiamkcaaW.PrintWords Go.Proofs.YtdmeackaiamkcaaW.PrintLast Go.Proofs.YtdmeackaiamkcaaW.PrintMore
attribute [local go_sem] max2_int min2_int max_two min_two max_three min_three max_four min_four   -- for this text's walks alone
set_option linter.unusedVariables false
set_option linter.unusedSimpArgs false

/-! ### laws_FnSingles: function 6 -/
mutual
def laws_FnSingles.l0 : Nat → List (S26) → List (S26) → List (S26) → Int → Int → Option (Bool)
  | 0, _, _, _, _, _ => none
  | k + 1, x0, x3, x19, x20, x21 => if x21 < x20 then (if 0 ≤ x21 then (if x21 < (x19.length : Int) then (laws_FnSingles.l1 k x0 x3 0 x19 x20 x21 x3 (x3.length : Int) 0 ((rd_T26 x19 x21).f0) ((rd_T26 x19 x21).f1) ((rd_T26 x19 x21).f2) ((rd_T26 x19 x21).f3)) else (none)) else (none)) else (laws_FnSingles.l2 k x0 x3 x3 (x3.length : Int) 0)
def laws_FnSingles.l1 : Nat → List (S26) → List (S26) → Int → List (S26) → Int → Int → List (S26) → Int → Int → ByteArray → Int → Int → ByteArray → Option (Bool)
  | 0, _, _, _, _, _, _, _, _, _, _, _, _, _ => none
  | k + 1, x0, x3, x6, x19, x20, x21, x25, x26, x27, x118000, x118001, x118002, x118003 => if x27 < x26 then (if 0 ≤ x27 then (if x27 < (x25.length : Int) then (if ((rd_T26 x25 x27).f0).toList = x118000.toList then (laws_FnSingles.j2 k x0 x3 x6 x19 x20 x21 x25 x26 x27 (((rd_T26 x25 x27).f1) == x118001) x118000 x118001 x118002 x118003 ((rd_T26 x25 x27).f0) ((rd_T26 x25 x27).f1) ((rd_T26 x25 x27).f2) ((rd_T26 x25 x27).f3)) else (laws_FnSingles.j2 k x0 x3 x6 x19 x20 x21 x25 x26 x27 false x118000 x118001 x118002 x118003 ((rd_T26 x25 x27).f0) ((rd_T26 x25 x27).f1) ((rd_T26 x25 x27).f2) ((rd_T26 x25 x27).f3))) else (none)) else (none)) else (if x6 = 1 then (laws_FnSingles.l0 k x0 x3 x19 x20 (wrap64 (x21 + 1))) else (some false))
def laws_FnSingles.j2 : Nat → List (S26) → List (S26) → Int → List (S26) → Int → Int → List (S26) → Int → Int → Bool → ByteArray → Int → Int → ByteArray → ByteArray → Int → Int → ByteArray → Option (Bool)
  | 0, _, _, _, _, _, _, _, _, _, _, _, _, _, _, _, _, _, _ => none
  | k + 1, x0, x3, x6, x19, x20, x21, x25, x26, x27, x42, x118000, x118001, x118002, x118003, x120000, x120001, x120002, x120003 => if x42 = true then (if x120002 > x118002 then (some false) else (laws_FnSingles.l1 k x0 x3 (wrap64 (x6 + 1)) x19 x20 x21 x25 x26 (wrap64 (x27 + 1)) x118000 x118001 x118002 x118003)) else (laws_FnSingles.l1 k x0 x3 x6 x19 x20 x21 x25 x26 (wrap64 (x27 + 1)) x118000 x118001 x118002 x118003)
def laws_FnSingles.l2 : Nat → List (S26) → List (S26) → List (S26) → Int → Int → Option (Bool)
  | 0, _, _, _, _, _ => none
  | k + 1, x0, x3, x54, x55, x56 => if x56 < x55 then (if 0 ≤ x56 then (if x56 < (x54.length : Int) then ((laws_times9.f k x0 ((rd_T26 x54 x56).f0) ((rd_T26 x54 x56).f1) ((rd_T26 x54 x56).f2) ((rd_T26 x54 x56).f3)).bind fun t122 => (if t122 = 0 then (some false) else (laws_FnSingles.l2 k x0 x3 x54 x55 (wrap64 (x56 + 1))))) else (none)) else (none)) else ((laws_isSorted9.f k x3).bind fun t123 => (some t123))
end
def laws_FnSingles.f (k : Nat) (l0 : List (S26)) : Option (Bool) := (laws_zzFits4.f k l0).bind fun t111 => (if t111 = true then ((laws_legal9.f k l0).bind fun t112 => (if t112 = true then ((impl_Singles.f l0).bind fun t113 => (laws_FnSingles.l0 k l0 t113 l0 (l0.length : Int) 0)) else (some true))) else (some true))
theorem laws_FnSingles.mono_l : ∀ k, (∀ y0 y1 y2 y3 y4, LeO (laws_FnSingles.l0 k y0 y1 y2 y3 y4) (laws_FnSingles.l0 (k + 1) y0 y1 y2 y3 y4)) ∧ (∀ y0 y1 y2 y3 y4 y5 y6 y7 y8 y9 y10 y11 y12, LeO (laws_FnSingles.l1 k y0 y1 y2 y3 y4 y5 y6 y7 y8 y9 y10 y11 y12) (laws_FnSingles.l1 (k + 1) y0 y1 y2 y3 y4 y5 y6 y7 y8 y9 y10 y11 y12)) ∧ (∀ y0 y1 y2 y3 y4 y5 y6 y7 y8 y9 y10 y11 y12 y13 y14 y15 y16 y17, LeO (laws_FnSingles.j2 k y0 y1 y2 y3 y4 y5 y6 y7 y8 y9 y10 y11 y12 y13 y14 y15 y16 y17) (laws_FnSingles.j2 (k + 1) y0 y1 y2 y3 y4 y5 y6 y7 y8 y9 y10 y11 y12 y13 y14 y15 y16 y17)) ∧ (∀ y0 y1 y2 y3 y4, LeO (laws_FnSingles.l2 k y0 y1 y2 y3 y4) (laws_FnSingles.l2 (k + 1) y0 y1 y2 y3 y4))
  | 0 => ⟨fun _ _ _ _ _ r h => by simp [laws_FnSingles.l0] at h, fun _ _ _ _ _ _ _ _ _ _ _ _ _ r h => by simp [laws_FnSingles.l1] at h, fun _ _ _ _ _ _ _ _ _ _ _ _ _ _ _ _ _ _ r h => by simp [laws_FnSingles.j2] at h, fun _ _ _ _ _ r h => by simp [laws_FnSingles.l2] at h⟩
  | k + 1 => by
    obtain ⟨ih0, ih1, ih2, ih3⟩ := laws_FnSingles.mono_l k
    refine ⟨?_, ?_, ?_, ?_⟩
    · intro y0 y1 y2 y3 y4
      unfold laws_FnSingles.l0
      repeat' first
      | (with_reducible exact ih0 _ _ _ _ _)
      | (with_reducible exact ih1 _ _ _ _ _ _ _ _ _ _ _ _ _)
      | (with_reducible exact ih2 _ _ _ _ _ _ _ _ _ _ _ _ _ _ _ _ _ _)
      | (with_reducible exact ih3 _ _ _ _ _)
      | (with_reducible exact laws_isSorted9.mono _ _)
      | (with_reducible exact laws_legal9.mono _ _)
      | (with_reducible exact laws_times9.mono _ _ _ _ _ _)
      | (with_reducible exact laws_zzFits4.mono _ _)
      | (with_reducible exact LeO.refl _)
      | (with_reducible exact LeO.none _)
      | (with_reducible refine LeO.ite ?_ ?_)
      | (with_reducible refine LeO.bind ?_ (fun _ => ?_))
      | exact ih0 _ _ _ _ _
      | exact ih1 _ _ _ _ _ _ _ _ _ _ _ _ _
      | exact ih2 _ _ _ _ _ _ _ _ _ _ _ _ _ _ _ _ _ _
      | exact ih3 _ _ _ _ _
      | exact laws_isSorted9.mono _ _
      | exact laws_legal9.mono _ _
      | exact laws_times9.mono _ _ _ _ _ _
      | exact laws_zzFits4.mono _ _
      | exact LeO.none _
      | refine LeO.ite ?_ ?_
      | refine LeO.bind ?_ (fun _ => ?_)
    · intro y0 y1 y2 y3 y4 y5 y6 y7 y8 y9 y10 y11 y12
      unfold laws_FnSingles.l1
      repeat' first
      | (with_reducible exact ih0 _ _ _ _ _)
      | (with_reducible exact ih1 _ _ _ _ _ _ _ _ _ _ _ _ _)
      | (with_reducible exact ih2 _ _ _ _ _ _ _ _ _ _ _ _ _ _ _ _ _ _)
      | (with_reducible exact ih3 _ _ _ _ _)
      | (with_reducible exact laws_isSorted9.mono _ _)
      | (with_reducible exact laws_legal9.mono _ _)
      | (with_reducible exact laws_times9.mono _ _ _ _ _ _)
      | (with_reducible exact laws_zzFits4.mono _ _)
      | (with_reducible exact LeO.refl _)
      | (with_reducible exact LeO.none _)
      | (with_reducible refine LeO.ite ?_ ?_)
      | (with_reducible refine LeO.bind ?_ (fun _ => ?_))
      | exact ih0 _ _ _ _ _
      | exact ih1 _ _ _ _ _ _ _ _ _ _ _ _ _
      | exact ih2 _ _ _ _ _ _ _ _ _ _ _ _ _ _ _ _ _ _
      | exact ih3 _ _ _ _ _
      | exact laws_isSorted9.mono _ _
      | exact laws_legal9.mono _ _
      | exact laws_times9.mono _ _ _ _ _ _
      | exact laws_zzFits4.mono _ _
      | exact LeO.none _
      | refine LeO.ite ?_ ?_
      | refine LeO.bind ?_ (fun _ => ?_)
    · intro y0 y1 y2 y3 y4 y5 y6 y7 y8 y9 y10 y11 y12 y13 y14 y15 y16 y17
      unfold laws_FnSingles.j2
      repeat' first
      | (with_reducible exact ih0 _ _ _ _ _)
      | (with_reducible exact ih1 _ _ _ _ _ _ _ _ _ _ _ _ _)
      | (with_reducible exact ih2 _ _ _ _ _ _ _ _ _ _ _ _ _ _ _ _ _ _)
      | (with_reducible exact ih3 _ _ _ _ _)
      | (with_reducible exact laws_isSorted9.mono _ _)
      | (with_reducible exact laws_legal9.mono _ _)
      | (with_reducible exact laws_times9.mono _ _ _ _ _ _)
      | (with_reducible exact laws_zzFits4.mono _ _)
      | (with_reducible exact LeO.refl _)
      | (with_reducible exact LeO.none _)
      | (with_reducible refine LeO.ite ?_ ?_)
      | (with_reducible refine LeO.bind ?_ (fun _ => ?_))
      | exact ih0 _ _ _ _ _
      | exact ih1 _ _ _ _ _ _ _ _ _ _ _ _ _
      | exact ih2 _ _ _ _ _ _ _ _ _ _ _ _ _ _ _ _ _ _
      | exact ih3 _ _ _ _ _
      | exact laws_isSorted9.mono _ _
      | exact laws_legal9.mono _ _
      | exact laws_times9.mono _ _ _ _ _ _
      | exact laws_zzFits4.mono _ _
      | exact LeO.none _
      | refine LeO.ite ?_ ?_
      | refine LeO.bind ?_ (fun _ => ?_)
    · intro y0 y1 y2 y3 y4
      unfold laws_FnSingles.l2
      repeat' first
      | (with_reducible exact ih0 _ _ _ _ _)
      | (with_reducible exact ih1 _ _ _ _ _ _ _ _ _ _ _ _ _)
      | (with_reducible exact ih2 _ _ _ _ _ _ _ _ _ _ _ _ _ _ _ _ _ _)
      | (with_reducible exact ih3 _ _ _ _ _)
      | (with_reducible exact laws_isSorted9.mono _ _)
      | (with_reducible exact laws_legal9.mono _ _)
      | (with_reducible exact laws_times9.mono _ _ _ _ _ _)
      | (with_reducible exact laws_zzFits4.mono _ _)
      | (with_reducible exact LeO.refl _)
      | (with_reducible exact LeO.none _)
      | (with_reducible refine LeO.ite ?_ ?_)
      | (with_reducible refine LeO.bind ?_ (fun _ => ?_))
      | exact ih0 _ _ _ _ _
      | exact ih1 _ _ _ _ _ _ _ _ _ _ _ _ _
      | exact ih2 _ _ _ _ _ _ _ _ _ _ _ _ _ _ _ _ _ _
      | exact ih3 _ _ _ _ _
      | exact laws_isSorted9.mono _ _
      | exact laws_legal9.mono _ _
      | exact laws_times9.mono _ _ _ _ _ _
      | exact laws_zzFits4.mono _ _
      | exact LeO.none _
      | refine LeO.ite ?_ ?_
      | refine LeO.bind ?_ (fun _ => ?_)
theorem laws_FnSingles.mono : ∀ a0 k, LeO (laws_FnSingles.f k a0) (laws_FnSingles.f (k + 1) a0) := by
  intro a0 k
  obtain ⟨ih0, ih1, ih2, ih3⟩ := laws_FnSingles.mono_l k
  unfold laws_FnSingles.f
  repeat' first
      | (with_reducible exact ih0 _ _ _ _ _)
      | (with_reducible exact ih1 _ _ _ _ _ _ _ _ _ _ _ _ _)
      | (with_reducible exact ih2 _ _ _ _ _ _ _ _ _ _ _ _ _ _ _ _ _ _)
      | (with_reducible exact ih3 _ _ _ _ _)
      | (with_reducible exact laws_isSorted9.mono _ _)
      | (with_reducible exact laws_legal9.mono _ _)
      | (with_reducible exact laws_times9.mono _ _ _ _ _ _)
      | (with_reducible exact laws_zzFits4.mono _ _)
      | (with_reducible exact LeO.refl _)
      | (with_reducible exact LeO.none _)
      | (with_reducible refine LeO.ite ?_ ?_)
      | (with_reducible refine LeO.bind ?_ (fun _ => ?_))
      | exact ih0 _ _ _ _ _
      | exact ih1 _ _ _ _ _ _ _ _ _ _ _ _ _
      | exact ih2 _ _ _ _ _ _ _ _ _ _ _ _ _ _ _ _ _ _
      | exact ih3 _ _ _ _ _
      | exact laws_isSorted9.mono _ _
      | exact laws_legal9.mono _ _
      | exact laws_times9.mono _ _ _ _ _ _
      | exact laws_zzFits4.mono _ _
      | exact LeO.none _
      | refine LeO.ite ?_ ?_
      | refine LeO.bind ?_ (fun _ => ?_)
set_option maxHeartbeats 8000000 in
set_option maxRecDepth 100000 in
theorem laws_FnSingles.calls (k : Nat) (A0 : Option Addr) (c0 : Nat) (l0 : List (S26)) (r : Bool) (w : World) (hr0 : Kd.C k26 w A0 l0.length l0) (hc0 : l0.length ≤ c0) (h : laws_FnSingles.f k l0 = some r) :
    Calls Try.prog 6 #[.slice A0 l0.length c0] w fun e w' => e = .returned (.bool r) ∧ Below w.heap.size w w' := by
  have hu26 := Try.underlying26
  have HR0 := Aside0.mk hr0
  have HC0 := Aside0.mk hc0
  clear hr0 hc0
  have HB := Aside0.mk (Below.refl w.heap.size w)
  have H : ((laws_zzFits4.f k l0).bind fun t111 => (if t111 = true then ((laws_legal9.f k l0).bind fun t112 => (if t112 = true then ((impl_Singles.f l0).bind fun t113 => (laws_FnSingles.l0 k l0 t113 l0 (l0.length : Int) 0)) else (some true))) else (some true))) = some r := h
  clear h
  replace H := Option.bind_eq_some_iff.mp H
  obtain ⟨t111, A20, H⟩ := H
  replace H : (if t111 = true then ((laws_legal9.f k l0).bind fun t112 => (if t112 = true then ((impl_Singles.f l0).bind fun t113 => (laws_FnSingles.l0 k l0 t113 l0 (l0.length : Int) 0)) else (some true))) else (some true)) = some r := H
  have A2 := Aside0.mk A20
  clear A20
  by_cases c3 : t111 = true
  · subst c3
    have H1 : ((laws_legal9.f k l0).bind fun t112 => (if t112 = true then ((impl_Singles.f l0).bind fun t113 => (laws_FnSingles.l0 k l0 t113 l0 (l0.length : Int) 0)) else (some true))) = some r := by rw [if_pos rfl] at H; exact H
    clear H
    have H := H1
    clear H1
    replace H := Option.bind_eq_some_iff.mp H
    obtain ⟨t112, A40, H⟩ := H
    replace H : (if t112 = true then ((impl_Singles.f l0).bind fun t113 => (laws_FnSingles.l0 k l0 t113 l0 (l0.length : Int) 0)) else (some true)) = some r := H
    have A4 := Aside0.mk A40
    clear A40
    by_cases c5 : t112 = true
    · subst c5
      have H1 : ((impl_Singles.f l0).bind fun t113 => (laws_FnSingles.l0 k l0 t113 l0 (l0.length : Int) 0)) = some r := by rw [if_pos rfl] at H; exact H
      clear H
      have H := H1
      clear H1
      replace H := Option.bind_eq_some_iff.mp H
      obtain ⟨t113, A60, H⟩ := H
      replace H : (laws_FnSingles.l0 k l0 t113 l0 (l0.length : Int) 0) = some r := H
      have A6 := Aside0.mk A60
      clear A60
      have H' := Aside0.mk H
      clear H
      go_enter Try.func6, Try.ntmps6
      go_wp2_with (first | ((with_reducible refine gate_callee (f := 8) rfl ?_); refine goesL_ (some 12) rfl rfl Try.func8 (by kernel_rfl) rfl #[.slice A0 l0.length c0] rfl (by (try simp only [List.map_toArray, List.map_cons, List.map_nil]); first | done | rfl | (simp only [List.length_drop, List.length_take]; rfl)) ?_; (with_reducible refine (laws_zzFits4.calls k _ _ l0 true _ ?side1 ?side2 A2.out).mono ?_); (case side1 => repeat (first | exact HR0.out | (with_reducible refine Kd.C_alloc ?_ _) | (with_reducible refine Kd.C_drewN ?_ _) | (with_reducible refine Kd.C_drew ?_))); (case side2 => exact HC0.out); rintro e w7 ⟨rfl, hb⟩; refine ⟨_, rfl, ?_⟩; have n0_ := Aside0.mk (below_step (by repeat (first | (with_reducible first | exact HB.out | apply below_alloc | apply pw_below_drewN | apply below_drew1) | exact HB.out)) hb); clear HB; have HB := n0_; clear n0_; (try clear hb); (try clear hb2); (try clear hk); (try clear hi)) | ((with_reducible refine gate_callee (f := 19) rfl ?_); refine goesL_ (some 15) rfl rfl Try.func19 (by kernel_rfl) rfl #[.slice A0 l0.length c0] rfl (by (try simp only [List.map_toArray, List.map_cons, List.map_nil]); first | done | rfl | (simp only [List.length_drop, List.length_take]; rfl)) ?_; (with_reducible refine (laws_legal9.calls k _ _ l0 true _ ?side1 ?side2 A4.out).mono ?_); (case side1 => repeat (first | exact (Kd.C_below HR0.out HB.out) | (with_reducible refine Kd.C_alloc ?_ _) | (with_reducible refine Kd.C_drewN ?_ _) | (with_reducible refine Kd.C_drew ?_))); (case side2 => exact HC0.out); rintro e w8 ⟨rfl, hb⟩; refine ⟨_, rfl, ?_⟩; have n0_ := Aside0.mk (below_step (by repeat (first | (with_reducible first | exact HB.out | apply below_alloc | apply pw_below_drewN | apply below_drew1) | exact HB.out)) hb); clear HB; have HB := n0_; clear n0_; (try clear hb); (try clear hb2); (try clear hk); (try clear hi)) | ((with_reducible refine gate_callee (f := 20) rfl ?_); refine goesL_ (some 18) rfl rfl Try.func20 (by kernel_rfl) rfl #[.slice A0 l0.length c0] rfl (by (try simp only [List.map_toArray, List.map_cons, List.map_nil]); first | done | rfl | (simp only [List.length_drop, List.length_take]; rfl)) ?_; (with_reducible refine (impl_Singles.calls _ _ l0 t113 _ ?side1 ?side2 A6.out).mono ?_); (case side1 => repeat (first | exact (Kd.C_below HR0.out HB.out) | (with_reducible refine Kd.C_alloc ?_ _) | (with_reducible refine Kd.C_drewN ?_ _) | (with_reducible refine Kd.C_drew ?_))); (case side2 => exact HC0.out); rintro e w9 ⟨v114, rfl, ho0, hb⟩; refine ⟨_, rfl, ?_⟩; have n0_ := Aside0.mk (Kd.R_lower ho0 (below_size (by repeat (first | (with_reducible first | exact HB.out | apply below_alloc | apply pw_below_drewN | apply below_drew1) | exact HB.out)))); have n1_ := Aside0.mk (below_step (by repeat (first | (with_reducible first | exact HB.out | apply below_alloc | apply pw_below_drewN | apply below_drew1) | exact HB.out)) hb); clear HB; have HO115 := n0_; have HB := n1_; clear n0_ n1_; (try clear hb); (try clear hb2); (try clear hk); (try clear hi); (try clear ho0)))
      go_loopg [21] k (fun kq v21 w' => ∃ (x21_1 : Int), v21 = .int .i64 x21_1 ∧ Aside0 (laws_FnSingles.l0 kq l0 t113 l0 (l0.length : Int) x21_1 = some r) ∧ Aside0 (kq ≤ k) ∧ Aside0 (Kd.R k26 26 w' w.heap.size (fun _ => True) v114 t113) ∧ Aside0 (Below w.heap.size w w'))
      case atStart => exact ⟨(0), (by first | rfl | (simp; done) | (simp [*]; done)), H', ⟨Nat.le_refl _⟩, ⟨by (with_reducible repeat (first | apply Kd.R_alloc | apply Kd.R_drewN | apply Kd.R_drew)); exact HO115.out⟩, ⟨by repeat (first | (with_reducible first | exact HB.out | apply below_alloc | apply pw_below_drewN | apply below_drew1) | exact HB.out)⟩⟩
      case round =>
        clear H'
        try clear c1
        try clear c2
        try clear p2
        try clear c3
        try clear c5
        try clear c6
        try clear c8
        obtain ⟨x21_1, rfl, HA, HK1, HO_3, HB⟩ := hrel
        cases gk with
        | zero => exact absurd HA.out (by simp [laws_FnSingles.l0])
        | succ k1 =>
          have H := HA.out
          clear HA
          simp only [laws_FnSingles.l0] at H
          by_cases c10 : x21_1 < (l0.length : Int)
          · rw [if_pos c10] at H
            have c10b0 : decide (x21_1 < (l0.length : Int)) = true := decide_eq_true c10
            clear c10
            by_cases c11 : 0 ≤ x21_1
            · rw [if_pos c11] at H
              have c11b0 : decide (0 ≤ x21_1) = true := decide_eq_true c11
              clear c11
              by_cases c12 : x21_1 < (l0.length : Int)
              · rw [if_pos c12] at H
                have c12b0 : decide (x21_1 < (l0.length : Int)) = true := decide_eq_true c12
                clear c12
                have H' := Aside0.mk H
                clear H
                have p116 : 0 ≤ (x21_1 : Int) := of_decide_eq_true (by first | (with_reducible assumption) | assumption)
                have q116 : x21_1 < (l0.length : Int) := of_decide_eq_true (by first | (with_reducible assumption) | assumption)
                obtain ⟨ad116, e116, hx116_0, hx116_1, hx116_2, hx116_3⟩ := at_T26 HR0.out x21_1 p116 q116
                cases e116
                replace hx116_0 := (HB.out.cell (World.block_lt_of_cell? w _ hx116_0)).trans hx116_0
                replace hx116_1 := (HB.out.cell (World.block_lt_of_cell? w _ hx116_1)).trans hx116_1
                replace hx116_2 := (HB.out.cell (World.block_lt_of_cell? w _ hx116_2)).trans hx116_2
                replace hx116_3 := (HB.out.cell (World.block_lt_of_cell? w _ hx116_3)).trans hx116_3
                replace p116 := eq_true p116
                replace q116 := eq_true q116
                go_wp2_with (first | ((with_reducible refine gate_dst (N := 5) rfl ?_); refine box_event ?hg (N := 5) ?hd (cs := #[.string (⟨#[]⟩ : ByteArray), .int .i64 0, .int .i64 0, .string (⟨#[]⟩ : ByteArray)]) (t := 26) ?hr ?_; (case hd => rfl); (case hg => rfl); (case hr => first | (go_simp; done) | (go_simp; rfl)); intro gb117 hg w13 hbox hb; have n0_ := Aside0.mk (Kd.R_below (Kd.R_elderB (by (with_reducible repeat (first | apply Kd.R_alloc | apply Kd.R_drewN | apply Kd.R_drew)); exact HO_3.out) gb117 (Nat.le_of_eq hg.symm)) hb); have n1_ := Aside0.mk (below_step (by repeat (first | (with_reducible first | exact HB.out | apply below_alloc | apply pw_below_drewN | apply below_drew1) | exact HB.out)) hb); have n2_ := Aside0.mk (hbox); have n3_ := Aside0.mk ((by rw [hg]; exact (below_size (by repeat (first | (with_reducible first | exact HB.out | apply below_alloc | apply pw_below_drewN | apply below_drew1) | exact HB.out))) : w.heap.size ≤ gb117)); have n4_ := Aside0.mk ((by rw [hg]; exact (below_size (by repeat (first | (with_reducible first | exact HB.out | apply below_alloc | apply pw_below_drewN | apply below_drew1) | exact HB.out))) : w.heap.size ≤ gb117)); clear HO_3; clear HB; have HO_3 := n0_; have HB := n1_; have BK117 := n2_; have GW117 := n3_; have GE117 := n4_; clear n0_ n1_ n2_ n3_ n4_; clear hb hbox hg; have hcz14_0 : w13.cell? ⟨gb117, 0, none⟩ = some (.string (⟨#[]⟩ : ByteArray)) := (blk_cell BK117.out 0).trans rfl; have hcz14_1 : w13.cell? ⟨gb117, 1, none⟩ = some (.int .i64 0) := (blk_cell BK117.out 1).trans rfl; have hcz14_2 : w13.cell? ⟨gb117, 2, none⟩ = some (.int .i64 0) := (blk_cell BK117.out 2).trans rfl; have hcz14_3 : w13.cell? ⟨gb117, 3, none⟩ = some (.string (⟨#[]⟩ : ByteArray)) := (blk_cell BK117.out 3).trans rfl; have hfz14_0 := blk_frozen BK117.out 0; have hfz14_1 := blk_frozen BK117.out 1; have hfz14_2 := blk_frozen BK117.out 2; have hfz14_3 := blk_frozen BK117.out 3; obtain ⟨Ao15, co15, eo15⟩ := Kd.R_slice HO_3.out; subst eo15))
                go_loopg [6, 27] k1 (fun kq v6 v27 w' => ∃ (x6_2 : Int) (x27_2 : Int), v6 = .int .i64 x6_2 ∧ v27 = .int .i64 x27_2 ∧ Aside0 (laws_FnSingles.l1 kq l0 t113 x6_2 l0 (l0.length : Int) x21_1 t113 (t113.length : Int) x27_2 ((rd_T26 l0 x21_1).f0) ((rd_T26 l0 x21_1).f1) ((rd_T26 l0 x21_1).f2) ((rd_T26 l0 x21_1).f3) = some r) ∧ Aside0 (kq ≤ k1) ∧ Aside0 (Kd.R k26 26 w' w.heap.size (fun k_ => k_ ≠ gb117) (.slice Ao15 t113.length co15) t113) ∧ Aside0 (Kd.R k26 26 w' w.heap.size (fun k_ => k_ ≠ gb117) (.slice Ao15 t113.length co15) t113) ∧ Aside0 (w'.heap[gb117]? = some (.cells #[.string ((rd_T26 l0 x21_1).f0), .int .i64 ((rd_T26 l0 x21_1).f1), .int .i64 ((rd_T26 l0 x21_1).f2), .string ((rd_T26 l0 x21_1).f3)] 26 (0, 0))) ∧ Aside0 (Below w.heap.size w w'))
                case atStart => exact ⟨(0), (0), (by first | rfl | (simp; done) | (simp [*]; done)), (by first | rfl | (simp; done) | (simp [*]; done)), H', ⟨Nat.le_refl _⟩, ⟨by (with_reducible repeat (first | apply Kd.R_alloc | apply Kd.R_drewN | apply Kd.R_drew)); exact Kd.R_mono (Kd.R_far (p := ⟨gb117, 3, none⟩) (Kd.R_far (p := ⟨gb117, 2, none⟩) (Kd.R_far (p := ⟨gb117, 1, none⟩) (Kd.R_far (p := ⟨gb117, 0, none⟩) (Kd.R_mono HO_3.out (fun k_ hk => (⟨hk, hk.2⟩ : _ ∧ k_ ≠ gb117))) (fun _ hk => hk.2) (.string ((rd_T26 l0 x21_1).f0))) (fun _ hk => hk.2) (.int .i64 ((rd_T26 l0 x21_1).f1))) (fun _ hk => hk.2) (.int .i64 ((rd_T26 l0 x21_1).f2))) (fun _ hk => hk.2) (.string ((rd_T26 l0 x21_1).f3))) (fun _ hk => hk.1.2)⟩, ⟨by (with_reducible repeat (first | apply Kd.R_alloc | apply Kd.R_drewN | apply Kd.R_drew)); exact Kd.R_mono (Kd.R_far (p := ⟨gb117, 3, none⟩) (Kd.R_far (p := ⟨gb117, 2, none⟩) (Kd.R_far (p := ⟨gb117, 1, none⟩) (Kd.R_far (p := ⟨gb117, 0, none⟩) (Kd.R_mono HO_3.out (fun k_ hk => (⟨hk, hk.2⟩ : _ ∧ k_ ≠ gb117))) (fun _ hk => hk.2) (.string ((rd_T26 l0 x21_1).f0))) (fun _ hk => hk.2) (.int .i64 ((rd_T26 l0 x21_1).f1))) (fun _ hk => hk.2) (.int .i64 ((rd_T26 l0 x21_1).f2))) (fun _ hk => hk.2) (.string ((rd_T26 l0 x21_1).f3))) (fun _ hk => hk.1.2)⟩, ⟨by (with_reducible repeat (first | refine blk_drewN ?_ _ | refine blk_drew ?_ | refine blk_alloc ?_ _)); refine blk_put (cs := #[.string ((rd_T26 l0 x21_1).f0), .int .i64 ((rd_T26 l0 x21_1).f1), .int .i64 ((rd_T26 l0 x21_1).f2), .string (⟨#[]⟩ : ByteArray)]) ?_ 3 _ rfl; (with_reducible repeat (first | refine blk_drewN ?_ _ | refine blk_drew ?_ | refine blk_alloc ?_ _)); refine blk_put (cs := #[.string ((rd_T26 l0 x21_1).f0), .int .i64 ((rd_T26 l0 x21_1).f1), .int .i64 0, .string (⟨#[]⟩ : ByteArray)]) ?_ 2 _ rfl; (with_reducible repeat (first | refine blk_drewN ?_ _ | refine blk_drew ?_ | refine blk_alloc ?_ _)); refine blk_put (cs := #[.string ((rd_T26 l0 x21_1).f0), .int .i64 0, .int .i64 0, .string (⟨#[]⟩ : ByteArray)]) ?_ 1 _ rfl; (with_reducible repeat (first | refine blk_drewN ?_ _ | refine blk_drew ?_ | refine blk_alloc ?_ _)); refine blk_put (cs := #[.string (⟨#[]⟩ : ByteArray), .int .i64 0, .int .i64 0, .string (⟨#[]⟩ : ByteArray)]) ?_ 0 _ rfl; (with_reducible repeat (first | refine blk_drewN ?_ _ | refine blk_drew ?_ | refine blk_alloc ?_ _)); exact BK117.out⟩, ⟨by repeat (first | (with_reducible first | exact HB.out | apply below_alloc | apply pw_below_drewN | apply below_drew1 | refine below_set ?_ GE117.out) | exact HB.out)⟩⟩
                case round =>
                  clear H'
                  try clear c1
                  try clear p1
                  try clear q1
                  try clear hx1
                  try clear c2
                  try clear p2
                  try clear c3
                  try clear c5
                  try clear c6
                  try clear c8
                  try clear c10
                  try clear c10b0
                  try clear c11
                  try clear c11b0
                  try clear p11
                  try clear q11
                  try clear hx11
                  try clear c12
                  try clear c12b0
                  try clear hcz14_0
                  try clear hcz14_1
                  try clear hcz14_2
                  try clear hcz14_3
                  try clear hfz14_0
                  try clear hfz14_1
                  try clear hfz14_2
                  try clear hfz14_3
                  try clear hx116_0
                  try clear hx116_1
                  try clear hx116_2
                  try clear hx116_3
                  try clear p116
                  try clear p2
                  try clear q116
                  obtain ⟨x6_2, x27_2, rfl, rfl, HA, HK2, HO_3, HO_25, BK117, HB⟩ := hrel
                  cases gk with
                  | zero => exact absurd HA.out (by simp [laws_FnSingles.l1])
                  | succ k2 =>
                    have H := HA.out
                    clear HA
                    simp only [laws_FnSingles.l1] at H
                    by_cases c16 : x27_2 < (t113.length : Int)
                    · rw [if_pos c16] at H
                      have c16b0 : decide (x27_2 < (t113.length : Int)) = true := decide_eq_true c16
                      clear c16
                      by_cases c17 : 0 ≤ x27_2
                      · rw [if_pos c17] at H
                        have c17b0 : decide (0 ≤ x27_2) = true := decide_eq_true c17
                        clear c17
                        by_cases c18 : x27_2 < (t113.length : Int)
                        · rw [if_pos c18] at H
                          have c18b0 : decide (x27_2 < (t113.length : Int)) = true := decide_eq_true c18
                          clear c18
                          have HC19 := Aside0.mk H
                          clear H
                          have p118 : 0 ≤ (x27_2 : Int) := of_decide_eq_true (by first | (with_reducible assumption) | assumption)
                          have q118 : x27_2 < (t113.length : Int) := of_decide_eq_true (by first | (with_reducible assumption) | assumption)
                          obtain ⟨ad118, e118, hx118_0, hx118_1, hx118_2, hx118_3⟩ := at_T26 (Kd.R_reads' HO_25.out).2.2 x27_2 p118 q118
                          cases e118
                          replace p118 := eq_true p118
                          replace q118 := eq_true q118
                          go_upto_region 13 with (first | ((with_reducible refine gate_dst (N := 8) rfl ?_); refine box_event ?hg (N := 8) ?hd (cs := #[.string (⟨#[]⟩ : ByteArray), .int .i64 0, .int .i64 0, .string (⟨#[]⟩ : ByteArray)]) (t := 26) ?hr ?_; (case hd => rfl); (case hg => rfl); (case hr => first | (go_simp; done) | (go_simp; rfl)); intro gb119 hg w20 hbox hb; have n0_ := Aside0.mk (Kd.R_below (Kd.R_elderB (by (with_reducible repeat (first | apply Kd.R_alloc | apply Kd.R_drewN | apply Kd.R_drew)); exact HO_3.out) gb119 (Nat.le_of_eq hg.symm)) hb); have n1_ := Aside0.mk (Kd.R_below (Kd.R_elderB (by (with_reducible repeat (first | apply Kd.R_alloc | apply Kd.R_drewN | apply Kd.R_drew)); exact HO_25.out) gb119 (Nat.le_of_eq hg.symm)) hb); have n2_ := Aside0.mk (blk_below (g := gb117) (o := .cells #[.string ((rd_T26 l0 x21_1).f0), .int .i64 ((rd_T26 l0 x21_1).f1), .int .i64 ((rd_T26 l0 x21_1).f2), .string ((rd_T26 l0 x21_1).f3)] 26 (0, 0)) (by (with_reducible repeat (first | refine blk_drewN ?_ _ | refine blk_drew ?_ | refine blk_alloc ?_ _)); exact BK117.out) hb); have n3_ := Aside0.mk (below_step (by repeat (first | (with_reducible first | exact HB.out | apply below_alloc | apply pw_below_drewN | apply below_drew1 | refine below_set ?_ GE117.out) | exact HB.out)) hb); have n4_ := Aside0.mk (hbox); have n5_ := Aside0.mk ((by rw [hg]; exact (below_size (by repeat (first | (with_reducible first | exact HB.out | apply below_alloc | apply pw_below_drewN | apply below_drew1 | refine below_set ?_ GE117.out) | exact HB.out))) : w.heap.size ≤ gb119)); have n6_ := Aside0.mk ((by rw [hg]; exact (below_size (by repeat (first | (with_reducible first | exact HB.out | apply below_alloc | apply pw_below_drewN | apply below_drew1 | refine below_set ?_ GE117.out) | exact HB.out))) : w.heap.size ≤ gb119)); have n7_ := Aside0.mk ((by rw [hg]; exact Nat.ne_of_lt (blk_lt (g := gb117) (o := .cells #[.string ((rd_T26 l0 x21_1).f0), .int .i64 ((rd_T26 l0 x21_1).f1), .int .i64 ((rd_T26 l0 x21_1).f2), .string ((rd_T26 l0 x21_1).f3)] 26 (0, 0)) (by (with_reducible repeat (first | refine blk_drewN ?_ _ | refine blk_drew ?_ | refine blk_alloc ?_ _)); exact BK117.out)) : gb117 ≠ gb119)); have n8_ := Aside0.mk ((by rw [hg]; exact Nat.ne_of_gt (blk_lt (g := gb117) (o := .cells #[.string ((rd_T26 l0 x21_1).f0), .int .i64 ((rd_T26 l0 x21_1).f1), .int .i64 ((rd_T26 l0 x21_1).f2), .string ((rd_T26 l0 x21_1).f3)] 26 (0, 0)) (by (with_reducible repeat (first | refine blk_drewN ?_ _ | refine blk_drew ?_ | refine blk_alloc ?_ _)); exact BK117.out)) : gb119 ≠ gb117)); clear HO_3; clear HO_25; clear BK117; clear HB; have HO_3 := n0_; have HO_25 := n1_; have BK117 := n2_; have HB := n3_; have BK119 := n4_; have GW119 := n5_; have GE119 := n6_; have NB117_119 := n7_; have NB119_117 := n8_; clear n0_ n1_ n2_ n3_ n4_ n5_ n6_ n7_ n8_; clear hb hbox hg; have hnb21 := NB119_117.out; have hnc21 := NB117_119.out; have hcz22_0 : w20.cell? ⟨gb119, 0, none⟩ = some (.string (⟨#[]⟩ : ByteArray)) := (blk_cell BK119.out 0).trans rfl; have hcz22_1 : w20.cell? ⟨gb119, 1, none⟩ = some (.int .i64 0) := (blk_cell BK119.out 1).trans rfl; have hcz22_2 : w20.cell? ⟨gb119, 2, none⟩ = some (.int .i64 0) := (blk_cell BK119.out 2).trans rfl; have hcz22_3 : w20.cell? ⟨gb119, 3, none⟩ = some (.string (⟨#[]⟩ : ByteArray)) := (blk_cell BK119.out 3).trans rfl; have hfz22_0 := blk_frozen BK119.out 0; have hfz22_1 := blk_frozen BK119.out 1; have hfz22_2 := blk_frozen BK119.out 2; have hfz22_3 := blk_frozen BK119.out 3))
                          (try simp only [Act.put, List.setIfInBounds_toArray, List.set_cons_zero, List.set_cons_succ])
                          go_cut [42] (fun v42 wc => ∃ (kq : Nat) (x42_18 : Bool), v42 = .bool x42_18 ∧ Aside0 (laws_FnSingles.j2 kq l0 t113 x6_2 l0 (l0.length : Int) x21_1 t113 (t113.length : Int) x27_2 x42_18 ((rd_T26 l0 x21_1).f0) ((rd_T26 l0 x21_1).f1) ((rd_T26 l0 x21_1).f2) ((rd_T26 l0 x21_1).f3) ((rd_T26 t113 x27_2).f0) ((rd_T26 t113 x27_2).f1) ((rd_T26 t113 x27_2).f2) ((rd_T26 t113 x27_2).f3) = some r) ∧ Aside0 (kq ≤ k2) ∧ Aside0 (Kd.R k26 26 wc w.heap.size (fun k_ => k_ ≠ gb117 ∧ k_ ≠ gb119) (.slice (some ad118) t113.length co15) t113) ∧ Aside0 (Kd.R k26 26 wc w.heap.size (fun k_ => k_ ≠ gb117 ∧ k_ ≠ gb119) (.slice (some ad118) t113.length co15) t113) ∧ Aside0 (wc.heap[gb117]? = some (.cells #[.string ((rd_T26 l0 x21_1).f0), .int .i64 ((rd_T26 l0 x21_1).f1), .int .i64 ((rd_T26 l0 x21_1).f2), .string ((rd_T26 l0 x21_1).f3)] 26 (0, 0))) ∧ Aside0 (wc.heap[gb119]? = some (.cells #[.string ((rd_T26 t113 x27_2).f0), .int .i64 ((rd_T26 t113 x27_2).f1), .int .i64 ((rd_T26 t113 x27_2).f2), .string ((rd_T26 t113 x27_2).f3)] 26 (0, 0))) ∧ Aside0 (Below w.heap.size w wc))
                          case first =>
                            have H := HC19.out
                            clear HC19
                            by_cases c23 : ((rd_T26 t113 x27_2).f0).toList = ((rd_T26 l0 x21_1).f0).toList
                            · rw [if_pos c23] at H
                              have c23b0 : (((rd_T26 t113 x27_2).f0).toList == ((rd_T26 l0 x21_1).f0).toList) = true := beq_iff_eq.mpr c23
                              have c23b1 : (((rd_T26 t113 x27_2).f0).toList != ((rd_T26 l0 x21_1).f0).toList) = false := bne_eq_false_iff_eq.mpr c23
                              clear c23
                              (first | rw [c23b0] | (simp only [i64_w, i32_w]; rw [c23b0]) | skip)
                              have H' := Aside0.mk H
                              clear H
                              have hnb24 := NB119_117.out
                              have hnc24 := NB117_119.out
                              have hcz25_0 : w20.cell? ⟨gb119, 0, none⟩ = some (.string (⟨#[]⟩ : ByteArray)) := (blk_cell BK119.out 0).trans rfl
                              have hcz25_1 : w20.cell? ⟨gb119, 1, none⟩ = some (.int .i64 0) := (blk_cell BK119.out 1).trans rfl
                              have hcz25_2 : w20.cell? ⟨gb119, 2, none⟩ = some (.int .i64 0) := (blk_cell BK119.out 2).trans rfl
                              have hcz25_3 : w20.cell? ⟨gb119, 3, none⟩ = some (.string (⟨#[]⟩ : ByteArray)) := (blk_cell BK119.out 3).trans rfl
                              have hfz25_0 := blk_frozen BK119.out 0
                              have hfz25_1 := blk_frozen BK119.out 1
                              have hfz25_2 := blk_frozen BK119.out 2
                              have hfz25_3 := blk_frozen BK119.out 3
                              have hcz26_0 : w20.cell? ⟨gb117, 0, none⟩ = some (.string ((rd_T26 l0 x21_1).f0)) := (blk_cell BK117.out 0).trans rfl
                              have hcz26_1 : w20.cell? ⟨gb117, 1, none⟩ = some (.int .i64 ((rd_T26 l0 x21_1).f1)) := (blk_cell BK117.out 1).trans rfl
                              have hcz26_2 : w20.cell? ⟨gb117, 2, none⟩ = some (.int .i64 ((rd_T26 l0 x21_1).f2)) := (blk_cell BK117.out 2).trans rfl
                              have hcz26_3 : w20.cell? ⟨gb117, 3, none⟩ = some (.string ((rd_T26 l0 x21_1).f3)) := (blk_cell BK117.out 3).trans rfl
                              have hfz26_0 := blk_frozen BK117.out 0
                              have hfz26_1 := blk_frozen BK117.out 1
                              have hfz26_2 := blk_frozen BK117.out 2
                              have hfz26_3 := blk_frozen BK117.out 3
                              go_wp2
                              go_meet
                              case rel => exact ⟨_, ((((rd_T26 t113 x27_2).f1) == ((rd_T26 l0 x21_1).f1))), (by first | rfl | (simp; done) | (simp [*]; done)), H', ⟨by have := HK1.out; have := HK2.out; first | omega | exact Nat.le_refl _⟩, ⟨by (with_reducible repeat (first | apply Kd.R_alloc | apply Kd.R_drewN | apply Kd.R_drew)); exact Kd.R_mono (Kd.R_far (p := ⟨gb119, 3, none⟩) (Kd.R_far (p := ⟨gb119, 2, none⟩) (Kd.R_far (p := ⟨gb119, 1, none⟩) (Kd.R_far (p := ⟨gb119, 0, none⟩) (Kd.R_mono HO_3.out (fun k_ hk => (⟨hk, hk.2⟩ : _ ∧ k_ ≠ gb119))) (fun _ hk => hk.2) (.string ((rd_T26 t113 x27_2).f0))) (fun _ hk => hk.2) (.int .i64 ((rd_T26 t113 x27_2).f1))) (fun _ hk => hk.2) (.int .i64 ((rd_T26 t113 x27_2).f2))) (fun _ hk => hk.2) (.string ((rd_T26 t113 x27_2).f3))) (fun _ hk => ⟨hk.1.1, hk.1.2⟩)⟩, ⟨by (with_reducible repeat (first | apply Kd.R_alloc | apply Kd.R_drewN | apply Kd.R_drew)); exact Kd.R_mono (Kd.R_far (p := ⟨gb119, 3, none⟩) (Kd.R_far (p := ⟨gb119, 2, none⟩) (Kd.R_far (p := ⟨gb119, 1, none⟩) (Kd.R_far (p := ⟨gb119, 0, none⟩) (Kd.R_mono HO_25.out (fun k_ hk => (⟨hk, hk.2⟩ : _ ∧ k_ ≠ gb119))) (fun _ hk => hk.2) (.string ((rd_T26 t113 x27_2).f0))) (fun _ hk => hk.2) (.int .i64 ((rd_T26 t113 x27_2).f1))) (fun _ hk => hk.2) (.int .i64 ((rd_T26 t113 x27_2).f2))) (fun _ hk => hk.2) (.string ((rd_T26 t113 x27_2).f3))) (fun _ hk => ⟨hk.1.1, hk.1.2⟩)⟩, ⟨by (with_reducible repeat (first | refine blk_drewN ?_ _ | refine blk_drew ?_ | refine blk_alloc ?_ _)); refine blk_far ?_ NB117_119.out _; (with_reducible repeat (first | refine blk_drewN ?_ _ | refine blk_drew ?_ | refine blk_alloc ?_ _)); refine blk_far ?_ NB117_119.out _; (with_reducible repeat (first | refine blk_drewN ?_ _ | refine blk_drew ?_ | refine blk_alloc ?_ _)); refine blk_far ?_ NB117_119.out _; (with_reducible repeat (first | refine blk_drewN ?_ _ | refine blk_drew ?_ | refine blk_alloc ?_ _)); refine blk_far ?_ NB117_119.out _; (with_reducible repeat (first | refine blk_drewN ?_ _ | refine blk_drew ?_ | refine blk_alloc ?_ _)); exact BK117.out⟩, ⟨by (with_reducible repeat (first | refine blk_drewN ?_ _ | refine blk_drew ?_ | refine blk_alloc ?_ _)); refine blk_put (cs := #[.string ((rd_T26 t113 x27_2).f0), .int .i64 ((rd_T26 t113 x27_2).f1), .int .i64 ((rd_T26 t113 x27_2).f2), .string (⟨#[]⟩ : ByteArray)]) ?_ 3 _ rfl; (with_reducible repeat (first | refine blk_drewN ?_ _ | refine blk_drew ?_ | refine blk_alloc ?_ _)); refine blk_put (cs := #[.string ((rd_T26 t113 x27_2).f0), .int .i64 ((rd_T26 t113 x27_2).f1), .int .i64 0, .string (⟨#[]⟩ : ByteArray)]) ?_ 2 _ rfl; (with_reducible repeat (first | refine blk_drewN ?_ _ | refine blk_drew ?_ | refine blk_alloc ?_ _)); refine blk_put (cs := #[.string ((rd_T26 t113 x27_2).f0), .int .i64 0, .int .i64 0, .string (⟨#[]⟩ : ByteArray)]) ?_ 1 _ rfl; (with_reducible repeat (first | refine blk_drewN ?_ _ | refine blk_drew ?_ | refine blk_alloc ?_ _)); refine blk_put (cs := #[.string (⟨#[]⟩ : ByteArray), .int .i64 0, .int .i64 0, .string (⟨#[]⟩ : ByteArray)]) ?_ 0 _ rfl; (with_reducible repeat (first | refine blk_drewN ?_ _ | refine blk_drew ?_ | refine blk_alloc ?_ _)); exact BK119.out⟩, ⟨by repeat (first | (with_reducible first | exact HB.out | apply below_alloc | apply pw_below_drewN | apply below_drew1 | refine below_set ?_ GE117.out | refine below_set ?_ GE119.out) | exact HB.out)⟩⟩
                            · rw [if_neg c23] at H
                              have c23b0 : (((rd_T26 t113 x27_2).f0).toList == ((rd_T26 l0 x21_1).f0).toList) = false := beq_eq_false_iff_ne.mpr c23
                              have c23b1 : (((rd_T26 t113 x27_2).f0).toList != ((rd_T26 l0 x21_1).f0).toList) = true := bne_iff_ne.mpr c23
                              (first | rw [c23b0] | (simp only [i64_w, i32_w]; rw [c23b0]) | skip)
                              have H' := Aside0.mk H
                              clear H
                              have hnb27 := NB119_117.out
                              have hnc27 := NB117_119.out
                              have hcz28_0 : w20.cell? ⟨gb119, 0, none⟩ = some (.string (⟨#[]⟩ : ByteArray)) := (blk_cell BK119.out 0).trans rfl
                              have hcz28_1 : w20.cell? ⟨gb119, 1, none⟩ = some (.int .i64 0) := (blk_cell BK119.out 1).trans rfl
                              have hcz28_2 : w20.cell? ⟨gb119, 2, none⟩ = some (.int .i64 0) := (blk_cell BK119.out 2).trans rfl
                              have hcz28_3 : w20.cell? ⟨gb119, 3, none⟩ = some (.string (⟨#[]⟩ : ByteArray)) := (blk_cell BK119.out 3).trans rfl
                              have hfz28_0 := blk_frozen BK119.out 0
                              have hfz28_1 := blk_frozen BK119.out 1
                              have hfz28_2 := blk_frozen BK119.out 2
                              have hfz28_3 := blk_frozen BK119.out 3
                              have hcz29_0 : w20.cell? ⟨gb117, 0, none⟩ = some (.string ((rd_T26 l0 x21_1).f0)) := (blk_cell BK117.out 0).trans rfl
                              have hcz29_1 : w20.cell? ⟨gb117, 1, none⟩ = some (.int .i64 ((rd_T26 l0 x21_1).f1)) := (blk_cell BK117.out 1).trans rfl
                              have hcz29_2 : w20.cell? ⟨gb117, 2, none⟩ = some (.int .i64 ((rd_T26 l0 x21_1).f2)) := (blk_cell BK117.out 2).trans rfl
                              have hcz29_3 : w20.cell? ⟨gb117, 3, none⟩ = some (.string ((rd_T26 l0 x21_1).f3)) := (blk_cell BK117.out 3).trans rfl
                              have hfz29_0 := blk_frozen BK117.out 0
                              have hfz29_1 := blk_frozen BK117.out 1
                              have hfz29_2 := blk_frozen BK117.out 2
                              have hfz29_3 := blk_frozen BK117.out 3
                              go_wp2
                              go_meet
                              case rel => exact ⟨_, (false), (by first | rfl | (simp; done) | (simp [*]; done)), H', ⟨by have := HK1.out; have := HK2.out; first | omega | exact Nat.le_refl _⟩, ⟨by (with_reducible repeat (first | apply Kd.R_alloc | apply Kd.R_drewN | apply Kd.R_drew)); exact Kd.R_mono (Kd.R_far (p := ⟨gb119, 3, none⟩) (Kd.R_far (p := ⟨gb119, 2, none⟩) (Kd.R_far (p := ⟨gb119, 1, none⟩) (Kd.R_far (p := ⟨gb119, 0, none⟩) (Kd.R_mono HO_3.out (fun k_ hk => (⟨hk, hk.2⟩ : _ ∧ k_ ≠ gb119))) (fun _ hk => hk.2) (.string ((rd_T26 t113 x27_2).f0))) (fun _ hk => hk.2) (.int .i64 ((rd_T26 t113 x27_2).f1))) (fun _ hk => hk.2) (.int .i64 ((rd_T26 t113 x27_2).f2))) (fun _ hk => hk.2) (.string ((rd_T26 t113 x27_2).f3))) (fun _ hk => ⟨hk.1.1, hk.1.2⟩)⟩, ⟨by (with_reducible repeat (first | apply Kd.R_alloc | apply Kd.R_drewN | apply Kd.R_drew)); exact Kd.R_mono (Kd.R_far (p := ⟨gb119, 3, none⟩) (Kd.R_far (p := ⟨gb119, 2, none⟩) (Kd.R_far (p := ⟨gb119, 1, none⟩) (Kd.R_far (p := ⟨gb119, 0, none⟩) (Kd.R_mono HO_25.out (fun k_ hk => (⟨hk, hk.2⟩ : _ ∧ k_ ≠ gb119))) (fun _ hk => hk.2) (.string ((rd_T26 t113 x27_2).f0))) (fun _ hk => hk.2) (.int .i64 ((rd_T26 t113 x27_2).f1))) (fun _ hk => hk.2) (.int .i64 ((rd_T26 t113 x27_2).f2))) (fun _ hk => hk.2) (.string ((rd_T26 t113 x27_2).f3))) (fun _ hk => ⟨hk.1.1, hk.1.2⟩)⟩, ⟨by (with_reducible repeat (first | refine blk_drewN ?_ _ | refine blk_drew ?_ | refine blk_alloc ?_ _)); refine blk_far ?_ NB117_119.out _; (with_reducible repeat (first | refine blk_drewN ?_ _ | refine blk_drew ?_ | refine blk_alloc ?_ _)); refine blk_far ?_ NB117_119.out _; (with_reducible repeat (first | refine blk_drewN ?_ _ | refine blk_drew ?_ | refine blk_alloc ?_ _)); refine blk_far ?_ NB117_119.out _; (with_reducible repeat (first | refine blk_drewN ?_ _ | refine blk_drew ?_ | refine blk_alloc ?_ _)); refine blk_far ?_ NB117_119.out _; (with_reducible repeat (first | refine blk_drewN ?_ _ | refine blk_drew ?_ | refine blk_alloc ?_ _)); exact BK117.out⟩, ⟨by (with_reducible repeat (first | refine blk_drewN ?_ _ | refine blk_drew ?_ | refine blk_alloc ?_ _)); refine blk_put (cs := #[.string ((rd_T26 t113 x27_2).f0), .int .i64 ((rd_T26 t113 x27_2).f1), .int .i64 ((rd_T26 t113 x27_2).f2), .string (⟨#[]⟩ : ByteArray)]) ?_ 3 _ rfl; (with_reducible repeat (first | refine blk_drewN ?_ _ | refine blk_drew ?_ | refine blk_alloc ?_ _)); refine blk_put (cs := #[.string ((rd_T26 t113 x27_2).f0), .int .i64 ((rd_T26 t113 x27_2).f1), .int .i64 0, .string (⟨#[]⟩ : ByteArray)]) ?_ 2 _ rfl; (with_reducible repeat (first | refine blk_drewN ?_ _ | refine blk_drew ?_ | refine blk_alloc ?_ _)); refine blk_put (cs := #[.string ((rd_T26 t113 x27_2).f0), .int .i64 0, .int .i64 0, .string (⟨#[]⟩ : ByteArray)]) ?_ 1 _ rfl; (with_reducible repeat (first | refine blk_drewN ?_ _ | refine blk_drew ?_ | refine blk_alloc ?_ _)); refine blk_put (cs := #[.string (⟨#[]⟩ : ByteArray), .int .i64 0, .int .i64 0, .string (⟨#[]⟩ : ByteArray)]) ?_ 0 _ rfl; (with_reducible repeat (first | refine blk_drewN ?_ _ | refine blk_drew ?_ | refine blk_alloc ?_ _)); exact BK119.out⟩, ⟨by repeat (first | (with_reducible first | exact HB.out | apply below_alloc | apply pw_below_drewN | apply below_drew1 | refine below_set ?_ GE117.out | refine below_set ?_ GE119.out) | exact HB.out)⟩⟩
                          case rest =>
                            clear HC19
                            try clear c1
                            try clear p1
                            try clear q1
                            try clear hx1
                            try clear c2
                            try clear p2
                            try clear c3
                            try clear c5
                            try clear c6
                            try clear c8
                            try clear c10
                            try clear c10b0
                            try clear c11
                            try clear c11b0
                            try clear p11
                            try clear q11
                            try clear hx11
                            try clear c12
                            try clear c12b0
                            try clear c16
                            try clear c16b0
                            try clear c17
                            try clear c17b0
                            try clear c18
                            try clear c18b0
                            try clear c19
                            try clear c20
                            try clear c21
                            try clear c23
                            try clear c23b0
                            try clear c23b1
                            try clear c24
                            try clear c27
                            try clear hcz14_0
                            try clear hcz14_1
                            try clear hcz14_2
                            try clear hcz14_3
                            try clear hcz22_0
                            try clear hcz22_1
                            try clear hcz22_2
                            try clear hcz22_3
                            try clear hcz25_0
                            try clear hcz25_1
                            try clear hcz25_2
                            try clear hcz25_3
                            try clear hcz26_0
                            try clear hcz26_1
                            try clear hcz26_2
                            try clear hcz26_3
                            try clear hcz28_0
                            try clear hcz28_1
                            try clear hcz28_2
                            try clear hcz28_3
                            try clear hcz29_0
                            try clear hcz29_1
                            try clear hcz29_2
                            try clear hcz29_3
                            try clear hfz14_0
                            try clear hfz14_1
                            try clear hfz14_2
                            try clear hfz14_3
                            try clear hfz22_0
                            try clear hfz22_1
                            try clear hfz22_2
                            try clear hfz22_3
                            try clear hfz25_0
                            try clear hfz25_1
                            try clear hfz25_2
                            try clear hfz25_3
                            try clear hfz26_0
                            try clear hfz26_1
                            try clear hfz26_2
                            try clear hfz26_3
                            try clear hfz28_0
                            try clear hfz28_1
                            try clear hfz28_2
                            try clear hfz28_3
                            try clear hfz29_0
                            try clear hfz29_1
                            try clear hfz29_2
                            try clear hfz29_3
                            try clear hx116_0
                            try clear hx116_1
                            try clear hx116_2
                            try clear hx116_3
                            try clear hx118_0
                            try clear hx118_1
                            try clear hx118_2
                            try clear hx118_3
                            try clear p1
                            try clear p11
                            try clear p116
                            try clear p118
                            try clear p2
                            try clear q1
                            try clear q11
                            try clear q116
                            try clear q118
                            obtain ⟨kq, x42_18, rfl, HA, HJ18, HO_3, HO_25, BK117, BK119, HB⟩ := hcut
                            cases kq with
                            | zero => exact absurd HA.out (by simp [laws_FnSingles.j2])
                            | succ kj18 =>
                              have H := HA.out
                              clear HA
                              simp only [laws_FnSingles.j2] at H
                              by_cases c30 : x42_18 = true
                              · subst c30
                                have H1 : (if ((rd_T26 t113 x27_2).f2) > ((rd_T26 l0 x21_1).f2) then (some false) else (laws_FnSingles.l1 kj18 l0 t113 (wrap64 (x6_2 + 1)) l0 (l0.length : Int) x21_1 t113 (t113.length : Int) (wrap64 (x27_2 + 1)) ((rd_T26 l0 x21_1).f0) ((rd_T26 l0 x21_1).f1) ((rd_T26 l0 x21_1).f2) ((rd_T26 l0 x21_1).f3))) = some r := by rw [if_pos rfl] at H; exact H
                                clear H
                                have H := H1
                                clear H1
                                by_cases c31 : ((rd_T26 t113 x27_2).f2) > ((rd_T26 l0 x21_1).f2)
                                · rw [if_pos c31] at H
                                  have c31b0 : decide (((rd_T26 l0 x21_1).f2) < ((rd_T26 t113 x27_2).f2)) = true := decide_eq_true c31
                                  clear c31
                                  obtain rfl := Option.some.inj H
                                  have hnb32 := NB119_117.out
                                  have hnc32 := NB117_119.out
                                  have hcz33_0 : wc.cell? ⟨gb119, 0, none⟩ = some (.string ((rd_T26 t113 x27_2).f0)) := (blk_cell BK119.out 0).trans rfl
                                  have hcz33_1 : wc.cell? ⟨gb119, 1, none⟩ = some (.int .i64 ((rd_T26 t113 x27_2).f1)) := (blk_cell BK119.out 1).trans rfl
                                  have hcz33_2 : wc.cell? ⟨gb119, 2, none⟩ = some (.int .i64 ((rd_T26 t113 x27_2).f2)) := (blk_cell BK119.out 2).trans rfl
                                  have hcz33_3 : wc.cell? ⟨gb119, 3, none⟩ = some (.string ((rd_T26 t113 x27_2).f3)) := (blk_cell BK119.out 3).trans rfl
                                  have hfz33_0 := blk_frozen BK119.out 0
                                  have hfz33_1 := blk_frozen BK119.out 1
                                  have hfz33_2 := blk_frozen BK119.out 2
                                  have hfz33_3 := blk_frozen BK119.out 3
                                  have hcz34_0 : wc.cell? ⟨gb117, 0, none⟩ = some (.string ((rd_T26 l0 x21_1).f0)) := (blk_cell BK117.out 0).trans rfl
                                  have hcz34_1 : wc.cell? ⟨gb117, 1, none⟩ = some (.int .i64 ((rd_T26 l0 x21_1).f1)) := (blk_cell BK117.out 1).trans rfl
                                  have hcz34_2 : wc.cell? ⟨gb117, 2, none⟩ = some (.int .i64 ((rd_T26 l0 x21_1).f2)) := (blk_cell BK117.out 2).trans rfl
                                  have hcz34_3 : wc.cell? ⟨gb117, 3, none⟩ = some (.string ((rd_T26 l0 x21_1).f3)) := (blk_cell BK117.out 3).trans rfl
                                  have hfz34_0 := blk_frozen BK117.out 0
                                  have hfz34_1 := blk_frozen BK117.out 1
                                  have hfz34_2 := blk_frozen BK117.out 2
                                  have hfz34_3 := blk_frozen BK117.out 3
                                  go_wp2
                                  go_ret
                                  exact ⟨by first | rfl | (simp [errW_none, errW_some] <;> rfl) | (simp [*, errW_none, errW_some] <;> rfl), by repeat (first | (with_reducible first | exact HB.out | apply below_alloc | apply pw_below_drewN | apply below_drew1 | refine below_set ?_ GE117.out | refine below_set ?_ GE119.out) | exact HB.out)⟩
                                · rw [if_neg c31] at H
                                  have c31b0 : decide (((rd_T26 l0 x21_1).f2) < ((rd_T26 t113 x27_2).f2)) = false := decide_eq_false c31
                                  clear c31
                                  have H' := Aside0.mk H
                                  clear H
                                  have hnb35 := NB119_117.out
                                  have hnc35 := NB117_119.out
                                  have hcz36_0 : wc.cell? ⟨gb119, 0, none⟩ = some (.string ((rd_T26 t113 x27_2).f0)) := (blk_cell BK119.out 0).trans rfl
                                  have hcz36_1 : wc.cell? ⟨gb119, 1, none⟩ = some (.int .i64 ((rd_T26 t113 x27_2).f1)) := (blk_cell BK119.out 1).trans rfl
                                  have hcz36_2 : wc.cell? ⟨gb119, 2, none⟩ = some (.int .i64 ((rd_T26 t113 x27_2).f2)) := (blk_cell BK119.out 2).trans rfl
                                  have hcz36_3 : wc.cell? ⟨gb119, 3, none⟩ = some (.string ((rd_T26 t113 x27_2).f3)) := (blk_cell BK119.out 3).trans rfl
                                  have hfz36_0 := blk_frozen BK119.out 0
                                  have hfz36_1 := blk_frozen BK119.out 1
                                  have hfz36_2 := blk_frozen BK119.out 2
                                  have hfz36_3 := blk_frozen BK119.out 3
                                  have hcz37_0 : wc.cell? ⟨gb117, 0, none⟩ = some (.string ((rd_T26 l0 x21_1).f0)) := (blk_cell BK117.out 0).trans rfl
                                  have hcz37_1 : wc.cell? ⟨gb117, 1, none⟩ = some (.int .i64 ((rd_T26 l0 x21_1).f1)) := (blk_cell BK117.out 1).trans rfl
                                  have hcz37_2 : wc.cell? ⟨gb117, 2, none⟩ = some (.int .i64 ((rd_T26 l0 x21_1).f2)) := (blk_cell BK117.out 2).trans rfl
                                  have hcz37_3 : wc.cell? ⟨gb117, 3, none⟩ = some (.string ((rd_T26 l0 x21_1).f3)) := (blk_cell BK117.out 3).trans rfl
                                  have hfz37_0 := blk_frozen BK117.out 0
                                  have hfz37_1 := blk_frozen BK117.out 1
                                  have hfz37_2 := blk_frozen BK117.out 2
                                  have hfz37_3 := blk_frozen BK117.out 3
                                  go_wp2
                                  go_roundg kj18
                                  case measure => have := HK1.out; have := HK2.out; have := HJ18.out; omega
                                  case rel => exact ⟨(wrap64 (x6_2 + 1)), (wrap64 (x27_2 + 1)), (by first | rfl | (simp; done) | (simp [*]; done)), (by first | rfl | (simp; done) | (simp [*]; done)), H', ⟨by have := HK1.out; have := HK2.out; have := HJ18.out; omega⟩, ⟨by (with_reducible repeat (first | apply Kd.R_alloc | apply Kd.R_drewN | apply Kd.R_drew)); exact Kd.R_mono HO_3.out (fun _ hk => hk.1)⟩, ⟨by (with_reducible repeat (first | apply Kd.R_alloc | apply Kd.R_drewN | apply Kd.R_drew)); exact Kd.R_mono HO_25.out (fun _ hk => hk.1)⟩, ⟨by (with_reducible repeat (first | refine blk_drewN ?_ _ | refine blk_drew ?_ | refine blk_alloc ?_ _)); exact BK117.out⟩, ⟨by repeat (first | (with_reducible first | exact HB.out | apply below_alloc | apply pw_below_drewN | apply below_drew1 | refine below_set ?_ GE117.out | refine below_set ?_ GE119.out) | exact HB.out)⟩⟩
                              · replace c30 := Bool.eq_false_iff.mpr c30
                                subst c30
                                have H1 : (laws_FnSingles.l1 kj18 l0 t113 x6_2 l0 (l0.length : Int) x21_1 t113 (t113.length : Int) (wrap64 (x27_2 + 1)) ((rd_T26 l0 x21_1).f0) ((rd_T26 l0 x21_1).f1) ((rd_T26 l0 x21_1).f2) ((rd_T26 l0 x21_1).f3)) = some r := by rw [if_neg (show ¬ (false = true) by decide)] at H; exact H
                                clear H
                                have H := H1
                                clear H1
                                have H' := Aside0.mk H
                                clear H
                                go_wp2
                                go_roundg kj18
                                case measure => have := HK1.out; have := HK2.out; have := HJ18.out; omega
                                case rel => exact ⟨(x6_2), (wrap64 (x27_2 + 1)), (by first | rfl | (simp; done) | (simp [*]; done)), (by first | rfl | (simp; done) | (simp [*]; done)), H', ⟨by have := HK1.out; have := HK2.out; have := HJ18.out; omega⟩, ⟨by (with_reducible repeat (first | apply Kd.R_alloc | apply Kd.R_drewN | apply Kd.R_drew)); exact Kd.R_mono HO_3.out (fun _ hk => hk.1)⟩, ⟨by (with_reducible repeat (first | apply Kd.R_alloc | apply Kd.R_drewN | apply Kd.R_drew)); exact Kd.R_mono HO_25.out (fun _ hk => hk.1)⟩, ⟨by (with_reducible repeat (first | refine blk_drewN ?_ _ | refine blk_drew ?_ | refine blk_alloc ?_ _)); exact BK117.out⟩, ⟨by repeat (first | (with_reducible first | exact HB.out | apply below_alloc | apply pw_below_drewN | apply below_drew1 | refine below_set ?_ GE117.out | refine below_set ?_ GE119.out) | exact HB.out)⟩⟩
                        · rw [if_neg c18] at H
                          exact absurd H (by simp)
                      · rw [if_neg c17] at H
                        exact absurd H (by simp)
                    · rw [if_neg c16] at H
                      have c16b0 : decide (x27_2 < (t113.length : Int)) = false := decide_eq_false c16
                      clear c16
                      by_cases c38 : x6_2 = 1
                      · rw [if_pos c38] at H
                        have c38b0 : (x6_2 == 1) = true := beq_iff_eq.mpr c38
                        have c38b1 : (x6_2 != 1) = false := bne_eq_false_iff_eq.mpr c38
                        clear c38
                        have H' := Aside0.mk H
                        clear H
                        go_wp2
                        go_roundg k2
                        case measure => have := HK1.out; have := HK2.out; omega
                        case rel => exact ⟨(wrap64 (x21_1 + 1)), (by first | rfl | (simp; done) | (simp [*]; done)), H', ⟨by have := HK1.out; have := HK2.out; omega⟩, ⟨by (with_reducible repeat (first | apply Kd.R_alloc | apply Kd.R_drewN | apply Kd.R_drew)); exact Kd.R_mono HO_3.out (fun _ hk => trivial)⟩, ⟨by repeat (first | (with_reducible first | exact HB.out | apply below_alloc | apply pw_below_drewN | apply below_drew1 | refine below_set ?_ GE117.out) | exact HB.out)⟩⟩
                      · rw [if_neg c38] at H
                        have c38b0 : (x6_2 == 1) = false := beq_eq_false_iff_ne.mpr c38
                        have c38b1 : (x6_2 != 1) = true := bne_iff_ne.mpr c38
                        obtain rfl := Option.some.inj H
                        go_wp2
                        go_ret
                        exact ⟨by first | rfl | (simp [errW_none, errW_some] <;> rfl) | (simp [*, errW_none, errW_some] <;> rfl), by repeat (first | (with_reducible first | exact HB.out | apply below_alloc | apply pw_below_drewN | apply below_drew1 | refine below_set ?_ GE117.out) | exact HB.out)⟩
              · rw [if_neg c12] at H
                exact absurd H (by simp)
            · rw [if_neg c11] at H
              exact absurd H (by simp)
          · rw [if_neg c10] at H
            have c10b0 : decide (x21_1 < (l0.length : Int)) = false := decide_eq_false c10
            clear c10
            have H' := Aside0.mk H
            clear H
            obtain ⟨Ao39, co39, eo39⟩ := Kd.R_slice HO_3.out
            subst eo39
            go_wp2
            go_loopg [56] k1 (fun kq v56 w' => ∃ (x56_2 : Int), v56 = .int .i64 x56_2 ∧ Aside0 (laws_FnSingles.l2 kq l0 t113 t113 (t113.length : Int) x56_2 = some r) ∧ Aside0 (kq ≤ k1) ∧ Aside0 (Kd.R k26 26 w' w.heap.size (fun _ => True) (.slice Ao39 t113.length co39) t113) ∧ Aside0 (Kd.R k26 26 w' w.heap.size (fun _ => True) (.slice Ao39 t113.length co39) t113) ∧ Aside0 (Below w.heap.size w w'))
            case atStart => exact ⟨(0), (by first | rfl | (simp; done) | (simp [*]; done)), H', ⟨Nat.le_refl _⟩, ⟨by (with_reducible repeat (first | apply Kd.R_alloc | apply Kd.R_drewN | apply Kd.R_drew)); exact HO_3.out⟩, ⟨by (with_reducible repeat (first | apply Kd.R_alloc | apply Kd.R_drewN | apply Kd.R_drew)); exact HO_3.out⟩, ⟨by repeat (first | (with_reducible first | exact HB.out | apply below_alloc | apply pw_below_drewN | apply below_drew1) | exact HB.out)⟩⟩
            case round =>
              clear H'
              try clear c1
              try clear p1
              try clear q1
              try clear hx1
              try clear c2
              try clear p2
              try clear c3
              try clear c5
              try clear c6
              try clear p6
              try clear c8
              try clear c10
              try clear c10b0
              try clear c11
              try clear c11b0
              try clear p11
              try clear q11
              try clear hx11
              try clear c12
              try clear c12b0
              try clear c16
              try clear c16b0
              try clear c17
              try clear c17b0
              try clear c18
              try clear c18b0
              try clear c19
              try clear c20
              try clear c21
              try clear c23
              try clear c23b0
              try clear c23b1
              try clear c24
              try clear c27
              try clear c30
              try clear c31
              try clear c31b0
              try clear c32
              try clear c35
              try clear c38
              try clear c38b0
              try clear c38b1
              try clear hcz14_0
              try clear hcz14_1
              try clear hcz14_2
              try clear hcz14_3
              try clear hcz22_0
              try clear hcz22_1
              try clear hcz22_2
              try clear hcz22_3
              try clear hcz25_0
              try clear hcz25_1
              try clear hcz25_2
              try clear hcz25_3
              try clear hcz26_0
              try clear hcz26_1
              try clear hcz26_2
              try clear hcz26_3
              try clear hcz28_0
              try clear hcz28_1
              try clear hcz28_2
              try clear hcz28_3
              try clear hcz29_0
              try clear hcz29_1
              try clear hcz29_2
              try clear hcz29_3
              try clear hcz33_0
              try clear hcz33_1
              try clear hcz33_2
              try clear hcz33_3
              try clear hcz34_0
              try clear hcz34_1
              try clear hcz34_2
              try clear hcz34_3
              try clear hcz36_0
              try clear hcz36_1
              try clear hcz36_2
              try clear hcz36_3
              try clear hcz37_0
              try clear hcz37_1
              try clear hcz37_2
              try clear hcz37_3
              try clear hfz14_0
              try clear hfz14_1
              try clear hfz14_2
              try clear hfz14_3
              try clear hfz22_0
              try clear hfz22_1
              try clear hfz22_2
              try clear hfz22_3
              try clear hfz25_0
              try clear hfz25_1
              try clear hfz25_2
              try clear hfz25_3
              try clear hfz26_0
              try clear hfz26_1
              try clear hfz26_2
              try clear hfz26_3
              try clear hfz28_0
              try clear hfz28_1
              try clear hfz28_2
              try clear hfz28_3
              try clear hfz29_0
              try clear hfz29_1
              try clear hfz29_2
              try clear hfz29_3
              try clear hfz33_0
              try clear hfz33_1
              try clear hfz33_2
              try clear hfz33_3
              try clear hfz34_0
              try clear hfz34_1
              try clear hfz34_2
              try clear hfz34_3
              try clear hfz36_0
              try clear hfz36_1
              try clear hfz36_2
              try clear hfz36_3
              try clear hfz37_0
              try clear hfz37_1
              try clear hfz37_2
              try clear hfz37_3
              try clear hx116_0
              try clear hx116_1
              try clear hx116_2
              try clear hx116_3
              try clear hx118_0
              try clear hx118_1
              try clear hx118_2
              try clear hx118_3
              try clear p1
              try clear p11
              try clear p116
              try clear p118
              try clear p2
              try clear q1
              try clear q11
              try clear q116
              try clear q118
              obtain ⟨x56_2, rfl, HA, HK2, HO_3, HO_54, HB⟩ := hrel
              cases gk with
              | zero => exact absurd HA.out (by simp [laws_FnSingles.l2])
              | succ k2 =>
                have H := HA.out
                clear HA
                simp only [laws_FnSingles.l2] at H
                by_cases c40 : x56_2 < (t113.length : Int)
                · rw [if_pos c40] at H
                  have c40b0 : decide (x56_2 < (t113.length : Int)) = true := decide_eq_true c40
                  clear c40
                  by_cases c41 : 0 ≤ x56_2
                  · rw [if_pos c41] at H
                    have c41b0 : decide (0 ≤ x56_2) = true := decide_eq_true c41
                    clear c41
                    by_cases c42 : x56_2 < (t113.length : Int)
                    · rw [if_pos c42] at H
                      have c42b0 : decide (x56_2 < (t113.length : Int)) = true := decide_eq_true c42
                      clear c42
                      replace H := Option.bind_eq_some_iff.mp H
                      obtain ⟨t122, A430, H⟩ := H
                      replace H : (if t122 = 0 then (some false) else (laws_FnSingles.l2 k2 l0 t113 t113 (t113.length : Int) (wrap64 (x56_2 + 1)))) = some r := H
                      have A43 := Aside0.mk A430
                      clear A430
                      by_cases c44 : t122 = 0
                      · rw [if_pos c44] at H
                        have c44b0 : (t122 == 0) = true := beq_iff_eq.mpr c44
                        have c44b1 : (t122 != 0) = false := bne_eq_false_iff_eq.mpr c44
                        clear c44
                        obtain rfl := Option.some.inj H
                        have p120 : 0 ≤ (x56_2 : Int) := of_decide_eq_true (by first | (with_reducible assumption) | assumption)
                        have q120 : x56_2 < (t113.length : Int) := of_decide_eq_true (by first | (with_reducible assumption) | assumption)
                        obtain ⟨ad120, e120, hx120_0, hx120_1, hx120_2, hx120_3⟩ := at_T26 (Kd.R_reads' HO_54.out).2.2 x56_2 p120 q120
                        cases e120
                        replace p120 := eq_true p120
                        replace q120 := eq_true q120
                        go_wp2_with (first | ((with_reducible refine gate_dst (N := 10) rfl ?_); refine box_event ?hg (N := 10) ?hd (cs := #[.string (⟨#[]⟩ : ByteArray), .int .i64 0, .int .i64 0, .string (⟨#[]⟩ : ByteArray)]) (t := 26) ?hr ?_; (case hd => rfl); (case hg => rfl); (case hr => first | (go_simp; done) | (go_simp; rfl)); intro gb121 hg w45 hbox hb; have n0_ := Aside0.mk (Kd.R_below (Kd.R_elderB (by (with_reducible repeat (first | apply Kd.R_alloc | apply Kd.R_drewN | apply Kd.R_drew)); exact HO_3.out) gb121 (Nat.le_of_eq hg.symm)) hb); have n1_ := Aside0.mk (Kd.R_below (Kd.R_elderB (by (with_reducible repeat (first | apply Kd.R_alloc | apply Kd.R_drewN | apply Kd.R_drew)); exact HO_54.out) gb121 (Nat.le_of_eq hg.symm)) hb); have n2_ := Aside0.mk (below_step (by repeat (first | (with_reducible first | exact HB.out | apply below_alloc | apply pw_below_drewN | apply below_drew1) | exact HB.out)) hb); have n3_ := Aside0.mk (hbox); have n4_ := Aside0.mk ((by rw [hg]; exact (below_size (by repeat (first | (with_reducible first | exact HB.out | apply below_alloc | apply pw_below_drewN | apply below_drew1) | exact HB.out))) : w.heap.size ≤ gb121)); have n5_ := Aside0.mk ((by rw [hg]; exact (below_size (by repeat (first | (with_reducible first | exact HB.out | apply below_alloc | apply pw_below_drewN | apply below_drew1) | exact HB.out))) : w.heap.size ≤ gb121)); clear HO_3; clear HO_54; clear HB; have HO_3 := n0_; have HO_54 := n1_; have HB := n2_; have BK121 := n3_; have GW121 := n4_; have GE121 := n5_; clear n0_ n1_ n2_ n3_ n4_ n5_; clear hb hbox hg; have hcz46_0 : w45.cell? ⟨gb121, 0, none⟩ = some (.string (⟨#[]⟩ : ByteArray)) := (blk_cell BK121.out 0).trans rfl; have hcz46_1 : w45.cell? ⟨gb121, 1, none⟩ = some (.int .i64 0) := (blk_cell BK121.out 1).trans rfl; have hcz46_2 : w45.cell? ⟨gb121, 2, none⟩ = some (.int .i64 0) := (blk_cell BK121.out 2).trans rfl; have hcz46_3 : w45.cell? ⟨gb121, 3, none⟩ = some (.string (⟨#[]⟩ : ByteArray)) := (blk_cell BK121.out 3).trans rfl; have hfz46_0 := blk_frozen BK121.out 0; have hfz46_1 := blk_frozen BK121.out 1; have hfz46_2 := blk_frozen BK121.out 2; have hfz46_3 := blk_frozen BK121.out 3) | ((with_reducible refine gate_callee (f := 17) rfl ?_); refine goesL_ (some 62) rfl rfl Try.func17 (by kernel_rfl) rfl #[.slice A0 l0.length c0, .agg #[.string ((rd_T26 t113 x56_2).f0), .int .i64 ((rd_T26 t113 x56_2).f1), .int .i64 ((rd_T26 t113 x56_2).f2), .string ((rd_T26 t113 x56_2).f3)]] rfl (by (try simp only [List.map_toArray, List.map_cons, List.map_nil]); first | done | rfl | (simp only [List.length_drop, List.length_take]; rfl)) ?_; (with_reducible refine (laws_times9.calls k2 _ _ l0 ((rd_T26 t113 x56_2).f0) ((rd_T26 t113 x56_2).f1) ((rd_T26 t113 x56_2).f2) ((rd_T26 t113 x56_2).f3) t122 _ ?side1 ?side2 A43.out).mono ?_); (case side1 => exact Kd.C_below HR0.out (by repeat (first | (with_reducible first | exact HB.out | apply below_alloc | apply pw_below_drewN | apply below_drew1 | refine below_set ?_ GE121.out) | exact HB.out))); (case side2 => exact HC0.out); rintro e w47 ⟨rfl, hb⟩; refine ⟨_, rfl, ?_⟩; have n0_ := Aside0.mk (Kd.R_below (by (with_reducible repeat (first | apply Kd.R_alloc | apply Kd.R_drewN | apply Kd.R_drew)); exact (Kd.R_mono (Kd.R_far (p := ⟨gb121, 3, none⟩) (Kd.R_far (p := ⟨gb121, 2, none⟩) (Kd.R_far (p := ⟨gb121, 1, none⟩) (Kd.R_far (p := ⟨gb121, 0, none⟩) (Kd.R_mono HO_3.out (fun k_ hk => (⟨hk, hk.2⟩ : _ ∧ k_ ≠ gb121))) (fun _ hk => hk.2) (.string ((rd_T26 t113 x56_2).f0))) (fun _ hk => hk.2) (.int .i64 ((rd_T26 t113 x56_2).f1))) (fun _ hk => hk.2) (.int .i64 ((rd_T26 t113 x56_2).f2))) (fun _ hk => hk.2) (.string ((rd_T26 t113 x56_2).f3))) (fun _ h_ => h_.1))) hb); have n1_ := Aside0.mk (Kd.R_below (by (with_reducible repeat (first | apply Kd.R_alloc | apply Kd.R_drewN | apply Kd.R_drew)); exact (Kd.R_mono (Kd.R_far (p := ⟨gb121, 3, none⟩) (Kd.R_far (p := ⟨gb121, 2, none⟩) (Kd.R_far (p := ⟨gb121, 1, none⟩) (Kd.R_far (p := ⟨gb121, 0, none⟩) (Kd.R_mono HO_54.out (fun k_ hk => (⟨hk, hk.2⟩ : _ ∧ k_ ≠ gb121))) (fun _ hk => hk.2) (.string ((rd_T26 t113 x56_2).f0))) (fun _ hk => hk.2) (.int .i64 ((rd_T26 t113 x56_2).f1))) (fun _ hk => hk.2) (.int .i64 ((rd_T26 t113 x56_2).f2))) (fun _ hk => hk.2) (.string ((rd_T26 t113 x56_2).f3))) (fun _ h_ => h_.1))) hb); have n2_ := Aside0.mk (blk_below (g := gb121) (o := .cells #[.string ((rd_T26 t113 x56_2).f0), .int .i64 ((rd_T26 t113 x56_2).f1), .int .i64 ((rd_T26 t113 x56_2).f2), .string ((rd_T26 t113 x56_2).f3)] 26 (0, 0)) (by (with_reducible repeat (first | refine blk_drewN ?_ _ | refine blk_drew ?_ | refine blk_alloc ?_ _)); refine blk_put (cs := #[.string ((rd_T26 t113 x56_2).f0), .int .i64 ((rd_T26 t113 x56_2).f1), .int .i64 ((rd_T26 t113 x56_2).f2), .string (⟨#[]⟩ : ByteArray)]) ?_ 3 _ rfl; (with_reducible repeat (first | refine blk_drewN ?_ _ | refine blk_drew ?_ | refine blk_alloc ?_ _)); refine blk_put (cs := #[.string ((rd_T26 t113 x56_2).f0), .int .i64 ((rd_T26 t113 x56_2).f1), .int .i64 0, .string (⟨#[]⟩ : ByteArray)]) ?_ 2 _ rfl; (with_reducible repeat (first | refine blk_drewN ?_ _ | refine blk_drew ?_ | refine blk_alloc ?_ _)); refine blk_put (cs := #[.string ((rd_T26 t113 x56_2).f0), .int .i64 0, .int .i64 0, .string (⟨#[]⟩ : ByteArray)]) ?_ 1 _ rfl; (with_reducible repeat (first | refine blk_drewN ?_ _ | refine blk_drew ?_ | refine blk_alloc ?_ _)); refine blk_put (cs := #[.string (⟨#[]⟩ : ByteArray), .int .i64 0, .int .i64 0, .string (⟨#[]⟩ : ByteArray)]) ?_ 0 _ rfl; (with_reducible repeat (first | refine blk_drewN ?_ _ | refine blk_drew ?_ | refine blk_alloc ?_ _)); exact BK121.out) hb); have n3_ := Aside0.mk (below_step (by repeat (first | (with_reducible first | exact HB.out | apply below_alloc | apply pw_below_drewN | apply below_drew1 | refine below_set ?_ GE121.out) | exact HB.out)) hb); clear HO_3; clear HO_54; clear BK121; clear HB; have HO_3 := n0_; have HO_54 := n1_; have BK121 := n2_; have HB := n3_; clear n0_ n1_ n2_ n3_; (try clear hb); (try clear hb2); (try clear hk); (try clear hi)))
                        go_ret
                        exact ⟨by first | rfl | (simp [errW_none, errW_some] <;> rfl) | (simp [*, errW_none, errW_some] <;> rfl), by repeat (first | (with_reducible first | exact HB.out | apply below_alloc | apply pw_below_drewN | apply below_drew1 | refine below_set ?_ GE121.out) | exact HB.out)⟩
                      · rw [if_neg c44] at H
                        have c44b0 : (t122 == 0) = false := beq_eq_false_iff_ne.mpr c44
                        have c44b1 : (t122 != 0) = true := bne_iff_ne.mpr c44
                        have H' := Aside0.mk H
                        clear H
                        have p120 : 0 ≤ (x56_2 : Int) := of_decide_eq_true (by first | (with_reducible assumption) | assumption)
                        have q120 : x56_2 < (t113.length : Int) := of_decide_eq_true (by first | (with_reducible assumption) | assumption)
                        obtain ⟨ad120, e120, hx120_0, hx120_1, hx120_2, hx120_3⟩ := at_T26 (Kd.R_reads' HO_54.out).2.2 x56_2 p120 q120
                        cases e120
                        replace p120 := eq_true p120
                        replace q120 := eq_true q120
                        go_wp2_with (first | ((with_reducible refine gate_dst (N := 10) rfl ?_); refine box_event ?hg (N := 10) ?hd (cs := #[.string (⟨#[]⟩ : ByteArray), .int .i64 0, .int .i64 0, .string (⟨#[]⟩ : ByteArray)]) (t := 26) ?hr ?_; (case hd => rfl); (case hg => rfl); (case hr => first | (go_simp; done) | (go_simp; rfl)); intro gb121 hg w48 hbox hb; have n0_ := Aside0.mk (Kd.R_below (Kd.R_elderB (by (with_reducible repeat (first | apply Kd.R_alloc | apply Kd.R_drewN | apply Kd.R_drew)); exact HO_3.out) gb121 (Nat.le_of_eq hg.symm)) hb); have n1_ := Aside0.mk (Kd.R_below (Kd.R_elderB (by (with_reducible repeat (first | apply Kd.R_alloc | apply Kd.R_drewN | apply Kd.R_drew)); exact HO_54.out) gb121 (Nat.le_of_eq hg.symm)) hb); have n2_ := Aside0.mk (below_step (by repeat (first | (with_reducible first | exact HB.out | apply below_alloc | apply pw_below_drewN | apply below_drew1) | exact HB.out)) hb); have n3_ := Aside0.mk (hbox); have n4_ := Aside0.mk ((by rw [hg]; exact (below_size (by repeat (first | (with_reducible first | exact HB.out | apply below_alloc | apply pw_below_drewN | apply below_drew1) | exact HB.out))) : w.heap.size ≤ gb121)); have n5_ := Aside0.mk ((by rw [hg]; exact (below_size (by repeat (first | (with_reducible first | exact HB.out | apply below_alloc | apply pw_below_drewN | apply below_drew1) | exact HB.out))) : w.heap.size ≤ gb121)); clear HO_3; clear HO_54; clear HB; have HO_3 := n0_; have HO_54 := n1_; have HB := n2_; have BK121 := n3_; have GW121 := n4_; have GE121 := n5_; clear n0_ n1_ n2_ n3_ n4_ n5_; clear hb hbox hg; have hcz49_0 : w48.cell? ⟨gb121, 0, none⟩ = some (.string (⟨#[]⟩ : ByteArray)) := (blk_cell BK121.out 0).trans rfl; have hcz49_1 : w48.cell? ⟨gb121, 1, none⟩ = some (.int .i64 0) := (blk_cell BK121.out 1).trans rfl; have hcz49_2 : w48.cell? ⟨gb121, 2, none⟩ = some (.int .i64 0) := (blk_cell BK121.out 2).trans rfl; have hcz49_3 : w48.cell? ⟨gb121, 3, none⟩ = some (.string (⟨#[]⟩ : ByteArray)) := (blk_cell BK121.out 3).trans rfl; have hfz49_0 := blk_frozen BK121.out 0; have hfz49_1 := blk_frozen BK121.out 1; have hfz49_2 := blk_frozen BK121.out 2; have hfz49_3 := blk_frozen BK121.out 3) | ((with_reducible refine gate_callee (f := 17) rfl ?_); refine goesL_ (some 62) rfl rfl Try.func17 (by kernel_rfl) rfl #[.slice A0 l0.length c0, .agg #[.string ((rd_T26 t113 x56_2).f0), .int .i64 ((rd_T26 t113 x56_2).f1), .int .i64 ((rd_T26 t113 x56_2).f2), .string ((rd_T26 t113 x56_2).f3)]] rfl (by (try simp only [List.map_toArray, List.map_cons, List.map_nil]); first | done | rfl | (simp only [List.length_drop, List.length_take]; rfl)) ?_; (with_reducible refine (laws_times9.calls k2 _ _ l0 ((rd_T26 t113 x56_2).f0) ((rd_T26 t113 x56_2).f1) ((rd_T26 t113 x56_2).f2) ((rd_T26 t113 x56_2).f3) t122 _ ?side1 ?side2 A43.out).mono ?_); (case side1 => exact Kd.C_below HR0.out (by repeat (first | (with_reducible first | exact HB.out | apply below_alloc | apply pw_below_drewN | apply below_drew1 | refine below_set ?_ GE121.out) | exact HB.out))); (case side2 => exact HC0.out); rintro e w50 ⟨rfl, hb⟩; refine ⟨_, rfl, ?_⟩; have n0_ := Aside0.mk (Kd.R_below (by (with_reducible repeat (first | apply Kd.R_alloc | apply Kd.R_drewN | apply Kd.R_drew)); exact (Kd.R_mono (Kd.R_far (p := ⟨gb121, 3, none⟩) (Kd.R_far (p := ⟨gb121, 2, none⟩) (Kd.R_far (p := ⟨gb121, 1, none⟩) (Kd.R_far (p := ⟨gb121, 0, none⟩) (Kd.R_mono HO_3.out (fun k_ hk => (⟨hk, hk.2⟩ : _ ∧ k_ ≠ gb121))) (fun _ hk => hk.2) (.string ((rd_T26 t113 x56_2).f0))) (fun _ hk => hk.2) (.int .i64 ((rd_T26 t113 x56_2).f1))) (fun _ hk => hk.2) (.int .i64 ((rd_T26 t113 x56_2).f2))) (fun _ hk => hk.2) (.string ((rd_T26 t113 x56_2).f3))) (fun _ h_ => h_.1))) hb); have n1_ := Aside0.mk (Kd.R_below (by (with_reducible repeat (first | apply Kd.R_alloc | apply Kd.R_drewN | apply Kd.R_drew)); exact (Kd.R_mono (Kd.R_far (p := ⟨gb121, 3, none⟩) (Kd.R_far (p := ⟨gb121, 2, none⟩) (Kd.R_far (p := ⟨gb121, 1, none⟩) (Kd.R_far (p := ⟨gb121, 0, none⟩) (Kd.R_mono HO_54.out (fun k_ hk => (⟨hk, hk.2⟩ : _ ∧ k_ ≠ gb121))) (fun _ hk => hk.2) (.string ((rd_T26 t113 x56_2).f0))) (fun _ hk => hk.2) (.int .i64 ((rd_T26 t113 x56_2).f1))) (fun _ hk => hk.2) (.int .i64 ((rd_T26 t113 x56_2).f2))) (fun _ hk => hk.2) (.string ((rd_T26 t113 x56_2).f3))) (fun _ h_ => h_.1))) hb); have n2_ := Aside0.mk (blk_below (g := gb121) (o := .cells #[.string ((rd_T26 t113 x56_2).f0), .int .i64 ((rd_T26 t113 x56_2).f1), .int .i64 ((rd_T26 t113 x56_2).f2), .string ((rd_T26 t113 x56_2).f3)] 26 (0, 0)) (by (with_reducible repeat (first | refine blk_drewN ?_ _ | refine blk_drew ?_ | refine blk_alloc ?_ _)); refine blk_put (cs := #[.string ((rd_T26 t113 x56_2).f0), .int .i64 ((rd_T26 t113 x56_2).f1), .int .i64 ((rd_T26 t113 x56_2).f2), .string (⟨#[]⟩ : ByteArray)]) ?_ 3 _ rfl; (with_reducible repeat (first | refine blk_drewN ?_ _ | refine blk_drew ?_ | refine blk_alloc ?_ _)); refine blk_put (cs := #[.string ((rd_T26 t113 x56_2).f0), .int .i64 ((rd_T26 t113 x56_2).f1), .int .i64 0, .string (⟨#[]⟩ : ByteArray)]) ?_ 2 _ rfl; (with_reducible repeat (first | refine blk_drewN ?_ _ | refine blk_drew ?_ | refine blk_alloc ?_ _)); refine blk_put (cs := #[.string ((rd_T26 t113 x56_2).f0), .int .i64 0, .int .i64 0, .string (⟨#[]⟩ : ByteArray)]) ?_ 1 _ rfl; (with_reducible repeat (first | refine blk_drewN ?_ _ | refine blk_drew ?_ | refine blk_alloc ?_ _)); refine blk_put (cs := #[.string (⟨#[]⟩ : ByteArray), .int .i64 0, .int .i64 0, .string (⟨#[]⟩ : ByteArray)]) ?_ 0 _ rfl; (with_reducible repeat (first | refine blk_drewN ?_ _ | refine blk_drew ?_ | refine blk_alloc ?_ _)); exact BK121.out) hb); have n3_ := Aside0.mk (below_step (by repeat (first | (with_reducible first | exact HB.out | apply below_alloc | apply pw_below_drewN | apply below_drew1 | refine below_set ?_ GE121.out) | exact HB.out)) hb); clear HO_3; clear HO_54; clear BK121; clear HB; have HO_3 := n0_; have HO_54 := n1_; have BK121 := n2_; have HB := n3_; clear n0_ n1_ n2_ n3_; (try clear hb); (try clear hb2); (try clear hk); (try clear hi)))
                        go_roundg k2
                        case measure => have := HK1.out; have := HK2.out; omega
                        case rel => exact ⟨(wrap64 (x56_2 + 1)), (by first | rfl | (simp; done) | (simp [*]; done)), H', ⟨by have := HK1.out; have := HK2.out; omega⟩, ⟨by (with_reducible repeat (first | apply Kd.R_alloc | apply Kd.R_drewN | apply Kd.R_drew)); exact Kd.R_mono HO_3.out (fun _ hk => trivial)⟩, ⟨by (with_reducible repeat (first | apply Kd.R_alloc | apply Kd.R_drewN | apply Kd.R_drew)); exact Kd.R_mono HO_54.out (fun _ hk => trivial)⟩, ⟨by repeat (first | (with_reducible first | exact HB.out | apply below_alloc | apply pw_below_drewN | apply below_drew1 | refine below_set ?_ GE121.out) | exact HB.out)⟩⟩
                    · rw [if_neg c42] at H
                      exact absurd H (by simp)
                  · rw [if_neg c41] at H
                    exact absurd H (by simp)
                · rw [if_neg c40] at H
                  have c40b0 : decide (x56_2 < (t113.length : Int)) = false := decide_eq_false c40
                  clear c40
                  replace H := Option.bind_eq_some_iff.mp H
                  obtain ⟨t123, A510, H⟩ := H
                  replace H : (some t123) = some r := H
                  have A51 := Aside0.mk A510
                  clear A510
                  obtain rfl := Option.some.inj H
                  go_wp2_with (first | ((with_reducible refine gate_callee (f := 18) rfl ?_); refine goesL_ (some 66) rfl rfl Try.func18 (by kernel_rfl) rfl #[.slice Ao39 t113.length co39] rfl (by (try simp only [List.map_toArray, List.map_cons, List.map_nil]); first | done | rfl | (simp only [List.length_drop, List.length_take]; rfl)) ?_; (with_reducible refine (laws_isSorted9.calls k2 _ _ t113 t123 _ ?side1 ?side2 A51.out).mono ?_); (case side1 => repeat (first | exact (Kd.R_reads' HO_3.out).2.2 | (with_reducible refine Kd.C_alloc ?_ _) | (with_reducible refine Kd.C_drewN ?_ _) | (with_reducible refine Kd.C_drew ?_))); (case side2 => exact (Kd.R_reads' HO_3.out).2.1); rintro e w52 ⟨rfl, hb⟩; refine ⟨_, rfl, ?_⟩; have n0_ := Aside0.mk (Kd.R_below (by (with_reducible repeat (first | apply Kd.R_alloc | apply Kd.R_drewN | apply Kd.R_drew)); exact HO_3.out) hb); have n1_ := Aside0.mk (Kd.R_below (by (with_reducible repeat (first | apply Kd.R_alloc | apply Kd.R_drewN | apply Kd.R_drew)); exact HO_54.out) hb); have n2_ := Aside0.mk (below_step (by repeat (first | (with_reducible first | exact HB.out | apply below_alloc | apply pw_below_drewN | apply below_drew1) | exact HB.out)) hb); clear HO_3; clear HO_54; clear HB; have HO_3 := n0_; have HO_54 := n1_; have HB := n2_; clear n0_ n1_ n2_; (try clear hb); (try clear hb2); (try clear hk); (try clear hi)))
                  go_ret
                  exact ⟨by first | rfl | (simp [errW_none, errW_some] <;> rfl) | (simp [*, errW_none, errW_some] <;> rfl), by repeat (first | (with_reducible first | exact HB.out | apply below_alloc | apply pw_below_drewN | apply below_drew1) | exact HB.out)⟩
    · replace c5 := Bool.eq_false_iff.mpr c5
      subst c5
      have H1 : (some true) = some r := by rw [if_neg (show ¬ (false = true) by decide)] at H; exact H
      clear H
      have H := H1
      clear H1
      obtain rfl := Option.some.inj H
      go_enter Try.func6, Try.ntmps6
      go_wp2_with (first | ((with_reducible refine gate_callee (f := 8) rfl ?_); refine goesL_ (some 12) rfl rfl Try.func8 (by kernel_rfl) rfl #[.slice A0 l0.length c0] rfl (by (try simp only [List.map_toArray, List.map_cons, List.map_nil]); first | done | rfl | (simp only [List.length_drop, List.length_take]; rfl)) ?_; (with_reducible refine (laws_zzFits4.calls k _ _ l0 true _ ?side1 ?side2 A2.out).mono ?_); (case side1 => repeat (first | exact HR0.out | (with_reducible refine Kd.C_alloc ?_ _) | (with_reducible refine Kd.C_drewN ?_ _) | (with_reducible refine Kd.C_drew ?_))); (case side2 => exact HC0.out); rintro e w53 ⟨rfl, hb⟩; refine ⟨_, rfl, ?_⟩; have n0_ := Aside0.mk (below_step (by repeat (first | (with_reducible first | exact HB.out | apply below_alloc | apply pw_below_drewN | apply below_drew1) | exact HB.out)) hb); clear HB; have HB := n0_; clear n0_; (try clear hb); (try clear hb2); (try clear hk); (try clear hi)) | ((with_reducible refine gate_callee (f := 19) rfl ?_); refine goesL_ (some 15) rfl rfl Try.func19 (by kernel_rfl) rfl #[.slice A0 l0.length c0] rfl (by (try simp only [List.map_toArray, List.map_cons, List.map_nil]); first | done | rfl | (simp only [List.length_drop, List.length_take]; rfl)) ?_; (with_reducible refine (laws_legal9.calls k _ _ l0 false _ ?side1 ?side2 A4.out).mono ?_); (case side1 => repeat (first | exact (Kd.C_below HR0.out HB.out) | (with_reducible refine Kd.C_alloc ?_ _) | (with_reducible refine Kd.C_drewN ?_ _) | (with_reducible refine Kd.C_drew ?_))); (case side2 => exact HC0.out); rintro e w54 ⟨rfl, hb⟩; refine ⟨_, rfl, ?_⟩; have n0_ := Aside0.mk (below_step (by repeat (first | (with_reducible first | exact HB.out | apply below_alloc | apply pw_below_drewN | apply below_drew1) | exact HB.out)) hb); clear HB; have HB := n0_; clear n0_; (try clear hb); (try clear hb2); (try clear hk); (try clear hi)))
      go_ret
      exact ⟨by first | rfl | (simp [errW_none, errW_some] <;> rfl) | (simp [*, errW_none, errW_some] <;> rfl), by repeat (first | (with_reducible first | exact HB.out | apply below_alloc | apply pw_below_drewN | apply below_drew1) | exact HB.out)⟩
  · replace c3 := Bool.eq_false_iff.mpr c3
    subst c3
    have H1 : (some true) = some r := by rw [if_neg (show ¬ (false = true) by decide)] at H; exact H
    clear H
    have H := H1
    clear H1
    obtain rfl := Option.some.inj H
    go_enter Try.func6, Try.ntmps6
    go_wp2_with (first | ((with_reducible refine gate_callee (f := 8) rfl ?_); refine goesL_ (some 12) rfl rfl Try.func8 (by kernel_rfl) rfl #[.slice A0 l0.length c0] rfl (by (try simp only [List.map_toArray, List.map_cons, List.map_nil]); first | done | rfl | (simp only [List.length_drop, List.length_take]; rfl)) ?_; (with_reducible refine (laws_zzFits4.calls k _ _ l0 false _ ?side1 ?side2 A2.out).mono ?_); (case side1 => repeat (first | exact HR0.out | (with_reducible refine Kd.C_alloc ?_ _) | (with_reducible refine Kd.C_drewN ?_ _) | (with_reducible refine Kd.C_drew ?_))); (case side2 => exact HC0.out); rintro e w55 ⟨rfl, hb⟩; refine ⟨_, rfl, ?_⟩; have n0_ := Aside0.mk (below_step (by repeat (first | (with_reducible first | exact HB.out | apply below_alloc | apply pw_below_drewN | apply below_drew1) | exact HB.out)) hb); clear HB; have HB := n0_; clear n0_; (try clear hb); (try clear hb2); (try clear hk); (try clear hi)))
    go_ret
    exact ⟨by first | rfl | (simp [errW_none, errW_some] <;> rfl) | (simp [*, errW_none, errW_some] <;> rfl), by repeat (first | (with_reducible first | exact HB.out | apply below_alloc | apply pw_below_drewN | apply below_drew1) | exact HB.out)⟩

-- GIVEN: function 14 (laws_sameFaults9)

-- NOT PRINTED: function 29 (goprinter_go_scanner_ErrorList_Sort)

-- GIVEN: function 16 (impl_Sorted)

end Go.Proofs.Ytdmeackaiamkcaa.A
