-- Written by a program of this session (gprint.py) out of the kit's print of the translation. Not trusted: Lean checks it.
import Derived.Test.YtdcaabjkklppjaaGreatFmtA0
import Derived.Test.YtdcaabjkklppjaaGreatFmtA2
import Derived.Test.YtdcaabjkklppjaaGreatFmtA3
import Derived.Test.YtdcaabjkklppjaaGreatFmtA3i
import Derived.Test.YtdcaabjkklppjaaGreatFmtA6
import Derived.Test.YtdcaabjkklppjaaGreatFmtGWlr
namespace Go.Proofs.YtdcaabjkklppjaaGreatFmt.A
open Go.RowKit Go.Proofs.YtdcaabjkklppjaaGreatFmtW.PrintWords Go.Proofs.YtdcaabjkklppjaaGreatFmtW.PrintLast Go.Proofs.YtdcaabjkklppjaaGreatFmtW.PrintMore
attribute [local go_sem] max2_int min2_int max_two min_two max_three min_three max_four min_four   -- for this text's walks alone
set_option linter.unusedVariables false
set_option linter.unusedSimpArgs false

/-! ### laws_FnWalkVisits: function 6 -/
mutual
noncomputable def laws_FnWalkVisits.j0 : Nat → ByteArray → Bool → ByteArray → ByteArray → List (S24) → Option (Bool)
  | 0, _, _, _, _, _ => none
  | k + 1, x1, x13, x202000, x202001, x202002 => if x13 = true then (some true) else ((spec_IsExprTree.f k x202000 x202001 x202002).bind fun t203 => (if t203 = true then (laws_FnWalkVisits.j1 k x1 (x1.toList == ([] : List UInt8)) x202000 x202001 x202002) else (laws_FnWalkVisits.j1 k x1 true x202000 x202001 x202002)))
noncomputable def laws_FnWalkVisits.j1 : Nat → ByteArray → Bool → ByteArray → ByteArray → List (S24) → Option (Bool)
  | 0, _, _, _, _, _ => none
  | k + 1, x1, x20, x202000, x202001, x202002 => if x20 = true then (some true) else ((impl_Walked.f x202000 x202001 x202002 x1).bind fun t204 => (if (t204.length : Int) > 0 then ((impl_Inspected.f x202000 x202001 x202002 x1).bind fun t207 => ((laws_sameVisits9.f k t204 t207).bind fun t210 => (some t210))) else (some false)))
end
noncomputable def laws_FnWalkVisits.f (k : Nat) (a0_0 : ByteArray) (a0_1 : ByteArray) (l0_2 : List (S24)) (a1 : ByteArray) : Option (Bool) := (laws_zzFits10.f a0_0 a0_1 l0_2).bind fun t202 => (if t202 = true then (laws_FnWalkVisits.j0 k a1 (decide ((a1.size : Int) > 2147483647)) a0_0 a0_1 l0_2) else (laws_FnWalkVisits.j0 k a1 true a0_0 a0_1 l0_2))
theorem laws_FnWalkVisits.mono_l : ∀ k, (∀ y0 y1 y2 y3 y4, LeO (laws_FnWalkVisits.j0 k y0 y1 y2 y3 y4) (laws_FnWalkVisits.j0 (k + 1) y0 y1 y2 y3 y4)) ∧ (∀ y0 y1 y2 y3 y4, LeO (laws_FnWalkVisits.j1 k y0 y1 y2 y3 y4) (laws_FnWalkVisits.j1 (k + 1) y0 y1 y2 y3 y4))
  | 0 => ⟨fun _ _ _ _ _ r h => by simp [laws_FnWalkVisits.j0] at h, fun _ _ _ _ _ r h => by simp [laws_FnWalkVisits.j1] at h⟩
  | k + 1 => by
    obtain ⟨ih0, ih1⟩ := laws_FnWalkVisits.mono_l k
    refine ⟨?_, ?_⟩
    · intro y0 y1 y2 y3 y4
      unfold laws_FnWalkVisits.j0
      repeat' first
      | (with_reducible exact ih0 _ _ _ _ _)
      | (with_reducible exact ih1 _ _ _ _ _)
      | (with_reducible exact laws_sameVisits9.mono _ _ _)
      | (with_reducible exact spec_IsExprTree.mono _ _ _ _)
      | (with_reducible exact LeO.refl _)
      | (with_reducible exact LeO.none _)
      | (with_reducible refine LeO.ite ?_ ?_)
      | (with_reducible refine LeO.bind ?_ (fun _ => ?_))
      | exact ih0 _ _ _ _ _
      | exact ih1 _ _ _ _ _
      | exact laws_sameVisits9.mono _ _ _
      | exact spec_IsExprTree.mono _ _ _ _
      | exact LeO.none _
      | refine LeO.ite ?_ ?_
      | refine LeO.bind ?_ (fun _ => ?_)
    · intro y0 y1 y2 y3 y4
      unfold laws_FnWalkVisits.j1
      repeat' first
      | (with_reducible exact ih0 _ _ _ _ _)
      | (with_reducible exact ih1 _ _ _ _ _)
      | (with_reducible exact laws_sameVisits9.mono _ _ _)
      | (with_reducible exact spec_IsExprTree.mono _ _ _ _)
      | (with_reducible exact LeO.refl _)
      | (with_reducible exact LeO.none _)
      | (with_reducible refine LeO.ite ?_ ?_)
      | (with_reducible refine LeO.bind ?_ (fun _ => ?_))
      | exact ih0 _ _ _ _ _
      | exact ih1 _ _ _ _ _
      | exact laws_sameVisits9.mono _ _ _
      | exact spec_IsExprTree.mono _ _ _ _
      | exact LeO.none _
      | refine LeO.ite ?_ ?_
      | refine LeO.bind ?_ (fun _ => ?_)
theorem laws_FnWalkVisits.mono : ∀ a0 a1 a2 a3 k, LeO (laws_FnWalkVisits.f k a0 a1 a2 a3) (laws_FnWalkVisits.f (k + 1) a0 a1 a2 a3) := by
  intro a0 a1 a2 a3 k
  obtain ⟨ih0, ih1⟩ := laws_FnWalkVisits.mono_l k
  unfold laws_FnWalkVisits.f
  repeat' first
      | (with_reducible exact ih0 _ _ _ _ _)
      | (with_reducible exact ih1 _ _ _ _ _)
      | (with_reducible exact laws_sameVisits9.mono _ _ _)
      | (with_reducible exact spec_IsExprTree.mono _ _ _ _)
      | (with_reducible exact LeO.refl _)
      | (with_reducible exact LeO.none _)
      | (with_reducible refine LeO.ite ?_ ?_)
      | (with_reducible refine LeO.bind ?_ (fun _ => ?_))
      | exact ih0 _ _ _ _ _
      | exact ih1 _ _ _ _ _
      | exact laws_sameVisits9.mono _ _ _
      | exact spec_IsExprTree.mono _ _ _ _
      | exact LeO.none _
      | refine LeO.ite ?_ ?_
      | refine LeO.bind ?_ (fun _ => ?_)
set_option maxHeartbeats 8000000 in
set_option maxRecDepth 100000 in
theorem laws_FnWalkVisits.calls (k : Nat) (a0_0 : ByteArray) (a0_1 : ByteArray) (A0_2 : Option Addr) (c0_2 : Nat) (l0_2 : List (S24)) (a1 : ByteArray) (r : Bool) (w : World) (hr0_2 : Kd.C k24 w A0_2 l0_2.length l0_2) (hc0_2 : l0_2.length ≤ c0_2) (hT : TokTab tokS w) (h : laws_FnWalkVisits.f k a0_0 a0_1 l0_2 a1 = some r) :
    Calls Tryz.prog 6 #[.agg #[.string a0_0, .string a0_1, .slice A0_2 l0_2.length c0_2], .string a1] w fun e w' => e = .returned (.bool r) ∧ Below w.heap.size w w' := by
  have HTT := Aside0.mk hT
  clear hT
  have hu24 := Tryz.underlying24
  have HR0_2 := Aside0.mk hr0_2
  have HC0_2 := Aside0.mk hc0_2
  clear hr0_2 hc0_2
  have HB := Aside0.mk (Below.refl w.heap.size w)
  have H : ((laws_zzFits10.f a0_0 a0_1 l0_2).bind fun t202 => (if t202 = true then (laws_FnWalkVisits.j0 k a1 (decide ((a1.size : Int) > 2147483647)) a0_0 a0_1 l0_2) else (laws_FnWalkVisits.j0 k a1 true a0_0 a0_1 l0_2))) = some r := h
  clear h
  have HC3 := Aside0.mk H
  clear H
  go_enter Tryz.func6, Tryz.ntmps6
  go_upto_region 1 with (first | ((with_reducible refine gate_dst (N := 2) rfl ?_); (try (refine gate_guard (by rfl) ?_; dsimp only)); refine box_event ?hg (N := 2) ?hd (cs := #[.string a0_0, .string a0_1, .slice A0_2 l0_2.length c0_2]) (t := 24) ?hr ?_; (case hd => rfl); (case hg => rfl); (case hr => first | (go_simp; done) | (go_simp; rfl)); intro gb201 hg w4 hbox hb; have n0_ := Aside0.mk (below_step (by repeat (first | (with_reducible first | exact HB.out | apply below_alloc | apply pw_below_drewN | apply below_drew1) | exact HB.out)) hb); have n1_ := Aside0.mk (hbox); have n2_ := Aside0.mk ((by rw [hg]; exact (below_size (by repeat (first | (with_reducible first | exact HB.out | apply below_alloc | apply pw_below_drewN | apply below_drew1) | exact HB.out))) : w.heap.size ≤ gb201)); have n3_ := Aside0.mk ((by rw [hg]; exact (below_size (by repeat (first | (with_reducible first | exact HB.out | apply below_alloc | apply pw_below_drewN | apply below_drew1) | exact HB.out))) : w.heap.size ≤ gb201)); clear HB; have HB := n0_; have BK201 := n1_; have GW201 := n2_; have GE201 := n3_; clear n0_ n1_ n2_ n3_; clear hb hbox hg))
  (try simp only [Act.put, List.setIfInBounds_toArray, List.set_cons_zero, List.set_cons_succ])
  go_cut [13] (fun v13 wc => ∃ (kq : Nat) (x13_2 : Bool), v13 = .bool x13_2 ∧ Aside0 (laws_FnWalkVisits.j0 kq a1 x13_2 a0_0 a0_1 l0_2 = some r) ∧ Aside0 (kq ≤ k) ∧ Aside0 (wc.heap[gb201]? = some (.cells #[.string a0_0, .string a0_1, (.slice A0_2 l0_2.length c0_2)] 24 (0, 0))) ∧ Aside0 (Below w.heap.size w wc))
  case first =>
    have H := HC3.out
    clear HC3
    replace H := Option.bind_eq_some_iff.mp H
    obtain ⟨t202, A50, H⟩ := H
    replace H : (if t202 = true then (laws_FnWalkVisits.j0 k a1 (decide ((a1.size : Int) > 2147483647)) a0_0 a0_1 l0_2) else (laws_FnWalkVisits.j0 k a1 true a0_0 a0_1 l0_2)) = some r := H
    have A5 := Aside0.mk A50
    clear A50
    by_cases c6 : t202 = true
    · subst c6
      have H1 : (laws_FnWalkVisits.j0 k a1 (decide ((a1.size : Int) > 2147483647)) a0_0 a0_1 l0_2) = some r := by rw [if_pos rfl] at H; exact H
      clear H
      have H := H1
      clear H1
      have H' := Aside0.mk H
      clear H
      have hcz7_0 : w4.cell? ⟨gb201, 0, none⟩ = some (.string a0_0) := (blk_cell BK201.out 0).trans rfl
      have hcz7_1 : w4.cell? ⟨gb201, 1, none⟩ = some (.string a0_1) := (blk_cell BK201.out 1).trans rfl
      have hcz7_2 : w4.cell? ⟨gb201, 2, none⟩ = some (.slice A0_2 l0_2.length c0_2) := (blk_cell BK201.out 2).trans rfl
      have hfz7_0 := blk_frozen BK201.out 0
      have hfz7_1 := blk_frozen BK201.out 1
      have hfz7_2 := blk_frozen BK201.out 2
      go_wp2_with (first | ((with_reducible refine gate_callee (f := 9) rfl ?_); refine goesL_ (some 7) rfl rfl Tryz.func9 (by kernel_rfl) rfl #[.agg #[.string a0_0, .string a0_1, .slice A0_2 l0_2.length c0_2]] rfl (by (try simp only [List.map_toArray, List.map_cons, List.map_nil]); first | done | rfl | (simp only [List.length_drop, List.length_take]; rfl)) ?_; (with_reducible refine (laws_zzFits10.calls a0_0 a0_1 _ _ l0_2 true _ ?side1 ?side2 A5.out).mono ?_); (case side1 => repeat (first | exact (Kd.C_below HR0_2.out HB.out) | (with_reducible refine Kd.C_alloc ?_ _) | (with_reducible refine Kd.C_drewN ?_ _) | (with_reducible refine Kd.C_drew ?_))); (case side2 => exact HC0_2.out); rintro e w8 ⟨rfl, hb⟩; refine ⟨_, rfl, ?_⟩; have n0_ := Aside0.mk (blk_below (g := gb201) (o := .cells #[.string a0_0, .string a0_1, .slice A0_2 l0_2.length c0_2] 24 (0, 0)) (by (with_reducible repeat (first | refine blk_drewN ?_ _ | refine blk_drew ?_ | refine blk_alloc ?_ _)); exact BK201.out) hb); have n1_ := Aside0.mk (below_step (by repeat (first | (with_reducible first | exact HB.out | apply below_alloc | apply pw_below_drewN | apply below_drew1 | refine below_set ?_ GE201.out) | exact HB.out)) hb); clear BK201; clear HB; have BK201 := n0_; have HB := n1_; clear n0_ n1_; (try clear hb); (try clear hb2); (try clear hk); (try clear hi)))
      go_meet
      case rel => exact ⟨_, (decide ((a1.size : Int) > 2147483647)), (by first | rfl | (simp; done) | (simp [*]; done)), H', ⟨by first | omega | exact Nat.le_refl _⟩, ⟨by (with_reducible repeat (first | refine blk_drewN ?_ _ | refine blk_drew ?_ | refine blk_alloc ?_ _)); exact BK201.out⟩, ⟨by repeat (first | (with_reducible first | exact HB.out | apply below_alloc | apply pw_below_drewN | apply below_drew1 | refine below_set ?_ GE201.out) | exact HB.out)⟩⟩
    · replace c6 := Bool.eq_false_iff.mpr c6
      subst c6
      have H1 : (laws_FnWalkVisits.j0 k a1 true a0_0 a0_1 l0_2) = some r := by rw [if_neg (show ¬ (false = true) by decide)] at H; exact H
      clear H
      have H := H1
      clear H1
      have H' := Aside0.mk H
      clear H
      have hcz9_0 : w4.cell? ⟨gb201, 0, none⟩ = some (.string a0_0) := (blk_cell BK201.out 0).trans rfl
      have hcz9_1 : w4.cell? ⟨gb201, 1, none⟩ = some (.string a0_1) := (blk_cell BK201.out 1).trans rfl
      have hcz9_2 : w4.cell? ⟨gb201, 2, none⟩ = some (.slice A0_2 l0_2.length c0_2) := (blk_cell BK201.out 2).trans rfl
      have hfz9_0 := blk_frozen BK201.out 0
      have hfz9_1 := blk_frozen BK201.out 1
      have hfz9_2 := blk_frozen BK201.out 2
      go_wp2_with (first | ((with_reducible refine gate_callee (f := 9) rfl ?_); refine goesL_ (some 7) rfl rfl Tryz.func9 (by kernel_rfl) rfl #[.agg #[.string a0_0, .string a0_1, .slice A0_2 l0_2.length c0_2]] rfl (by (try simp only [List.map_toArray, List.map_cons, List.map_nil]); first | done | rfl | (simp only [List.length_drop, List.length_take]; rfl)) ?_; (with_reducible refine (laws_zzFits10.calls a0_0 a0_1 _ _ l0_2 false _ ?side1 ?side2 A5.out).mono ?_); (case side1 => repeat (first | exact (Kd.C_below HR0_2.out HB.out) | (with_reducible refine Kd.C_alloc ?_ _) | (with_reducible refine Kd.C_drewN ?_ _) | (with_reducible refine Kd.C_drew ?_))); (case side2 => exact HC0_2.out); rintro e w10 ⟨rfl, hb⟩; refine ⟨_, rfl, ?_⟩; have n0_ := Aside0.mk (blk_below (g := gb201) (o := .cells #[.string a0_0, .string a0_1, .slice A0_2 l0_2.length c0_2] 24 (0, 0)) (by (with_reducible repeat (first | refine blk_drewN ?_ _ | refine blk_drew ?_ | refine blk_alloc ?_ _)); exact BK201.out) hb); have n1_ := Aside0.mk (below_step (by repeat (first | (with_reducible first | exact HB.out | apply below_alloc | apply pw_below_drewN | apply below_drew1 | refine below_set ?_ GE201.out) | exact HB.out)) hb); clear BK201; clear HB; have BK201 := n0_; have HB := n1_; clear n0_ n1_; (try clear hb); (try clear hb2); (try clear hk); (try clear hi)))
      go_meet
      case rel => exact ⟨_, (true), (by first | rfl | (simp; done) | (simp [*]; done)), H', ⟨by first | omega | exact Nat.le_refl _⟩, ⟨by (with_reducible repeat (first | refine blk_drewN ?_ _ | refine blk_drew ?_ | refine blk_alloc ?_ _)); exact BK201.out⟩, ⟨by repeat (first | (with_reducible first | exact HB.out | apply below_alloc | apply pw_below_drewN | apply below_drew1 | refine below_set ?_ GE201.out) | exact HB.out)⟩⟩
  case rest =>
    clear HC3
    try clear p2
    try clear c6
    try clear c9
    try clear hcz7_0
    try clear hcz7_1
    try clear hcz7_2
    try clear hcz9_0
    try clear hcz9_1
    try clear hcz9_2
    try clear hfz7_0
    try clear hfz7_1
    try clear hfz7_2
    try clear hfz9_0
    try clear hfz9_1
    try clear hfz9_2
    obtain ⟨kq, x13_2, rfl, HA, HJ2, BK201, HB⟩ := hcut
    cases kq with
    | zero => exact absurd HA.out (by simp [laws_FnWalkVisits.j0])
    | succ kj2 =>
      have H := HA.out
      clear HA
      simp only [laws_FnWalkVisits.j0] at H
      by_cases c11 : x13_2 = true
      · subst c11
        have H1 : (some true) = some r := by rw [if_pos rfl] at H; exact H
        clear H
        have H := H1
        clear H1
        obtain rfl := Option.some.inj H
        go_wp2
        go_ret
        exact ⟨by first | rfl | (simp [errW_none, errW_some] <;> rfl) | (simp [*, errW_none, errW_some] <;> rfl), by repeat (first | (with_reducible first | exact HB.out | apply below_alloc | apply pw_below_drewN | apply below_drew1 | refine below_set ?_ GE201.out) | exact HB.out)⟩
      · replace c11 := Bool.eq_false_iff.mpr c11
        subst c11
        have H1 : ((spec_IsExprTree.f kj2 a0_0 a0_1 l0_2).bind fun t203 => (if t203 = true then (laws_FnWalkVisits.j1 kj2 a1 (a1.toList == ([] : List UInt8)) a0_0 a0_1 l0_2) else (laws_FnWalkVisits.j1 kj2 a1 true a0_0 a0_1 l0_2))) = some r := by rw [if_neg (show ¬ (false = true) by decide)] at H; exact H
        clear H
        have H := H1
        clear H1
        have HC12 := Aside0.mk H
        clear H
        go_upto_region 3 with (fail)
        go_cut [20] (fun v20 wc => ∃ (kq : Nat) (x20_11 : Bool), v20 = .bool x20_11 ∧ Aside0 (laws_FnWalkVisits.j1 kq a1 x20_11 a0_0 a0_1 l0_2 = some r) ∧ Aside0 (kq ≤ kj2) ∧ Aside0 (wc.heap[gb201]? = some (.cells #[.string a0_0, .string a0_1, (.slice A0_2 l0_2.length c0_2)] 24 (0, 0))) ∧ Aside0 (Below w.heap.size w wc))
        case first =>
          have H := HC12.out
          clear HC12
          replace H := Option.bind_eq_some_iff.mp H
          obtain ⟨t203, A130, H⟩ := H
          replace H : (if t203 = true then (laws_FnWalkVisits.j1 kj2 a1 (a1.toList == ([] : List UInt8)) a0_0 a0_1 l0_2) else (laws_FnWalkVisits.j1 kj2 a1 true a0_0 a0_1 l0_2)) = some r := H
          have A13 := Aside0.mk A130
          clear A130
          by_cases c14 : t203 = true
          · subst c14
            have H1 : (laws_FnWalkVisits.j1 kj2 a1 (a1.toList == ([] : List UInt8)) a0_0 a0_1 l0_2) = some r := by rw [if_pos rfl] at H; exact H
            clear H
            have H := H1
            clear H1
            have H' := Aside0.mk H
            clear H
            have hcz15_0 : wc.cell? ⟨gb201, 0, none⟩ = some (.string a0_0) := (blk_cell BK201.out 0).trans rfl
            have hcz15_1 : wc.cell? ⟨gb201, 1, none⟩ = some (.string a0_1) := (blk_cell BK201.out 1).trans rfl
            have hcz15_2 : wc.cell? ⟨gb201, 2, none⟩ = some (.slice A0_2 l0_2.length c0_2) := (blk_cell BK201.out 2).trans rfl
            have hfz15_0 := blk_frozen BK201.out 0
            have hfz15_1 := blk_frozen BK201.out 1
            have hfz15_2 := blk_frozen BK201.out 2
            go_wp2_with (first | ((with_reducible refine gate_callee (f := 10) rfl ?_); refine goesL_ (some 15) rfl rfl Tryz.func10 (by kernel_rfl) rfl #[.agg #[.string a0_0, .string a0_1, .slice A0_2 l0_2.length c0_2]] rfl (by (try simp only [List.map_toArray, List.map_cons, List.map_nil]); first | done | rfl | (simp only [List.length_drop, List.length_take]; rfl)) ?_; (with_reducible refine (spec_IsExprTree.calls kj2 a0_0 a0_1 _ _ l0_2 true _ ?side1 ?side2 A13.out).mono ?_); (case side1 => repeat (first | exact (Kd.C_below HR0_2.out HB.out) | (with_reducible refine Kd.C_alloc ?_ _) | (with_reducible refine Kd.C_drewN ?_ _) | (with_reducible refine Kd.C_drew ?_))); (case side2 => exact HC0_2.out); rintro e w16 ⟨rfl, hb⟩; refine ⟨_, rfl, ?_⟩; have n0_ := Aside0.mk (blk_below (g := gb201) (o := .cells #[.string a0_0, .string a0_1, .slice A0_2 l0_2.length c0_2] 24 (0, 0)) (by (with_reducible repeat (first | refine blk_drewN ?_ _ | refine blk_drew ?_ | refine blk_alloc ?_ _)); exact BK201.out) hb); have n1_ := Aside0.mk (below_step (by repeat (first | (with_reducible first | exact HB.out | apply below_alloc | apply pw_below_drewN | apply below_drew1 | refine below_set ?_ GE201.out) | exact HB.out)) hb); clear BK201; clear HB; have BK201 := n0_; have HB := n1_; clear n0_ n1_; (try clear hb); (try clear hb2); (try clear hk); (try clear hi)))
            go_meet
            case rel => exact ⟨_, ((a1.toList == ([] : List UInt8))), (by first | rfl | (simp; done) | (simp [*]; done)), H', ⟨by have := HJ2.out; first | omega | exact Nat.le_refl _⟩, ⟨by (with_reducible repeat (first | refine blk_drewN ?_ _ | refine blk_drew ?_ | refine blk_alloc ?_ _)); exact BK201.out⟩, ⟨by repeat (first | (with_reducible first | exact HB.out | apply below_alloc | apply pw_below_drewN | apply below_drew1 | refine below_set ?_ GE201.out) | exact HB.out)⟩⟩
          · replace c14 := Bool.eq_false_iff.mpr c14
            subst c14
            have H1 : (laws_FnWalkVisits.j1 kj2 a1 true a0_0 a0_1 l0_2) = some r := by rw [if_neg (show ¬ (false = true) by decide)] at H; exact H
            clear H
            have H := H1
            clear H1
            have H' := Aside0.mk H
            clear H
            have hcz17_0 : wc.cell? ⟨gb201, 0, none⟩ = some (.string a0_0) := (blk_cell BK201.out 0).trans rfl
            have hcz17_1 : wc.cell? ⟨gb201, 1, none⟩ = some (.string a0_1) := (blk_cell BK201.out 1).trans rfl
            have hcz17_2 : wc.cell? ⟨gb201, 2, none⟩ = some (.slice A0_2 l0_2.length c0_2) := (blk_cell BK201.out 2).trans rfl
            have hfz17_0 := blk_frozen BK201.out 0
            have hfz17_1 := blk_frozen BK201.out 1
            have hfz17_2 := blk_frozen BK201.out 2
            go_wp2_with (first | ((with_reducible refine gate_callee (f := 10) rfl ?_); refine goesL_ (some 15) rfl rfl Tryz.func10 (by kernel_rfl) rfl #[.agg #[.string a0_0, .string a0_1, .slice A0_2 l0_2.length c0_2]] rfl (by (try simp only [List.map_toArray, List.map_cons, List.map_nil]); first | done | rfl | (simp only [List.length_drop, List.length_take]; rfl)) ?_; (with_reducible refine (spec_IsExprTree.calls kj2 a0_0 a0_1 _ _ l0_2 false _ ?side1 ?side2 A13.out).mono ?_); (case side1 => repeat (first | exact (Kd.C_below HR0_2.out HB.out) | (with_reducible refine Kd.C_alloc ?_ _) | (with_reducible refine Kd.C_drewN ?_ _) | (with_reducible refine Kd.C_drew ?_))); (case side2 => exact HC0_2.out); rintro e w18 ⟨rfl, hb⟩; refine ⟨_, rfl, ?_⟩; have n0_ := Aside0.mk (blk_below (g := gb201) (o := .cells #[.string a0_0, .string a0_1, .slice A0_2 l0_2.length c0_2] 24 (0, 0)) (by (with_reducible repeat (first | refine blk_drewN ?_ _ | refine blk_drew ?_ | refine blk_alloc ?_ _)); exact BK201.out) hb); have n1_ := Aside0.mk (below_step (by repeat (first | (with_reducible first | exact HB.out | apply below_alloc | apply pw_below_drewN | apply below_drew1 | refine below_set ?_ GE201.out) | exact HB.out)) hb); clear BK201; clear HB; have BK201 := n0_; have HB := n1_; clear n0_ n1_; (try clear hb); (try clear hb2); (try clear hk); (try clear hi)))
            go_meet
            case rel => exact ⟨_, (true), (by first | rfl | (simp; done) | (simp [*]; done)), H', ⟨by have := HJ2.out; first | omega | exact Nat.le_refl _⟩, ⟨by (with_reducible repeat (first | refine blk_drewN ?_ _ | refine blk_drew ?_ | refine blk_alloc ?_ _)); exact BK201.out⟩, ⟨by repeat (first | (with_reducible first | exact HB.out | apply below_alloc | apply pw_below_drewN | apply below_drew1 | refine below_set ?_ GE201.out) | exact HB.out)⟩⟩
        case rest =>
          clear HC12
          try clear c1
          try clear p2
          try clear c6
          try clear c9
          try clear c10
          try clear c11
          try clear c14
          try clear hcz15_0
          try clear hcz15_1
          try clear hcz15_2
          try clear hcz17_0
          try clear hcz17_1
          try clear hcz17_2
          try clear hcz7_0
          try clear hcz7_1
          try clear hcz7_2
          try clear hcz9_0
          try clear hcz9_1
          try clear hcz9_2
          try clear hfz15_0
          try clear hfz15_1
          try clear hfz15_2
          try clear hfz17_0
          try clear hfz17_1
          try clear hfz17_2
          try clear hfz7_0
          try clear hfz7_1
          try clear hfz7_2
          try clear hfz9_0
          try clear hfz9_1
          try clear hfz9_2
          try clear p2
          obtain ⟨kq, x20_11, rfl, HA, HJ11, BK201, HB⟩ := hcut
          cases kq with
          | zero => exact absurd HA.out (by simp [laws_FnWalkVisits.j1])
          | succ kj11 =>
            have H := HA.out
            clear HA
            simp only [laws_FnWalkVisits.j1] at H
            by_cases c19 : x20_11 = true
            · subst c19
              have H1 : (some true) = some r := by rw [if_pos rfl] at H; exact H
              clear H
              have H := H1
              clear H1
              obtain rfl := Option.some.inj H
              go_wp2
              go_ret
              exact ⟨by first | rfl | (simp [errW_none, errW_some] <;> rfl) | (simp [*, errW_none, errW_some] <;> rfl), by repeat (first | (with_reducible first | exact HB.out | apply below_alloc | apply pw_below_drewN | apply below_drew1 | refine below_set ?_ GE201.out) | exact HB.out)⟩
            · replace c19 := Bool.eq_false_iff.mpr c19
              subst c19
              have H1 : ((impl_Walked.f a0_0 a0_1 l0_2 a1).bind fun t204 => (if (t204.length : Int) > 0 then ((impl_Inspected.f a0_0 a0_1 l0_2 a1).bind fun t207 => ((laws_sameVisits9.f kj11 t204 t207).bind fun t210 => (some t210))) else (some false))) = some r := by rw [if_neg (show ¬ (false = true) by decide)] at H; exact H
              clear H
              have H := H1
              clear H1
              replace H := Option.bind_eq_some_iff.mp H
              obtain ⟨t204, A200, H⟩ := H
              replace H : (if (t204.length : Int) > 0 then ((impl_Inspected.f a0_0 a0_1 l0_2 a1).bind fun t207 => ((laws_sameVisits9.f kj11 t204 t207).bind fun t210 => (some t210))) else (some false)) = some r := H
              have A20 := Aside0.mk A200
              clear A200
              by_cases c21 : (t204.length : Int) > 0
              · rw [if_pos c21] at H
                have c21b0 : decide (0 < (t204.length : Int)) = true := decide_eq_true c21
                have c21b1 : decide (0 < t204.length) = true := decide_eq_true (by omega)
                clear c21
                replace H := Option.bind_eq_some_iff.mp H
                obtain ⟨t207, A220, H⟩ := H
                replace H : ((laws_sameVisits9.f kj11 t204 t207).bind fun t210 => (some t210)) = some r := H
                have A22 := Aside0.mk A220
                clear A220
                replace H := Option.bind_eq_some_iff.mp H
                obtain ⟨t210, A230, H⟩ := H
                replace H : (some t210) = some r := H
                have A23 := Aside0.mk A230
                clear A230
                obtain rfl := Option.some.inj H
                have hcz24_0 : wc.cell? ⟨gb201, 0, none⟩ = some (.string a0_0) := (blk_cell BK201.out 0).trans rfl
                have hcz24_1 : wc.cell? ⟨gb201, 1, none⟩ = some (.string a0_1) := (blk_cell BK201.out 1).trans rfl
                have hcz24_2 : wc.cell? ⟨gb201, 2, none⟩ = some (.slice A0_2 l0_2.length c0_2) := (blk_cell BK201.out 2).trans rfl
                have hfz24_0 := blk_frozen BK201.out 0
                have hfz24_1 := blk_frozen BK201.out 1
                have hfz24_2 := blk_frozen BK201.out 2
                go_wp2_with (first | ((with_reducible refine gate_callee (f := 15) rfl ?_); refine goesL_ (some 23) rfl rfl Tryz.func15 (by kernel_rfl) rfl #[.agg #[.string a0_0, .string a0_1, .slice A0_2 l0_2.length c0_2], .string a1] rfl (by (try simp only [List.map_toArray, List.map_cons, List.map_nil]); first | done | rfl | (simp only [List.length_drop, List.length_take]; rfl)) ?_; (with_reducible refine (impl_Walked.calls a0_0 a0_1 _ _ l0_2 a1 t204 _ ?side1 ?side2 (HTT.out.below ?side3) A20.out).mono ?_); (case side1 => repeat (first | exact (Kd.C_below HR0_2.out HB.out) | (with_reducible refine Kd.C_alloc ?_ _) | (with_reducible refine Kd.C_drewN ?_ _) | (with_reducible refine Kd.C_drew ?_))); (case side2 => exact HC0_2.out); (case side3 => repeat (first | (with_reducible first | exact HB.out | apply below_alloc | apply pw_below_drewN | apply below_drew1 | refine below_set ?_ GE201.out) | exact HB.out)); rintro e w25 ⟨v205, rfl, ho0, hb⟩; refine ⟨_, rfl, ?_⟩; have n0_ := Aside0.mk (Kd.R_lower ho0 (below_size (by repeat (first | (with_reducible first | exact HB.out | apply below_alloc | apply pw_below_drewN | apply below_drew1 | refine below_set ?_ GE201.out) | exact HB.out)))); have n1_ := Aside0.mk (blk_below (g := gb201) (o := .cells #[.string a0_0, .string a0_1, .slice A0_2 l0_2.length c0_2] 24 (0, 0)) (by (with_reducible repeat (first | refine blk_drewN ?_ _ | refine blk_drew ?_ | refine blk_alloc ?_ _)); exact BK201.out) hb); have n2_ := Aside0.mk (below_step (by repeat (first | (with_reducible first | exact HB.out | apply below_alloc | apply pw_below_drewN | apply below_drew1 | refine below_set ?_ GE201.out) | exact HB.out)) hb); clear BK201; clear HB; have HO206 := n0_; have BK201 := n1_; have HB := n2_; clear n0_ n1_ n2_; (try clear hb); (try clear hb2); (try clear hk); (try clear hi); (try clear ho0); obtain ⟨Ao26, co26, eo26⟩ := Kd.R_slice HO206.out; subst eo26; have hcz27_0 : w25.cell? ⟨gb201, 0, none⟩ = some (.string a0_0) := (blk_cell BK201.out 0).trans rfl; have hcz27_1 : w25.cell? ⟨gb201, 1, none⟩ = some (.string a0_1) := (blk_cell BK201.out 1).trans rfl; have hcz27_2 : w25.cell? ⟨gb201, 2, none⟩ = some (.slice A0_2 l0_2.length c0_2) := (blk_cell BK201.out 2).trans rfl; have hfz27_0 := blk_frozen BK201.out 0; have hfz27_1 := blk_frozen BK201.out 1; have hfz27_2 := blk_frozen BK201.out 2) | (go_at_call 11; (with_reducible refine (impl_Inspected.calls a0_0 a0_1 _ _ l0_2 a1 t207 _ ?side1 ?side2 (HTT.out.below ?side3) A22.out).mono ?_); (case side1 => repeat (first | exact (Kd.C_below HR0_2.out HB.out) | (with_reducible refine Kd.C_alloc ?_ _) | (with_reducible refine Kd.C_drewN ?_ _) | (with_reducible refine Kd.C_drew ?_))); (case side2 => exact HC0_2.out); (case side3 => repeat (first | (with_reducible first | exact HB.out | apply below_alloc | apply pw_below_drewN | apply below_drew1 | refine below_set ?_ GE201.out) | exact HB.out)); rintro e w28 ⟨v208, rfl, ho0, hb⟩; have n0_ := Aside0.mk (Kd.R_elder' (by (with_reducible repeat (first | apply Kd.R_alloc | apply Kd.R_drewN | apply Kd.R_drew)); exact HO206.out) (Kd.R_base ho0) hb); have n1_ := Aside0.mk (Kd.R_lower (Kd.R_new' ho0 (Kd.R_lt (by (with_reducible repeat (first | apply Kd.R_alloc | apply Kd.R_drewN | apply Kd.R_drew)); exact HO206.out))) (below_size (by repeat (first | (with_reducible first | exact HB.out | apply below_alloc | apply pw_below_drewN | apply below_drew1 | refine below_set ?_ GE201.out) | exact HB.out)))); have n2_ := Aside0.mk (blk_below (g := gb201) (o := .cells #[.string a0_0, .string a0_1, .slice A0_2 l0_2.length c0_2] 24 (0, 0)) (by (with_reducible repeat (first | refine blk_drewN ?_ _ | refine blk_drew ?_ | refine blk_alloc ?_ _)); exact BK201.out) hb); have n3_ := Aside0.mk (below_step (by repeat (first | (with_reducible first | exact HB.out | apply below_alloc | apply pw_below_drewN | apply below_drew1 | refine below_set ?_ GE201.out) | exact HB.out)) hb); clear HO206; clear BK201; clear HB; have HO206 := n0_; have HO209 := n1_; have BK201 := n2_; have HB := n3_; clear n0_ n1_ n2_ n3_; (try clear hb); (try clear hb2); (try clear hk); (try clear hi); (try clear ho0); obtain ⟨Ao29, co29, eo29⟩ := Kd.R_slice HO209.out; subst eo29) | (go_at_call 12; (with_reducible refine (laws_sameVisits9.calls kj11 _ _ t204 _ _ t207 t210 _ ?side1 ?side2 ?side3 ?side4 A23.out).mono ?_); (case side1 => repeat (first | exact (Kd.R_reads' HO206.out).2.2 | (with_reducible refine Kd.C_alloc ?_ _) | (with_reducible refine Kd.C_drewN ?_ _) | (with_reducible refine Kd.C_drew ?_))); (case side2 => exact (Kd.R_reads' HO206.out).2.1); (case side3 => repeat (first | exact (Kd.R_reads' HO209.out).2.2 | (with_reducible refine Kd.C_alloc ?_ _) | (with_reducible refine Kd.C_drewN ?_ _) | (with_reducible refine Kd.C_drew ?_))); (case side4 => exact (Kd.R_reads' HO209.out).2.1); rintro e w30 ⟨rfl, hb⟩; have n0_ := Aside0.mk (Kd.R_below (by (with_reducible repeat (first | apply Kd.R_alloc | apply Kd.R_drewN | apply Kd.R_drew)); exact HO206.out) hb); have n1_ := Aside0.mk (Kd.R_below (by (with_reducible repeat (first | apply Kd.R_alloc | apply Kd.R_drewN | apply Kd.R_drew)); exact HO209.out) hb); have n2_ := Aside0.mk (blk_below (g := gb201) (o := .cells #[.string a0_0, .string a0_1, .slice A0_2 l0_2.length c0_2] 24 (0, 0)) (by (with_reducible repeat (first | refine blk_drewN ?_ _ | refine blk_drew ?_ | refine blk_alloc ?_ _)); exact BK201.out) hb); have n3_ := Aside0.mk (below_step (by repeat (first | (with_reducible first | exact HB.out | apply below_alloc | apply pw_below_drewN | apply below_drew1 | refine below_set ?_ GE201.out) | exact HB.out)) hb); clear HO206; clear HO209; clear BK201; clear HB; have HO206 := n0_; have HO209 := n1_; have BK201 := n2_; have HB := n3_; clear n0_ n1_ n2_ n3_; (try clear hb); (try clear hb2); (try clear hk); (try clear hi)))
                go_ret
                exact ⟨by first | rfl | (simp [errW_none, errW_some] <;> rfl) | (simp [*, errW_none, errW_some] <;> rfl), by repeat (first | (with_reducible first | exact HB.out | apply below_alloc | apply pw_below_drewN | apply below_drew1 | refine below_set ?_ GE201.out) | exact HB.out)⟩
              · rw [if_neg c21] at H
                have c21b0 : decide (0 < (t204.length : Int)) = false := decide_eq_false c21
                have c21b1 : decide (0 < t204.length) = false := decide_eq_false (by omega)
                clear c21
                obtain rfl := Option.some.inj H
                have hcz31_0 : wc.cell? ⟨gb201, 0, none⟩ = some (.string a0_0) := (blk_cell BK201.out 0).trans rfl
                have hcz31_1 : wc.cell? ⟨gb201, 1, none⟩ = some (.string a0_1) := (blk_cell BK201.out 1).trans rfl
                have hcz31_2 : wc.cell? ⟨gb201, 2, none⟩ = some (.slice A0_2 l0_2.length c0_2) := (blk_cell BK201.out 2).trans rfl
                have hfz31_0 := blk_frozen BK201.out 0
                have hfz31_1 := blk_frozen BK201.out 1
                have hfz31_2 := blk_frozen BK201.out 2
                go_wp2_with (first | ((with_reducible refine gate_callee (f := 15) rfl ?_); refine goesL_ (some 23) rfl rfl Tryz.func15 (by kernel_rfl) rfl #[.agg #[.string a0_0, .string a0_1, .slice A0_2 l0_2.length c0_2], .string a1] rfl (by (try simp only [List.map_toArray, List.map_cons, List.map_nil]); first | done | rfl | (simp only [List.length_drop, List.length_take]; rfl)) ?_; (with_reducible refine (impl_Walked.calls a0_0 a0_1 _ _ l0_2 a1 t204 _ ?side1 ?side2 (HTT.out.below ?side3) A20.out).mono ?_); (case side1 => repeat (first | exact (Kd.C_below HR0_2.out HB.out) | (with_reducible refine Kd.C_alloc ?_ _) | (with_reducible refine Kd.C_drewN ?_ _) | (with_reducible refine Kd.C_drew ?_))); (case side2 => exact HC0_2.out); (case side3 => repeat (first | (with_reducible first | exact HB.out | apply below_alloc | apply pw_below_drewN | apply below_drew1 | refine below_set ?_ GE201.out) | exact HB.out)); rintro e w32 ⟨v205, rfl, ho0, hb⟩; refine ⟨_, rfl, ?_⟩; have n0_ := Aside0.mk (Kd.R_lower ho0 (below_size (by repeat (first | (with_reducible first | exact HB.out | apply below_alloc | apply pw_below_drewN | apply below_drew1 | refine below_set ?_ GE201.out) | exact HB.out)))); have n1_ := Aside0.mk (blk_below (g := gb201) (o := .cells #[.string a0_0, .string a0_1, .slice A0_2 l0_2.length c0_2] 24 (0, 0)) (by (with_reducible repeat (first | refine blk_drewN ?_ _ | refine blk_drew ?_ | refine blk_alloc ?_ _)); exact BK201.out) hb); have n2_ := Aside0.mk (below_step (by repeat (first | (with_reducible first | exact HB.out | apply below_alloc | apply pw_below_drewN | apply below_drew1 | refine below_set ?_ GE201.out) | exact HB.out)) hb); clear BK201; clear HB; have HO206 := n0_; have BK201 := n1_; have HB := n2_; clear n0_ n1_ n2_; (try clear hb); (try clear hb2); (try clear hk); (try clear hi); (try clear ho0); obtain ⟨Ao33, co33, eo33⟩ := Kd.R_slice HO206.out; subst eo33))
                go_ret
                exact ⟨by first | rfl | (simp [errW_none, errW_some] <;> rfl) | (simp [*, errW_none, errW_some] <;> rfl), by repeat (first | (with_reducible first | exact HB.out | apply below_alloc | apply pw_below_drewN | apply below_drew1 | refine below_set ?_ GE201.out) | exact HB.out)⟩

end Go.Proofs.YtdcaabjkklppjaaGreatFmt.A
