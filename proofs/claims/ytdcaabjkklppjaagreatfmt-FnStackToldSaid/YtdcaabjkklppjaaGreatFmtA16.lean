-- Written by a program of this session (gprint.py) out of the kit's print of the translation. Not trusted: Lean checks it.
import Derived.Test.YtdcaabjkklppjaaGreatFmtA0
import Derived.Test.YtdcaabjkklppjaaGreatFmtA2
import Derived.Test.YtdcaabjkklppjaaGreatFmtA3
import Derived.Test.YtdcaabjkklppjaaGreatFmtA3i
import Derived.Test.YtdcaabjkklppjaaGreatFmtA6
import Derived.Test.YtdcaabjkklppjaaGreatFmtA13
import Derived.Test.YtdcaabjkklppjaaGreatFmtGSta
namespace Go.Proofs.YtdcaabjkklppjaaGreatFmt.A
open Go.RowKit Go.Proofs.YtdcaabjkklppjaaGreatFmtW.PrintWords Go.Proofs.YtdcaabjkklppjaaGreatFmtW.PrintLast Go.Proofs.YtdcaabjkklppjaaGreatFmtW.PrintMore
attribute [local go_sem] max2_int min2_int max_two min_two max_three min_three max_four min_four   -- for this text's walks alone
set_option linter.unusedVariables false
set_option linter.unusedSimpArgs false

/-! ### laws_FnStack: function 8 -/
mutual
noncomputable def laws_FnStack.j0 : Nat → ByteArray → Int → Bool → ByteArray → ByteArray → List (S24) → Option (Bool)
  | 0, _, _, _, _, _, _ => none
  | k + 1, x1, x2, x16, x240000, x240001, x240002 => if x16 = true then (some true) else ((spec_IsExprTree.f k x240000 x240001 x240002).bind fun t241 => (if t241 = true then (if x1.toList = ([] : List UInt8) then (laws_FnStack.j1 k x1 x2 true x240000 x240001 x240002) else (if x2 < 0 then (laws_FnStack.j1 k x1 x2 true x240000 x240001 x240002) else (laws_FnStack.j1 k x1 x2 (decide (x2 > 50)) x240000 x240001 x240002))) else (laws_FnStack.j1 k x1 x2 true x240000 x240001 x240002)))
noncomputable def laws_FnStack.j1 : Nat → ByteArray → Int → Bool → ByteArray → ByteArray → List (S24) → Option (Bool)
  | 0, _, _, _, _, _, _ => none
  | k + 1, x1, x2, x31, x240000, x240001, x240002 => if x31 = true then (some true) else ((impl_Stacked.f x240000 x240001 x240002 x1 x2).bind fun bt242 => (if bt242.2 = true then (if (bt242.1.length : Int) > 0 then ((impl_Inspected.f x240000 x240001 x240002 x1).bind fun t246 => ((laws_nodes9.f k t246 x2 false).bind fun t249 => ((laws_sameVisits9.f k bt242.1 t249).bind fun t252 => (some t252)))) else (some false)) else (some false)))
end
noncomputable def laws_FnStack.f (k : Nat) (a0_0 : ByteArray) (a0_1 : ByteArray) (l0_2 : List (S24)) (a1 : ByteArray) (a2 : Int) : Option (Bool) := (laws_zzFits10.f a0_0 a0_1 l0_2).bind fun t240 => (if t240 = true then (laws_FnStack.j0 k a1 a2 (decide ((a1.size : Int) > 2147483647)) a0_0 a0_1 l0_2) else (laws_FnStack.j0 k a1 a2 true a0_0 a0_1 l0_2))
theorem laws_FnStack.mono_l : ∀ k, (∀ y0 y1 y2 y3 y4 y5, LeO (laws_FnStack.j0 k y0 y1 y2 y3 y4 y5) (laws_FnStack.j0 (k + 1) y0 y1 y2 y3 y4 y5)) ∧ (∀ y0 y1 y2 y3 y4 y5, LeO (laws_FnStack.j1 k y0 y1 y2 y3 y4 y5) (laws_FnStack.j1 (k + 1) y0 y1 y2 y3 y4 y5))
  | 0 => ⟨fun _ _ _ _ _ _ r h => by simp [laws_FnStack.j0] at h, fun _ _ _ _ _ _ r h => by simp [laws_FnStack.j1] at h⟩
  | k + 1 => by
    obtain ⟨ih0, ih1⟩ := laws_FnStack.mono_l k
    refine ⟨?_, ?_⟩
    · intro y0 y1 y2 y3 y4 y5
      unfold laws_FnStack.j0
      repeat' first
      | (with_reducible exact ih0 _ _ _ _ _ _)
      | (with_reducible exact ih1 _ _ _ _ _ _)
      | (with_reducible exact laws_nodes9.mono _ _ _ _)
      | (with_reducible exact laws_sameVisits9.mono _ _ _)
      | (with_reducible exact spec_IsExprTree.mono _ _ _ _)
      | (with_reducible exact LeO.refl _)
      | (with_reducible exact LeO.none _)
      | (with_reducible refine LeO.ite ?_ ?_)
      | (with_reducible refine LeO.bind ?_ (fun _ => ?_))
      | exact ih0 _ _ _ _ _ _
      | exact ih1 _ _ _ _ _ _
      | exact laws_nodes9.mono _ _ _ _
      | exact laws_sameVisits9.mono _ _ _
      | exact spec_IsExprTree.mono _ _ _ _
      | exact LeO.none _
      | refine LeO.ite ?_ ?_
      | refine LeO.bind ?_ (fun _ => ?_)
    · intro y0 y1 y2 y3 y4 y5
      unfold laws_FnStack.j1
      repeat' first
      | (with_reducible exact ih0 _ _ _ _ _ _)
      | (with_reducible exact ih1 _ _ _ _ _ _)
      | (with_reducible exact laws_nodes9.mono _ _ _ _)
      | (with_reducible exact laws_sameVisits9.mono _ _ _)
      | (with_reducible exact spec_IsExprTree.mono _ _ _ _)
      | (with_reducible exact LeO.refl _)
      | (with_reducible exact LeO.none _)
      | (with_reducible refine LeO.ite ?_ ?_)
      | (with_reducible refine LeO.bind ?_ (fun _ => ?_))
      | exact ih0 _ _ _ _ _ _
      | exact ih1 _ _ _ _ _ _
      | exact laws_nodes9.mono _ _ _ _
      | exact laws_sameVisits9.mono _ _ _
      | exact spec_IsExprTree.mono _ _ _ _
      | exact LeO.none _
      | refine LeO.ite ?_ ?_
      | refine LeO.bind ?_ (fun _ => ?_)
theorem laws_FnStack.mono : ∀ a0 a1 a2 a3 a4 k, LeO (laws_FnStack.f k a0 a1 a2 a3 a4) (laws_FnStack.f (k + 1) a0 a1 a2 a3 a4) := by
  intro a0 a1 a2 a3 a4 k
  obtain ⟨ih0, ih1⟩ := laws_FnStack.mono_l k
  unfold laws_FnStack.f
  repeat' first
      | (with_reducible exact ih0 _ _ _ _ _ _)
      | (with_reducible exact ih1 _ _ _ _ _ _)
      | (with_reducible exact laws_nodes9.mono _ _ _ _)
      | (with_reducible exact laws_sameVisits9.mono _ _ _)
      | (with_reducible exact spec_IsExprTree.mono _ _ _ _)
      | (with_reducible exact LeO.refl _)
      | (with_reducible exact LeO.none _)
      | (with_reducible refine LeO.ite ?_ ?_)
      | (with_reducible refine LeO.bind ?_ (fun _ => ?_))
      | exact ih0 _ _ _ _ _ _
      | exact ih1 _ _ _ _ _ _
      | exact laws_nodes9.mono _ _ _ _
      | exact laws_sameVisits9.mono _ _ _
      | exact spec_IsExprTree.mono _ _ _ _
      | exact LeO.none _
      | refine LeO.ite ?_ ?_
      | refine LeO.bind ?_ (fun _ => ?_)
set_option maxHeartbeats 8000000 in
set_option maxRecDepth 100000 in
theorem laws_FnStack.calls (k : Nat) (a0_0 : ByteArray) (a0_1 : ByteArray) (A0_2 : Option Addr) (c0_2 : Nat) (l0_2 : List (S24)) (a1 : ByteArray) (a2 : Int) (r : Bool) (w : World) (hr0_2 : Kd.C k24 w A0_2 l0_2.length l0_2) (hc0_2 : l0_2.length ≤ c0_2) (hT : TokTab tokS w) (h : laws_FnStack.f k a0_0 a0_1 l0_2 a1 a2 = some r) :
    Calls Tryz.prog 8 #[.agg #[.string a0_0, .string a0_1, .slice A0_2 l0_2.length c0_2], .string a1, .int .i64 a2] w fun e w' => e = .returned (.bool r) ∧ Below w.heap.size w w' := by
  have HTT := Aside0.mk hT
  clear hT
  have hu24 := Tryz.underlying24
  have HR0_2 := Aside0.mk hr0_2
  have HC0_2 := Aside0.mk hc0_2
  clear hr0_2 hc0_2
  have HB := Aside0.mk (Below.refl w.heap.size w)
  have H : ((laws_zzFits10.f a0_0 a0_1 l0_2).bind fun t240 => (if t240 = true then (laws_FnStack.j0 k a1 a2 (decide ((a1.size : Int) > 2147483647)) a0_0 a0_1 l0_2) else (laws_FnStack.j0 k a1 a2 true a0_0 a0_1 l0_2))) = some r := h
  clear h
  have HC4 := Aside0.mk H
  clear H
  go_enter Tryz.func8, Tryz.ntmps8
  go_upto_region 1 with (first | ((with_reducible refine gate_dst (N := 3) rfl ?_); (try (refine gate_guard (by rfl) ?_; dsimp only)); refine box_event ?hg (N := 3) ?hd (cs := #[.string a0_0, .string a0_1, .slice A0_2 l0_2.length c0_2]) (t := 24) ?hr ?_; (case hd => rfl); (case hg => rfl); (case hr => first | (go_simp; done) | (go_simp; rfl)); intro gb239 hg w5 hbox hb; have n0_ := Aside0.mk (below_step (by repeat (first | (with_reducible first | exact HB.out | apply below_alloc | apply pw_below_drewN | apply below_drew1) | exact HB.out)) hb); have n1_ := Aside0.mk (hbox); have n2_ := Aside0.mk ((by rw [hg]; exact (below_size (by repeat (first | (with_reducible first | exact HB.out | apply below_alloc | apply pw_below_drewN | apply below_drew1) | exact HB.out))) : w.heap.size ≤ gb239)); have n3_ := Aside0.mk ((by rw [hg]; exact (below_size (by repeat (first | (with_reducible first | exact HB.out | apply below_alloc | apply pw_below_drewN | apply below_drew1) | exact HB.out))) : w.heap.size ≤ gb239)); clear HB; have HB := n0_; have BK239 := n1_; have GW239 := n2_; have GE239 := n3_; clear n0_ n1_ n2_ n3_; clear hb hbox hg))
  (try simp only [Act.put, List.setIfInBounds_toArray, List.set_cons_zero, List.set_cons_succ])
  go_cut [16] (fun v16 wc => ∃ (kq : Nat) (x16_3 : Bool), v16 = .bool x16_3 ∧ Aside0 (laws_FnStack.j0 kq a1 a2 x16_3 a0_0 a0_1 l0_2 = some r) ∧ Aside0 (kq ≤ k) ∧ Aside0 (wc.heap[gb239]? = some (.cells #[.string a0_0, .string a0_1, (.slice A0_2 l0_2.length c0_2)] 24 (0, 0))) ∧ Aside0 (Below w.heap.size w wc))
  case first =>
    have H := HC4.out
    clear HC4
    replace H := Option.bind_eq_some_iff.mp H
    obtain ⟨t240, A60, H⟩ := H
    replace H : (if t240 = true then (laws_FnStack.j0 k a1 a2 (decide ((a1.size : Int) > 2147483647)) a0_0 a0_1 l0_2) else (laws_FnStack.j0 k a1 a2 true a0_0 a0_1 l0_2)) = some r := H
    have A6 := Aside0.mk A60
    clear A60
    by_cases c7 : t240 = true
    · subst c7
      have H1 : (laws_FnStack.j0 k a1 a2 (decide ((a1.size : Int) > 2147483647)) a0_0 a0_1 l0_2) = some r := by rw [if_pos rfl] at H; exact H
      clear H
      have H := H1
      clear H1
      have H' := Aside0.mk H
      clear H
      have hcz8_0 : w5.cell? ⟨gb239, 0, none⟩ = some (.string a0_0) := (blk_cell BK239.out 0).trans rfl
      have hcz8_1 : w5.cell? ⟨gb239, 1, none⟩ = some (.string a0_1) := (blk_cell BK239.out 1).trans rfl
      have hcz8_2 : w5.cell? ⟨gb239, 2, none⟩ = some (.slice A0_2 l0_2.length c0_2) := (blk_cell BK239.out 2).trans rfl
      have hfz8_0 := blk_frozen BK239.out 0
      have hfz8_1 := blk_frozen BK239.out 1
      have hfz8_2 := blk_frozen BK239.out 2
      go_wp2_with (first | ((with_reducible refine gate_callee (f := 9) rfl ?_); refine goesL_ (some 10) rfl rfl Tryz.func9 (by kernel_rfl) rfl #[.agg #[.string a0_0, .string a0_1, .slice A0_2 l0_2.length c0_2]] rfl (by (try simp only [List.map_toArray, List.map_cons, List.map_nil]); first | done | rfl | (simp only [List.length_drop, List.length_take]; rfl)) ?_; (with_reducible refine (laws_zzFits10.calls a0_0 a0_1 _ _ l0_2 true _ ?side1 ?side2 A6.out).mono ?_); (case side1 => repeat (first | exact (Kd.C_below HR0_2.out HB.out) | (with_reducible refine Kd.C_alloc ?_ _) | (with_reducible refine Kd.C_drewN ?_ _) | (with_reducible refine Kd.C_drew ?_))); (case side2 => exact HC0_2.out); rintro e w9 ⟨rfl, hb⟩; refine ⟨_, rfl, ?_⟩; have n0_ := Aside0.mk (blk_below (g := gb239) (o := .cells #[.string a0_0, .string a0_1, .slice A0_2 l0_2.length c0_2] 24 (0, 0)) (by (with_reducible repeat (first | refine blk_drewN ?_ _ | refine blk_drew ?_ | refine blk_alloc ?_ _)); exact BK239.out) hb); have n1_ := Aside0.mk (below_step (by repeat (first | (with_reducible first | exact HB.out | apply below_alloc | apply pw_below_drewN | apply below_drew1 | refine below_set ?_ GE239.out) | exact HB.out)) hb); clear BK239; clear HB; have BK239 := n0_; have HB := n1_; clear n0_ n1_; (try clear hb); (try clear hb2); (try clear hk); (try clear hi)))
      go_meet
      case rel => exact ⟨_, (decide ((a1.size : Int) > 2147483647)), (by first | rfl | (simp; done) | (simp [*]; done)), H', ⟨by first | omega | exact Nat.le_refl _⟩, ⟨by (with_reducible repeat (first | refine blk_drewN ?_ _ | refine blk_drew ?_ | refine blk_alloc ?_ _)); exact BK239.out⟩, ⟨by repeat (first | (with_reducible first | exact HB.out | apply below_alloc | apply pw_below_drewN | apply below_drew1 | refine below_set ?_ GE239.out) | exact HB.out)⟩⟩
    · replace c7 := Bool.eq_false_iff.mpr c7
      subst c7
      have H1 : (laws_FnStack.j0 k a1 a2 true a0_0 a0_1 l0_2) = some r := by rw [if_neg (show ¬ (false = true) by decide)] at H; exact H
      clear H
      have H := H1
      clear H1
      have H' := Aside0.mk H
      clear H
      have hcz10_0 : w5.cell? ⟨gb239, 0, none⟩ = some (.string a0_0) := (blk_cell BK239.out 0).trans rfl
      have hcz10_1 : w5.cell? ⟨gb239, 1, none⟩ = some (.string a0_1) := (blk_cell BK239.out 1).trans rfl
      have hcz10_2 : w5.cell? ⟨gb239, 2, none⟩ = some (.slice A0_2 l0_2.length c0_2) := (blk_cell BK239.out 2).trans rfl
      have hfz10_0 := blk_frozen BK239.out 0
      have hfz10_1 := blk_frozen BK239.out 1
      have hfz10_2 := blk_frozen BK239.out 2
      go_wp2_with (first | ((with_reducible refine gate_callee (f := 9) rfl ?_); refine goesL_ (some 10) rfl rfl Tryz.func9 (by kernel_rfl) rfl #[.agg #[.string a0_0, .string a0_1, .slice A0_2 l0_2.length c0_2]] rfl (by (try simp only [List.map_toArray, List.map_cons, List.map_nil]); first | done | rfl | (simp only [List.length_drop, List.length_take]; rfl)) ?_; (with_reducible refine (laws_zzFits10.calls a0_0 a0_1 _ _ l0_2 false _ ?side1 ?side2 A6.out).mono ?_); (case side1 => repeat (first | exact (Kd.C_below HR0_2.out HB.out) | (with_reducible refine Kd.C_alloc ?_ _) | (with_reducible refine Kd.C_drewN ?_ _) | (with_reducible refine Kd.C_drew ?_))); (case side2 => exact HC0_2.out); rintro e w11 ⟨rfl, hb⟩; refine ⟨_, rfl, ?_⟩; have n0_ := Aside0.mk (blk_below (g := gb239) (o := .cells #[.string a0_0, .string a0_1, .slice A0_2 l0_2.length c0_2] 24 (0, 0)) (by (with_reducible repeat (first | refine blk_drewN ?_ _ | refine blk_drew ?_ | refine blk_alloc ?_ _)); exact BK239.out) hb); have n1_ := Aside0.mk (below_step (by repeat (first | (with_reducible first | exact HB.out | apply below_alloc | apply pw_below_drewN | apply below_drew1 | refine below_set ?_ GE239.out) | exact HB.out)) hb); clear BK239; clear HB; have BK239 := n0_; have HB := n1_; clear n0_ n1_; (try clear hb); (try clear hb2); (try clear hk); (try clear hi)))
      go_meet
      case rel => exact ⟨_, (true), (by first | rfl | (simp; done) | (simp [*]; done)), H', ⟨by first | omega | exact Nat.le_refl _⟩, ⟨by (with_reducible repeat (first | refine blk_drewN ?_ _ | refine blk_drew ?_ | refine blk_alloc ?_ _)); exact BK239.out⟩, ⟨by repeat (first | (with_reducible first | exact HB.out | apply below_alloc | apply pw_below_drewN | apply below_drew1 | refine below_set ?_ GE239.out) | exact HB.out)⟩⟩
  case rest =>
    clear HC4
    try clear p2
    try clear c7
    try clear c8
    try clear c9
    try clear hcz10_0
    try clear hcz10_1
    try clear hcz10_2
    try clear hcz8_0
    try clear hcz8_1
    try clear hcz8_2
    try clear hfz10_0
    try clear hfz10_1
    try clear hfz10_2
    try clear hfz8_0
    try clear hfz8_1
    try clear hfz8_2
    obtain ⟨kq, x16_3, rfl, HA, HJ3, BK239, HB⟩ := hcut
    cases kq with
    | zero => exact absurd HA.out (by simp [laws_FnStack.j0])
    | succ kj3 =>
      have H := HA.out
      clear HA
      simp only [laws_FnStack.j0] at H
      by_cases c12 : x16_3 = true
      · subst c12
        have H1 : (some true) = some r := by rw [if_pos rfl] at H; exact H
        clear H
        have H := H1
        clear H1
        obtain rfl := Option.some.inj H
        go_wp2
        go_ret
        exact ⟨by first | rfl | (simp [errW_none, errW_some] <;> rfl) | (simp [*, errW_none, errW_some] <;> rfl), by repeat (first | (with_reducible first | exact HB.out | apply below_alloc | apply pw_below_drewN | apply below_drew1 | refine below_set ?_ GE239.out) | exact HB.out)⟩
      · replace c12 := Bool.eq_false_iff.mpr c12
        subst c12
        have H1 : ((spec_IsExprTree.f kj3 a0_0 a0_1 l0_2).bind fun t241 => (if t241 = true then (if a1.toList = ([] : List UInt8) then (laws_FnStack.j1 kj3 a1 a2 true a0_0 a0_1 l0_2) else (if a2 < 0 then (laws_FnStack.j1 kj3 a1 a2 true a0_0 a0_1 l0_2) else (laws_FnStack.j1 kj3 a1 a2 (decide (a2 > 50)) a0_0 a0_1 l0_2))) else (laws_FnStack.j1 kj3 a1 a2 true a0_0 a0_1 l0_2))) = some r := by rw [if_neg (show ¬ (false = true) by decide)] at H; exact H
        clear H
        have H := H1
        clear H1
        have HC13 := Aside0.mk H
        clear H
        go_upto_region 3 with (fail)
        go_cut [31] (fun v31 wc => ∃ (kq : Nat) (x31_12 : Bool), v31 = .bool x31_12 ∧ Aside0 (laws_FnStack.j1 kq a1 a2 x31_12 a0_0 a0_1 l0_2 = some r) ∧ Aside0 (kq ≤ kj3) ∧ Aside0 (wc.heap[gb239]? = some (.cells #[.string a0_0, .string a0_1, (.slice A0_2 l0_2.length c0_2)] 24 (0, 0))) ∧ Aside0 (Below w.heap.size w wc))
        case first =>
          have H := HC13.out
          clear HC13
          replace H := Option.bind_eq_some_iff.mp H
          obtain ⟨t241, A140, H⟩ := H
          replace H : (if t241 = true then (if a1.toList = ([] : List UInt8) then (laws_FnStack.j1 kj3 a1 a2 true a0_0 a0_1 l0_2) else (if a2 < 0 then (laws_FnStack.j1 kj3 a1 a2 true a0_0 a0_1 l0_2) else (laws_FnStack.j1 kj3 a1 a2 (decide (a2 > 50)) a0_0 a0_1 l0_2))) else (laws_FnStack.j1 kj3 a1 a2 true a0_0 a0_1 l0_2)) = some r := H
          have A14 := Aside0.mk A140
          clear A140
          by_cases c15 : t241 = true
          · subst c15
            have H1 : (if a1.toList = ([] : List UInt8) then (laws_FnStack.j1 kj3 a1 a2 true a0_0 a0_1 l0_2) else (if a2 < 0 then (laws_FnStack.j1 kj3 a1 a2 true a0_0 a0_1 l0_2) else (laws_FnStack.j1 kj3 a1 a2 (decide (a2 > 50)) a0_0 a0_1 l0_2))) = some r := by rw [if_pos rfl] at H; exact H
            clear H
            have H := H1
            clear H1
            by_cases c16 : a1.toList = ([] : List UInt8)
            · rw [if_pos c16] at H
              have c16b0 : (a1.toList == ([] : List UInt8)) = true := beq_iff_eq.mpr c16
              have c16e0 : a1.toList.isEmpty = true := List.isEmpty_iff.2 c16
              have c16b1 : (a1.toList != ([] : List UInt8)) = false := bne_eq_false_iff_eq.mpr c16
              clear c16
              (first | rw [c16b0] | rw [c16e0] | (simp only [i64_w, i32_w]; rw [c16b0]) | skip)
              have H' := Aside0.mk H
              clear H
              have hcz17_0 : wc.cell? ⟨gb239, 0, none⟩ = some (.string a0_0) := (blk_cell BK239.out 0).trans rfl
              have hcz17_1 : wc.cell? ⟨gb239, 1, none⟩ = some (.string a0_1) := (blk_cell BK239.out 1).trans rfl
              have hcz17_2 : wc.cell? ⟨gb239, 2, none⟩ = some (.slice A0_2 l0_2.length c0_2) := (blk_cell BK239.out 2).trans rfl
              have hfz17_0 := blk_frozen BK239.out 0
              have hfz17_1 := blk_frozen BK239.out 1
              have hfz17_2 := blk_frozen BK239.out 2
              go_wp2_with (first | ((with_reducible refine gate_callee (f := 10) rfl ?_); refine goesL_ (some 18) rfl rfl Tryz.func10 (by kernel_rfl) rfl #[.agg #[.string a0_0, .string a0_1, .slice A0_2 l0_2.length c0_2]] rfl (by (try simp only [List.map_toArray, List.map_cons, List.map_nil]); first | done | rfl | (simp only [List.length_drop, List.length_take]; rfl)) ?_; (with_reducible refine (spec_IsExprTree.calls kj3 a0_0 a0_1 _ _ l0_2 true _ ?side1 ?side2 A14.out).mono ?_); (case side1 => repeat (first | exact (Kd.C_below HR0_2.out HB.out) | (with_reducible refine Kd.C_alloc ?_ _) | (with_reducible refine Kd.C_drewN ?_ _) | (with_reducible refine Kd.C_drew ?_))); (case side2 => exact HC0_2.out); rintro e w18 ⟨rfl, hb⟩; refine ⟨_, rfl, ?_⟩; have n0_ := Aside0.mk (blk_below (g := gb239) (o := .cells #[.string a0_0, .string a0_1, .slice A0_2 l0_2.length c0_2] 24 (0, 0)) (by (with_reducible repeat (first | refine blk_drewN ?_ _ | refine blk_drew ?_ | refine blk_alloc ?_ _)); exact BK239.out) hb); have n1_ := Aside0.mk (below_step (by repeat (first | (with_reducible first | exact HB.out | apply below_alloc | apply pw_below_drewN | apply below_drew1 | refine below_set ?_ GE239.out) | exact HB.out)) hb); clear BK239; clear HB; have BK239 := n0_; have HB := n1_; clear n0_ n1_; (try clear hb); (try clear hb2); (try clear hk); (try clear hi)))
              go_meet
              case rel => exact ⟨_, (true), (by first | rfl | (simp; done) | (simp [*]; done)), H', ⟨by have := HJ3.out; first | omega | exact Nat.le_refl _⟩, ⟨by (with_reducible repeat (first | refine blk_drewN ?_ _ | refine blk_drew ?_ | refine blk_alloc ?_ _)); exact BK239.out⟩, ⟨by repeat (first | (with_reducible first | exact HB.out | apply below_alloc | apply pw_below_drewN | apply below_drew1 | refine below_set ?_ GE239.out) | exact HB.out)⟩⟩
            · rw [if_neg c16] at H
              have c16b0 : (a1.toList == ([] : List UInt8)) = false := beq_eq_false_iff_ne.mpr c16
              have c16e0 : a1.toList.isEmpty = false := Bool.eq_false_iff.2 (fun h_ => c16 (List.isEmpty_iff.1 h_))
              have c16b1 : (a1.toList != ([] : List UInt8)) = true := bne_iff_ne.mpr c16
              (first | rw [c16b0] | rw [c16e0] | (simp only [i64_w, i32_w]; rw [c16b0]) | skip)
              by_cases c19 : a2 < 0
              · rw [if_pos c19] at H
                have c19b0 : decide (a2 < 0) = true := decide_eq_true c19
                clear c19
                have H' := Aside0.mk H
                clear H
                have hcz20_0 : wc.cell? ⟨gb239, 0, none⟩ = some (.string a0_0) := (blk_cell BK239.out 0).trans rfl
                have hcz20_1 : wc.cell? ⟨gb239, 1, none⟩ = some (.string a0_1) := (blk_cell BK239.out 1).trans rfl
                have hcz20_2 : wc.cell? ⟨gb239, 2, none⟩ = some (.slice A0_2 l0_2.length c0_2) := (blk_cell BK239.out 2).trans rfl
                have hfz20_0 := blk_frozen BK239.out 0
                have hfz20_1 := blk_frozen BK239.out 1
                have hfz20_2 := blk_frozen BK239.out 2
                go_wp2_with (first | ((with_reducible refine gate_callee (f := 10) rfl ?_); refine goesL_ (some 18) rfl rfl Tryz.func10 (by kernel_rfl) rfl #[.agg #[.string a0_0, .string a0_1, .slice A0_2 l0_2.length c0_2]] rfl (by (try simp only [List.map_toArray, List.map_cons, List.map_nil]); first | done | rfl | (simp only [List.length_drop, List.length_take]; rfl)) ?_; (with_reducible refine (spec_IsExprTree.calls kj3 a0_0 a0_1 _ _ l0_2 true _ ?side1 ?side2 A14.out).mono ?_); (case side1 => repeat (first | exact (Kd.C_below HR0_2.out HB.out) | (with_reducible refine Kd.C_alloc ?_ _) | (with_reducible refine Kd.C_drewN ?_ _) | (with_reducible refine Kd.C_drew ?_))); (case side2 => exact HC0_2.out); rintro e w21 ⟨rfl, hb⟩; refine ⟨_, rfl, ?_⟩; have n0_ := Aside0.mk (blk_below (g := gb239) (o := .cells #[.string a0_0, .string a0_1, .slice A0_2 l0_2.length c0_2] 24 (0, 0)) (by (with_reducible repeat (first | refine blk_drewN ?_ _ | refine blk_drew ?_ | refine blk_alloc ?_ _)); exact BK239.out) hb); have n1_ := Aside0.mk (below_step (by repeat (first | (with_reducible first | exact HB.out | apply below_alloc | apply pw_below_drewN | apply below_drew1 | refine below_set ?_ GE239.out) | exact HB.out)) hb); clear BK239; clear HB; have BK239 := n0_; have HB := n1_; clear n0_ n1_; (try clear hb); (try clear hb2); (try clear hk); (try clear hi)))
                go_meet
                case rel => exact ⟨_, (true), (by first | rfl | (simp; done) | (simp [*]; done)), H', ⟨by have := HJ3.out; first | omega | exact Nat.le_refl _⟩, ⟨by (with_reducible repeat (first | refine blk_drewN ?_ _ | refine blk_drew ?_ | refine blk_alloc ?_ _)); exact BK239.out⟩, ⟨by repeat (first | (with_reducible first | exact HB.out | apply below_alloc | apply pw_below_drewN | apply below_drew1 | refine below_set ?_ GE239.out) | exact HB.out)⟩⟩
              · rw [if_neg c19] at H
                have c19b0 : decide (a2 < 0) = false := decide_eq_false c19
                clear c19
                have H' := Aside0.mk H
                clear H
                have hcz22_0 : wc.cell? ⟨gb239, 0, none⟩ = some (.string a0_0) := (blk_cell BK239.out 0).trans rfl
                have hcz22_1 : wc.cell? ⟨gb239, 1, none⟩ = some (.string a0_1) := (blk_cell BK239.out 1).trans rfl
                have hcz22_2 : wc.cell? ⟨gb239, 2, none⟩ = some (.slice A0_2 l0_2.length c0_2) := (blk_cell BK239.out 2).trans rfl
                have hfz22_0 := blk_frozen BK239.out 0
                have hfz22_1 := blk_frozen BK239.out 1
                have hfz22_2 := blk_frozen BK239.out 2
                go_wp2_with (first | ((with_reducible refine gate_callee (f := 10) rfl ?_); refine goesL_ (some 18) rfl rfl Tryz.func10 (by kernel_rfl) rfl #[.agg #[.string a0_0, .string a0_1, .slice A0_2 l0_2.length c0_2]] rfl (by (try simp only [List.map_toArray, List.map_cons, List.map_nil]); first | done | rfl | (simp only [List.length_drop, List.length_take]; rfl)) ?_; (with_reducible refine (spec_IsExprTree.calls kj3 a0_0 a0_1 _ _ l0_2 true _ ?side1 ?side2 A14.out).mono ?_); (case side1 => repeat (first | exact (Kd.C_below HR0_2.out HB.out) | (with_reducible refine Kd.C_alloc ?_ _) | (with_reducible refine Kd.C_drewN ?_ _) | (with_reducible refine Kd.C_drew ?_))); (case side2 => exact HC0_2.out); rintro e w23 ⟨rfl, hb⟩; refine ⟨_, rfl, ?_⟩; have n0_ := Aside0.mk (blk_below (g := gb239) (o := .cells #[.string a0_0, .string a0_1, .slice A0_2 l0_2.length c0_2] 24 (0, 0)) (by (with_reducible repeat (first | refine blk_drewN ?_ _ | refine blk_drew ?_ | refine blk_alloc ?_ _)); exact BK239.out) hb); have n1_ := Aside0.mk (below_step (by repeat (first | (with_reducible first | exact HB.out | apply below_alloc | apply pw_below_drewN | apply below_drew1 | refine below_set ?_ GE239.out) | exact HB.out)) hb); clear BK239; clear HB; have BK239 := n0_; have HB := n1_; clear n0_ n1_; (try clear hb); (try clear hb2); (try clear hk); (try clear hi)))
                go_meet
                case rel => exact ⟨_, (decide (a2 > 50)), (by first | rfl | (simp; done) | (simp [*]; done)), H', ⟨by have := HJ3.out; first | omega | exact Nat.le_refl _⟩, ⟨by (with_reducible repeat (first | refine blk_drewN ?_ _ | refine blk_drew ?_ | refine blk_alloc ?_ _)); exact BK239.out⟩, ⟨by repeat (first | (with_reducible first | exact HB.out | apply below_alloc | apply pw_below_drewN | apply below_drew1 | refine below_set ?_ GE239.out) | exact HB.out)⟩⟩
          · replace c15 := Bool.eq_false_iff.mpr c15
            subst c15
            have H1 : (laws_FnStack.j1 kj3 a1 a2 true a0_0 a0_1 l0_2) = some r := by rw [if_neg (show ¬ (false = true) by decide)] at H; exact H
            clear H
            have H := H1
            clear H1
            have H' := Aside0.mk H
            clear H
            have hcz24_0 : wc.cell? ⟨gb239, 0, none⟩ = some (.string a0_0) := (blk_cell BK239.out 0).trans rfl
            have hcz24_1 : wc.cell? ⟨gb239, 1, none⟩ = some (.string a0_1) := (blk_cell BK239.out 1).trans rfl
            have hcz24_2 : wc.cell? ⟨gb239, 2, none⟩ = some (.slice A0_2 l0_2.length c0_2) := (blk_cell BK239.out 2).trans rfl
            have hfz24_0 := blk_frozen BK239.out 0
            have hfz24_1 := blk_frozen BK239.out 1
            have hfz24_2 := blk_frozen BK239.out 2
            go_wp2_with (first | ((with_reducible refine gate_callee (f := 10) rfl ?_); refine goesL_ (some 18) rfl rfl Tryz.func10 (by kernel_rfl) rfl #[.agg #[.string a0_0, .string a0_1, .slice A0_2 l0_2.length c0_2]] rfl (by (try simp only [List.map_toArray, List.map_cons, List.map_nil]); first | done | rfl | (simp only [List.length_drop, List.length_take]; rfl)) ?_; (with_reducible refine (spec_IsExprTree.calls kj3 a0_0 a0_1 _ _ l0_2 false _ ?side1 ?side2 A14.out).mono ?_); (case side1 => repeat (first | exact (Kd.C_below HR0_2.out HB.out) | (with_reducible refine Kd.C_alloc ?_ _) | (with_reducible refine Kd.C_drewN ?_ _) | (with_reducible refine Kd.C_drew ?_))); (case side2 => exact HC0_2.out); rintro e w25 ⟨rfl, hb⟩; refine ⟨_, rfl, ?_⟩; have n0_ := Aside0.mk (blk_below (g := gb239) (o := .cells #[.string a0_0, .string a0_1, .slice A0_2 l0_2.length c0_2] 24 (0, 0)) (by (with_reducible repeat (first | refine blk_drewN ?_ _ | refine blk_drew ?_ | refine blk_alloc ?_ _)); exact BK239.out) hb); have n1_ := Aside0.mk (below_step (by repeat (first | (with_reducible first | exact HB.out | apply below_alloc | apply pw_below_drewN | apply below_drew1 | refine below_set ?_ GE239.out) | exact HB.out)) hb); clear BK239; clear HB; have BK239 := n0_; have HB := n1_; clear n0_ n1_; (try clear hb); (try clear hb2); (try clear hk); (try clear hi)))
            go_meet
            case rel => exact ⟨_, (true), (by first | rfl | (simp; done) | (simp [*]; done)), H', ⟨by have := HJ3.out; first | omega | exact Nat.le_refl _⟩, ⟨by (with_reducible repeat (first | refine blk_drewN ?_ _ | refine blk_drew ?_ | refine blk_alloc ?_ _)); exact BK239.out⟩, ⟨by repeat (first | (with_reducible first | exact HB.out | apply below_alloc | apply pw_below_drewN | apply below_drew1 | refine below_set ?_ GE239.out) | exact HB.out)⟩⟩
        case rest =>
          clear HC13
          try clear c1
          try clear p2
          try clear c7
          try clear c8
          try clear c9
          try clear c10
          try clear c12
          try clear c15
          try clear c16
          try clear c16b0
          try clear c16b1
          try clear c19
          try clear c19b0
          try clear hcz10_0
          try clear hcz10_1
          try clear hcz10_2
          try clear hcz17_0
          try clear hcz17_1
          try clear hcz17_2
          try clear hcz20_0
          try clear hcz20_1
          try clear hcz20_2
          try clear hcz22_0
          try clear hcz22_1
          try clear hcz22_2
          try clear hcz24_0
          try clear hcz24_1
          try clear hcz24_2
          try clear hcz8_0
          try clear hcz8_1
          try clear hcz8_2
          try clear hfz10_0
          try clear hfz10_1
          try clear hfz10_2
          try clear hfz17_0
          try clear hfz17_1
          try clear hfz17_2
          try clear hfz20_0
          try clear hfz20_1
          try clear hfz20_2
          try clear hfz22_0
          try clear hfz22_1
          try clear hfz22_2
          try clear hfz24_0
          try clear hfz24_1
          try clear hfz24_2
          try clear hfz8_0
          try clear hfz8_1
          try clear hfz8_2
          try clear p2
          obtain ⟨kq, x31_12, rfl, HA, HJ12, BK239, HB⟩ := hcut
          cases kq with
          | zero => exact absurd HA.out (by simp [laws_FnStack.j1])
          | succ kj12 =>
            have H := HA.out
            clear HA
            simp only [laws_FnStack.j1] at H
            by_cases c26 : x31_12 = true
            · subst c26
              have H1 : (some true) = some r := by rw [if_pos rfl] at H; exact H
              clear H
              have H := H1
              clear H1
              obtain rfl := Option.some.inj H
              go_wp2
              go_ret
              exact ⟨by first | rfl | (simp [errW_none, errW_some] <;> rfl) | (simp [*, errW_none, errW_some] <;> rfl), by repeat (first | (with_reducible first | exact HB.out | apply below_alloc | apply pw_below_drewN | apply below_drew1 | refine below_set ?_ GE239.out) | exact HB.out)⟩
            · replace c26 := Bool.eq_false_iff.mpr c26
              subst c26
              have H1 : ((impl_Stacked.f a0_0 a0_1 l0_2 a1 a2).bind fun bt242 => (if bt242.2 = true then (if (bt242.1.length : Int) > 0 then ((impl_Inspected.f a0_0 a0_1 l0_2 a1).bind fun t246 => ((laws_nodes9.f kj12 t246 a2 false).bind fun t249 => ((laws_sameVisits9.f kj12 bt242.1 t249).bind fun t252 => (some t252)))) else (some false)) else (some false))) = some r := by rw [if_neg (show ¬ (false = true) by decide)] at H; exact H
              clear H
              have H := H1
              clear H1
              replace H := Option.bind_eq_some_iff.mp H
              obtain ⟨⟨t242, t245⟩, A270, H⟩ := H
              replace H : (if t245 = true then (if (t242.length : Int) > 0 then ((impl_Inspected.f a0_0 a0_1 l0_2 a1).bind fun t246 => ((laws_nodes9.f kj12 t246 a2 false).bind fun t249 => ((laws_sameVisits9.f kj12 t242 t249).bind fun t252 => (some t252)))) else (some false)) else (some false)) = some r := H
              have A27 := Aside0.mk A270
              clear A270
              by_cases c28 : t245 = true
              · subst c28
                have H1 : (if (t242.length : Int) > 0 then ((impl_Inspected.f a0_0 a0_1 l0_2 a1).bind fun t246 => ((laws_nodes9.f kj12 t246 a2 false).bind fun t249 => ((laws_sameVisits9.f kj12 t242 t249).bind fun t252 => (some t252)))) else (some false)) = some r := by rw [if_pos rfl] at H; exact H
                clear H
                have H := H1
                clear H1
                by_cases c29 : (t242.length : Int) > 0
                · rw [if_pos c29] at H
                  have c29b0 : decide (0 < (t242.length : Int)) = true := decide_eq_true c29
                  have c29b1 : decide (0 < t242.length) = true := decide_eq_true (by omega)
                  clear c29
                  replace H := Option.bind_eq_some_iff.mp H
                  obtain ⟨t246, A300, H⟩ := H
                  replace H : ((laws_nodes9.f kj12 t246 a2 false).bind fun t249 => ((laws_sameVisits9.f kj12 t242 t249).bind fun t252 => (some t252))) = some r := H
                  have A30 := Aside0.mk A300
                  clear A300
                  replace H := Option.bind_eq_some_iff.mp H
                  obtain ⟨t249, A310, H⟩ := H
                  replace H : ((laws_sameVisits9.f kj12 t242 t249).bind fun t252 => (some t252)) = some r := H
                  have A31 := Aside0.mk A310
                  clear A310
                  replace H := Option.bind_eq_some_iff.mp H
                  obtain ⟨t252, A320, H⟩ := H
                  replace H : (some t252) = some r := H
                  have A32 := Aside0.mk A320
                  clear A320
                  obtain rfl := Option.some.inj H
                  have hcz33_0 : wc.cell? ⟨gb239, 0, none⟩ = some (.string a0_0) := (blk_cell BK239.out 0).trans rfl
                  have hcz33_1 : wc.cell? ⟨gb239, 1, none⟩ = some (.string a0_1) := (blk_cell BK239.out 1).trans rfl
                  have hcz33_2 : wc.cell? ⟨gb239, 2, none⟩ = some (.slice A0_2 l0_2.length c0_2) := (blk_cell BK239.out 2).trans rfl
                  have hfz33_0 := blk_frozen BK239.out 0
                  have hfz33_1 := blk_frozen BK239.out 1
                  have hfz33_2 := blk_frozen BK239.out 2
                  go_wp2_with (first | ((with_reducible refine gate_callee (f := 18) rfl ?_); refine goesL_ (some 36) rfl rfl Tryz.func18 (by kernel_rfl) rfl #[.agg #[.string a0_0, .string a0_1, .slice A0_2 l0_2.length c0_2], .string a1, .int .i64 a2] rfl (by (try simp only [List.map_toArray, List.map_cons, List.map_nil]); first | done | rfl | (simp only [List.length_drop, List.length_take]; rfl)) ?_; (with_reducible refine (impl_Stacked.calls a0_0 a0_1 _ _ l0_2 a1 a2 t242 true _ ?side1 ?side2 (HTT.out.below ?side3) A27.out).mono ?_); (case side1 => repeat (first | exact (Kd.C_below HR0_2.out HB.out) | (with_reducible refine Kd.C_alloc ?_ _) | (with_reducible refine Kd.C_drewN ?_ _) | (with_reducible refine Kd.C_drew ?_))); (case side2 => exact HC0_2.out); (case side3 => repeat (first | (with_reducible first | exact HB.out | apply below_alloc | apply pw_below_drewN | apply below_drew1 | refine below_set ?_ GE239.out) | exact HB.out)); rintro e w34 ⟨v243, rfl, ho0, hb⟩; refine ⟨_, rfl, ?_⟩; have n0_ := Aside0.mk (Kd.R_lower ho0 (below_size (by repeat (first | (with_reducible first | exact HB.out | apply below_alloc | apply pw_below_drewN | apply below_drew1 | refine below_set ?_ GE239.out) | exact HB.out)))); have n1_ := Aside0.mk (blk_below (g := gb239) (o := .cells #[.string a0_0, .string a0_1, .slice A0_2 l0_2.length c0_2] 24 (0, 0)) (by (with_reducible repeat (first | refine blk_drewN ?_ _ | refine blk_drew ?_ | refine blk_alloc ?_ _)); exact BK239.out) hb); have n2_ := Aside0.mk (below_step (by repeat (first | (with_reducible first | exact HB.out | apply below_alloc | apply pw_below_drewN | apply below_drew1 | refine below_set ?_ GE239.out) | exact HB.out)) hb); clear BK239; clear HB; have HO244 := n0_; have BK239 := n1_; have HB := n2_; clear n0_ n1_ n2_; (try clear hb); (try clear hb2); (try clear hk); (try clear hi); (try clear ho0); obtain ⟨Ao35, co35, eo35⟩ := Kd.R_slice HO244.out; subst eo35; have hcz36_0 : w34.cell? ⟨gb239, 0, none⟩ = some (.string a0_0) := (blk_cell BK239.out 0).trans rfl; have hcz36_1 : w34.cell? ⟨gb239, 1, none⟩ = some (.string a0_1) := (blk_cell BK239.out 1).trans rfl; have hcz36_2 : w34.cell? ⟨gb239, 2, none⟩ = some (.slice A0_2 l0_2.length c0_2) := (blk_cell BK239.out 2).trans rfl; have hfz36_0 := blk_frozen BK239.out 0; have hfz36_1 := blk_frozen BK239.out 1; have hfz36_2 := blk_frozen BK239.out 2) | (go_at_call 11; (with_reducible refine (impl_Inspected.calls a0_0 a0_1 _ _ l0_2 a1 t246 _ ?side1 ?side2 (HTT.out.below ?side3) A30.out).mono ?_); (case side1 => repeat (first | exact (Kd.C_below HR0_2.out HB.out) | (with_reducible refine Kd.C_alloc ?_ _) | (with_reducible refine Kd.C_drewN ?_ _) | (with_reducible refine Kd.C_drew ?_))); (case side2 => exact HC0_2.out); (case side3 => repeat (first | (with_reducible first | exact HB.out | apply below_alloc | apply pw_below_drewN | apply below_drew1 | refine below_set ?_ GE239.out) | exact HB.out)); rintro e w37 ⟨v247, rfl, ho0, hb⟩; have n0_ := Aside0.mk (Kd.R_elder' (by (with_reducible repeat (first | apply Kd.R_alloc | apply Kd.R_drewN | apply Kd.R_drew)); exact HO244.out) (Kd.R_base ho0) hb); have n1_ := Aside0.mk (Kd.R_lower (Kd.R_new' ho0 (Kd.R_lt (by (with_reducible repeat (first | apply Kd.R_alloc | apply Kd.R_drewN | apply Kd.R_drew)); exact HO244.out))) (below_size (by repeat (first | (with_reducible first | exact HB.out | apply below_alloc | apply pw_below_drewN | apply below_drew1 | refine below_set ?_ GE239.out) | exact HB.out)))); have n2_ := Aside0.mk (blk_below (g := gb239) (o := .cells #[.string a0_0, .string a0_1, .slice A0_2 l0_2.length c0_2] 24 (0, 0)) (by (with_reducible repeat (first | refine blk_drewN ?_ _ | refine blk_drew ?_ | refine blk_alloc ?_ _)); exact BK239.out) hb); have n3_ := Aside0.mk (below_step (by repeat (first | (with_reducible first | exact HB.out | apply below_alloc | apply pw_below_drewN | apply below_drew1 | refine below_set ?_ GE239.out) | exact HB.out)) hb); clear HO244; clear BK239; clear HB; have HO244 := n0_; have HO248 := n1_; have BK239 := n2_; have HB := n3_; clear n0_ n1_ n2_ n3_; (try clear hb); (try clear hb2); (try clear hk); (try clear hi); (try clear ho0); obtain ⟨Ao38, co38, eo38⟩ := Kd.R_slice HO248.out; subst eo38) | (go_at_call 16; (with_reducible refine (laws_nodes9.calls kj12 _ _ t246 a2 false t249 _ ?side1 ?side2 A31.out).mono ?_); (case side1 => repeat (first | exact (Kd.R_reads' HO248.out).2.2 | (with_reducible refine Kd.C_alloc ?_ _) | (with_reducible refine Kd.C_drewN ?_ _) | (with_reducible refine Kd.C_drew ?_))); (case side2 => exact (Kd.R_reads' HO248.out).2.1); rintro e w39 ⟨v250, rfl, ho0, hb⟩; have n0_ := Aside0.mk (Kd.R_elder' (by (with_reducible repeat (first | apply Kd.R_alloc | apply Kd.R_drewN | apply Kd.R_drew)); exact HO244.out) (Kd.R_base ho0) hb); have n1_ := Aside0.mk (Kd.R_elder' (by (with_reducible repeat (first | apply Kd.R_alloc | apply Kd.R_drewN | apply Kd.R_drew)); exact HO248.out) (Kd.R_base ho0) hb); have n2_ := Aside0.mk (Kd.R_lower (Kd.R_new' (Kd.R_new' ho0 (Kd.R_lt (by (with_reducible repeat (first | apply Kd.R_alloc | apply Kd.R_drewN | apply Kd.R_drew)); exact HO244.out))) (Kd.R_lt (by (with_reducible repeat (first | apply Kd.R_alloc | apply Kd.R_drewN | apply Kd.R_drew)); exact HO248.out))) (below_size (by repeat (first | (with_reducible first | exact HB.out | apply below_alloc | apply pw_below_drewN | apply below_drew1 | refine below_set ?_ GE239.out) | exact HB.out)))); have n3_ := Aside0.mk (blk_below (g := gb239) (o := .cells #[.string a0_0, .string a0_1, .slice A0_2 l0_2.length c0_2] 24 (0, 0)) (by (with_reducible repeat (first | refine blk_drewN ?_ _ | refine blk_drew ?_ | refine blk_alloc ?_ _)); exact BK239.out) hb); have n4_ := Aside0.mk (below_step (by repeat (first | (with_reducible first | exact HB.out | apply below_alloc | apply pw_below_drewN | apply below_drew1 | refine below_set ?_ GE239.out) | exact HB.out)) hb); clear HO244; clear HO248; clear BK239; clear HB; have HO244 := n0_; have HO248 := n1_; have HO251 := n2_; have BK239 := n3_; have HB := n4_; clear n0_ n1_ n2_ n3_ n4_; (try clear hb); (try clear hb2); (try clear hk); (try clear hi); (try clear ho0); obtain ⟨Ao40, co40, eo40⟩ := Kd.R_slice HO251.out; subst eo40) | (go_at_call 12; (with_reducible refine (laws_sameVisits9.calls kj12 _ _ t242 _ _ t249 t252 _ ?side1 ?side2 ?side3 ?side4 A32.out).mono ?_); (case side1 => repeat (first | exact (Kd.R_reads' HO244.out).2.2 | (with_reducible refine Kd.C_alloc ?_ _) | (with_reducible refine Kd.C_drewN ?_ _) | (with_reducible refine Kd.C_drew ?_))); (case side2 => exact (Kd.R_reads' HO244.out).2.1); (case side3 => repeat (first | exact (Kd.R_reads' HO251.out).2.2 | (with_reducible refine Kd.C_alloc ?_ _) | (with_reducible refine Kd.C_drewN ?_ _) | (with_reducible refine Kd.C_drew ?_))); (case side4 => exact (Kd.R_reads' HO251.out).2.1); rintro e w41 ⟨rfl, hb⟩; have n0_ := Aside0.mk (Kd.R_below (by (with_reducible repeat (first | apply Kd.R_alloc | apply Kd.R_drewN | apply Kd.R_drew)); exact HO244.out) hb); have n1_ := Aside0.mk (Kd.R_below (by (with_reducible repeat (first | apply Kd.R_alloc | apply Kd.R_drewN | apply Kd.R_drew)); exact HO248.out) hb); have n2_ := Aside0.mk (Kd.R_below (by (with_reducible repeat (first | apply Kd.R_alloc | apply Kd.R_drewN | apply Kd.R_drew)); exact HO251.out) hb); have n3_ := Aside0.mk (blk_below (g := gb239) (o := .cells #[.string a0_0, .string a0_1, .slice A0_2 l0_2.length c0_2] 24 (0, 0)) (by (with_reducible repeat (first | refine blk_drewN ?_ _ | refine blk_drew ?_ | refine blk_alloc ?_ _)); exact BK239.out) hb); have n4_ := Aside0.mk (below_step (by repeat (first | (with_reducible first | exact HB.out | apply below_alloc | apply pw_below_drewN | apply below_drew1 | refine below_set ?_ GE239.out) | exact HB.out)) hb); clear HO244; clear HO248; clear HO251; clear BK239; clear HB; have HO244 := n0_; have HO248 := n1_; have HO251 := n2_; have BK239 := n3_; have HB := n4_; clear n0_ n1_ n2_ n3_ n4_; (try clear hb); (try clear hb2); (try clear hk); (try clear hi)))
                  go_ret
                  exact ⟨by first | rfl | (simp [errW_none, errW_some] <;> rfl) | (simp [*, errW_none, errW_some] <;> rfl), by repeat (first | (with_reducible first | exact HB.out | apply below_alloc | apply pw_below_drewN | apply below_drew1 | refine below_set ?_ GE239.out) | exact HB.out)⟩
                · rw [if_neg c29] at H
                  have c29b0 : decide (0 < (t242.length : Int)) = false := decide_eq_false c29
                  have c29b1 : decide (0 < t242.length) = false := decide_eq_false (by omega)
                  clear c29
                  obtain rfl := Option.some.inj H
                  have hcz42_0 : wc.cell? ⟨gb239, 0, none⟩ = some (.string a0_0) := (blk_cell BK239.out 0).trans rfl
                  have hcz42_1 : wc.cell? ⟨gb239, 1, none⟩ = some (.string a0_1) := (blk_cell BK239.out 1).trans rfl
                  have hcz42_2 : wc.cell? ⟨gb239, 2, none⟩ = some (.slice A0_2 l0_2.length c0_2) := (blk_cell BK239.out 2).trans rfl
                  have hfz42_0 := blk_frozen BK239.out 0
                  have hfz42_1 := blk_frozen BK239.out 1
                  have hfz42_2 := blk_frozen BK239.out 2
                  go_wp2_with (first | ((with_reducible refine gate_callee (f := 18) rfl ?_); refine goesL_ (some 36) rfl rfl Tryz.func18 (by kernel_rfl) rfl #[.agg #[.string a0_0, .string a0_1, .slice A0_2 l0_2.length c0_2], .string a1, .int .i64 a2] rfl (by (try simp only [List.map_toArray, List.map_cons, List.map_nil]); first | done | rfl | (simp only [List.length_drop, List.length_take]; rfl)) ?_; (with_reducible refine (impl_Stacked.calls a0_0 a0_1 _ _ l0_2 a1 a2 t242 true _ ?side1 ?side2 (HTT.out.below ?side3) A27.out).mono ?_); (case side1 => repeat (first | exact (Kd.C_below HR0_2.out HB.out) | (with_reducible refine Kd.C_alloc ?_ _) | (with_reducible refine Kd.C_drewN ?_ _) | (with_reducible refine Kd.C_drew ?_))); (case side2 => exact HC0_2.out); (case side3 => repeat (first | (with_reducible first | exact HB.out | apply below_alloc | apply pw_below_drewN | apply below_drew1 | refine below_set ?_ GE239.out) | exact HB.out)); rintro e w43 ⟨v243, rfl, ho0, hb⟩; refine ⟨_, rfl, ?_⟩; have n0_ := Aside0.mk (Kd.R_lower ho0 (below_size (by repeat (first | (with_reducible first | exact HB.out | apply below_alloc | apply pw_below_drewN | apply below_drew1 | refine below_set ?_ GE239.out) | exact HB.out)))); have n1_ := Aside0.mk (blk_below (g := gb239) (o := .cells #[.string a0_0, .string a0_1, .slice A0_2 l0_2.length c0_2] 24 (0, 0)) (by (with_reducible repeat (first | refine blk_drewN ?_ _ | refine blk_drew ?_ | refine blk_alloc ?_ _)); exact BK239.out) hb); have n2_ := Aside0.mk (below_step (by repeat (first | (with_reducible first | exact HB.out | apply below_alloc | apply pw_below_drewN | apply below_drew1 | refine below_set ?_ GE239.out) | exact HB.out)) hb); clear BK239; clear HB; have HO244 := n0_; have BK239 := n1_; have HB := n2_; clear n0_ n1_ n2_; (try clear hb); (try clear hb2); (try clear hk); (try clear hi); (try clear ho0); obtain ⟨Ao44, co44, eo44⟩ := Kd.R_slice HO244.out; subst eo44))
                  go_ret
                  exact ⟨by first | rfl | (simp [errW_none, errW_some] <;> rfl) | (simp [*, errW_none, errW_some] <;> rfl), by repeat (first | (with_reducible first | exact HB.out | apply below_alloc | apply pw_below_drewN | apply below_drew1 | refine below_set ?_ GE239.out) | exact HB.out)⟩
              · replace c28 := Bool.eq_false_iff.mpr c28
                subst c28
                have H1 : (some false) = some r := by rw [if_neg (show ¬ (false = true) by decide)] at H; exact H
                clear H
                have H := H1
                clear H1
                obtain rfl := Option.some.inj H
                have hcz45_0 : wc.cell? ⟨gb239, 0, none⟩ = some (.string a0_0) := (blk_cell BK239.out 0).trans rfl
                have hcz45_1 : wc.cell? ⟨gb239, 1, none⟩ = some (.string a0_1) := (blk_cell BK239.out 1).trans rfl
                have hcz45_2 : wc.cell? ⟨gb239, 2, none⟩ = some (.slice A0_2 l0_2.length c0_2) := (blk_cell BK239.out 2).trans rfl
                have hfz45_0 := blk_frozen BK239.out 0
                have hfz45_1 := blk_frozen BK239.out 1
                have hfz45_2 := blk_frozen BK239.out 2
                go_wp2_with (first | ((with_reducible refine gate_callee (f := 18) rfl ?_); refine goesL_ (some 36) rfl rfl Tryz.func18 (by kernel_rfl) rfl #[.agg #[.string a0_0, .string a0_1, .slice A0_2 l0_2.length c0_2], .string a1, .int .i64 a2] rfl (by (try simp only [List.map_toArray, List.map_cons, List.map_nil]); first | done | rfl | (simp only [List.length_drop, List.length_take]; rfl)) ?_; (with_reducible refine (impl_Stacked.calls a0_0 a0_1 _ _ l0_2 a1 a2 t242 false _ ?side1 ?side2 (HTT.out.below ?side3) A27.out).mono ?_); (case side1 => repeat (first | exact (Kd.C_below HR0_2.out HB.out) | (with_reducible refine Kd.C_alloc ?_ _) | (with_reducible refine Kd.C_drewN ?_ _) | (with_reducible refine Kd.C_drew ?_))); (case side2 => exact HC0_2.out); (case side3 => repeat (first | (with_reducible first | exact HB.out | apply below_alloc | apply pw_below_drewN | apply below_drew1 | refine below_set ?_ GE239.out) | exact HB.out)); rintro e w46 ⟨v243, rfl, ho0, hb⟩; refine ⟨_, rfl, ?_⟩; have n0_ := Aside0.mk (Kd.R_lower ho0 (below_size (by repeat (first | (with_reducible first | exact HB.out | apply below_alloc | apply pw_below_drewN | apply below_drew1 | refine below_set ?_ GE239.out) | exact HB.out)))); have n1_ := Aside0.mk (blk_below (g := gb239) (o := .cells #[.string a0_0, .string a0_1, .slice A0_2 l0_2.length c0_2] 24 (0, 0)) (by (with_reducible repeat (first | refine blk_drewN ?_ _ | refine blk_drew ?_ | refine blk_alloc ?_ _)); exact BK239.out) hb); have n2_ := Aside0.mk (below_step (by repeat (first | (with_reducible first | exact HB.out | apply below_alloc | apply pw_below_drewN | apply below_drew1 | refine below_set ?_ GE239.out) | exact HB.out)) hb); clear BK239; clear HB; have HO244 := n0_; have BK239 := n1_; have HB := n2_; clear n0_ n1_ n2_; (try clear hb); (try clear hb2); (try clear hk); (try clear hi); (try clear ho0)))
                go_ret
                exact ⟨by first | rfl | (simp [errW_none, errW_some] <;> rfl) | (simp [*, errW_none, errW_some] <;> rfl), by repeat (first | (with_reducible first | exact HB.out | apply below_alloc | apply pw_below_drewN | apply below_drew1 | refine below_set ?_ GE239.out) | exact HB.out)⟩

end Go.Proofs.YtdcaabjkklppjaaGreatFmt.A
