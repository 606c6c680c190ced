-- Written by a program of this session (gprint.py) out of the kit's print of the translation. Not trusted: Lean checks it.
import Derived.Test.YtdcaabjkklppjaaGreatFmtA0
import Derived.Test.YtdcaabjkklppjaaGreatFmtA2
import Derived.Test.YtdcaabjkklppjaaGreatFmtA3
import Derived.Test.YtdcaabjkklppjaaGreatFmtA3i
import Derived.Test.YtdcaabjkklppjaaGreatFmtA6
import Derived.Test.YtdcaabjkklppjaaGreatFmtA13
import Derived.Test.YtdcaabjkklppjaaGreatFmtGPre
namespace Go.Proofs.YtdcaabjkklppjaaGreatFmt.A
open Go.RowKit Go.Proofs.YtdcaabjkklppjaaGreatFmtW.PrintWords Go.Proofs.YtdcaabjkklppjaaGreatFmtW.PrintLast Go.Proofs.YtdcaabjkklppjaaGreatFmtW.PrintMore
attribute [local go_sem] max2_int min2_int max_two min_two max_three min_three max_four min_four   -- for this text's walks alone
set_option linter.unusedVariables false
set_option linter.unusedSimpArgs false

/-! ### laws_FnPreorder: function 7 -/
noncomputable def laws_FnPreorder.j0 : Nat → Int → Bool → ByteArray → ByteArray → List (S24) → Option (Bool)
  | 0, _, _, _, _, _ => none
  | k + 1, x1, x19, x223000, x223001, x223002 => if x19 = true then (some true) else ((impl_Inspected.f x223000 x223001 x223002 (⟨#[110, 111, 110, 101]⟩ : ByteArray)).bind fun t225 => ((laws_nodes9.f k t225 0 true).bind fun t228 => (if (t228.length : Int) > 0 then ((impl_Preordered.f x223000 x223001 x223002 x1).bind fun t231 => (if 0 ≤ (mn x1 (t228.length : Int)) then (if (mn x1 (t228.length : Int)) ≤ (t228.length : Int) then ((laws_sameVisits9.f k t231 (t228.take ((mn x1 (t228.length : Int)) : Int).toNat)).bind fun t238 => (some t238)) else (none)) else (none))) else (some false))))
noncomputable def laws_FnPreorder.f (k : Nat) (a0_0 : ByteArray) (a0_1 : ByteArray) (l0_2 : List (S24)) (a1 : Int) : Option (Bool) := (laws_zzFits10.f a0_0 a0_1 l0_2).bind fun t223 => (if t223 = true then ((spec_IsExprTree.f k a0_0 a0_1 l0_2).bind fun t224 => (if t224 = true then (if a1 < 0 then (laws_FnPreorder.j0 k a1 true a0_0 a0_1 l0_2) else (laws_FnPreorder.j0 k a1 (decide (a1 > 1000000)) a0_0 a0_1 l0_2)) else (laws_FnPreorder.j0 k a1 true a0_0 a0_1 l0_2))) else (some true))
theorem laws_FnPreorder.mono_l : ∀ k, (∀ y0 y1 y2 y3 y4, LeO (laws_FnPreorder.j0 k y0 y1 y2 y3 y4) (laws_FnPreorder.j0 (k + 1) y0 y1 y2 y3 y4))
  | 0 => fun _ _ _ _ _ r h => by simp [laws_FnPreorder.j0] at h
  | k + 1 => by
    have ih0 := laws_FnPreorder.mono_l k
    · intro y0 y1 y2 y3 y4
      unfold laws_FnPreorder.j0
      repeat' first
      | (with_reducible exact ih0 _ _ _ _ _)
      | (with_reducible exact laws_nodes9.mono _ _ _ _)
      | (with_reducible exact laws_sameVisits9.mono _ _ _)
      | (with_reducible exact spec_IsExprTree.mono _ _ _ _)
      | (with_reducible exact LeO.refl _)
      | (with_reducible exact LeO.none _)
      | (with_reducible refine LeO.ite ?_ ?_)
      | (with_reducible refine LeO.bind ?_ (fun _ => ?_))
      | exact ih0 _ _ _ _ _
      | exact laws_nodes9.mono _ _ _ _
      | exact laws_sameVisits9.mono _ _ _
      | exact spec_IsExprTree.mono _ _ _ _
      | exact LeO.none _
      | refine LeO.ite ?_ ?_
      | refine LeO.bind ?_ (fun _ => ?_)
theorem laws_FnPreorder.mono : ∀ a0 a1 a2 a3 k, LeO (laws_FnPreorder.f k a0 a1 a2 a3) (laws_FnPreorder.f (k + 1) a0 a1 a2 a3) := by
  intro a0 a1 a2 a3 k
  have ih0 := laws_FnPreorder.mono_l k
  unfold laws_FnPreorder.f
  repeat' first
      | (with_reducible exact ih0 _ _ _ _ _)
      | (with_reducible exact laws_nodes9.mono _ _ _ _)
      | (with_reducible exact laws_sameVisits9.mono _ _ _)
      | (with_reducible exact spec_IsExprTree.mono _ _ _ _)
      | (with_reducible exact LeO.refl _)
      | (with_reducible exact LeO.none _)
      | (with_reducible refine LeO.ite ?_ ?_)
      | (with_reducible refine LeO.bind ?_ (fun _ => ?_))
      | exact ih0 _ _ _ _ _
      | exact laws_nodes9.mono _ _ _ _
      | exact laws_sameVisits9.mono _ _ _
      | exact spec_IsExprTree.mono _ _ _ _
      | exact LeO.none _
      | refine LeO.ite ?_ ?_
      | refine LeO.bind ?_ (fun _ => ?_)
noncomputable def laws_FnPreorder.T6 : Bool × List (List Nat × List Nat) := (true, [([], []), ([0], [0]), ([1], [1]), ([2], [2]), ([3], [3]), ([3], [3]), ([4, 5, 3, 3], [3, 4, 5]), ([3], [3]), ([3], [3]), ([3], [3]), ([9, 3], [3, 9]), ([8, 10, 3], [3, 8, 10]), ([7, 11, 3], [3, 7, 11]), ([6, 12, 6, 3], [3, 6, 12]), ([3, 13], [3, 13]), ([14, 13, 0, 1, 2, 3, 4, 5, 6, 7, 8, 9, 10, 11, 12, 13, 14], [14])])
noncomputable def laws_FnPreorder.B6 : List Nat := [0, 1, 3, 7, 15, 15, 63, 15, 15, 15, 527, 1807, 3983, 8191, 16383, 32767]
theorem laws_FnPreorder.tab6 : rtab .any (opsOf Tryz.f7 6) = laws_FnPreorder.T6 := by kernel_rfl
theorem laws_FnPreorder.bits6 : waitsOk laws_FnPreorder.T6.2 laws_FnPreorder.B6 = true := by kernel_rfl
set_option maxHeartbeats 8000000 in
set_option maxRecDepth 100000 in
theorem laws_FnPreorder.calls (k : Nat) (a0_0 : ByteArray) (a0_1 : ByteArray) (A0_2 : Option Addr) (c0_2 : Nat) (l0_2 : List (S24)) (a1 : Int) (r : Bool) (w : World) (hr0_2 : Kd.C k24 w A0_2 l0_2.length l0_2) (hc0_2 : l0_2.length ≤ c0_2) (hT : TokTab tokS w) (h : laws_FnPreorder.f k a0_0 a0_1 l0_2 a1 = some r) :
    Calls Tryz.prog 7 #[.agg #[.string a0_0, .string a0_1, .slice A0_2 l0_2.length c0_2], .int .i64 a1] w fun e w' => e = .returned (.bool r) ∧ Below w.heap.size w w' := by
  have HTT := Aside0.mk hT
  clear hT
  have hu24 := Tryz.underlying24
  have HR0_2 := Aside0.mk hr0_2
  have HC0_2 := Aside0.mk hc0_2
  clear hr0_2 hc0_2
  have HB := Aside0.mk (Below.refl w.heap.size w)
  have H : ((laws_zzFits10.f a0_0 a0_1 l0_2).bind fun t223 => (if t223 = true then ((spec_IsExprTree.f k a0_0 a0_1 l0_2).bind fun t224 => (if t224 = true then (if a1 < 0 then (laws_FnPreorder.j0 k a1 true a0_0 a0_1 l0_2) else (laws_FnPreorder.j0 k a1 (decide (a1 > 1000000)) a0_0 a0_1 l0_2)) else (laws_FnPreorder.j0 k a1 true a0_0 a0_1 l0_2))) else (some true))) = some r := h
  clear h
  replace H := Option.bind_eq_some_iff.mp H
  obtain ⟨t223, A30, H⟩ := H
  replace H : (if t223 = true then ((spec_IsExprTree.f k a0_0 a0_1 l0_2).bind fun t224 => (if t224 = true then (if a1 < 0 then (laws_FnPreorder.j0 k a1 true a0_0 a0_1 l0_2) else (laws_FnPreorder.j0 k a1 (decide (a1 > 1000000)) a0_0 a0_1 l0_2)) else (laws_FnPreorder.j0 k a1 true a0_0 a0_1 l0_2))) else (some true)) = some r := H
  have A3 := Aside0.mk A30
  clear A30
  by_cases c4 : t223 = true
  · subst c4
    have H1 : ((spec_IsExprTree.f k a0_0 a0_1 l0_2).bind fun t224 => (if t224 = true then (if a1 < 0 then (laws_FnPreorder.j0 k a1 true a0_0 a0_1 l0_2) else (laws_FnPreorder.j0 k a1 (decide (a1 > 1000000)) a0_0 a0_1 l0_2)) else (laws_FnPreorder.j0 k a1 true a0_0 a0_1 l0_2))) = some r := by rw [if_pos rfl] at H; exact H
    clear H
    have H := H1
    clear H1
    have HC5 := Aside0.mk H
    clear H
    go_enter Tryz.func7, Tryz.ntmps7
    go_upto_region 3 with (first | ((with_reducible refine gate_dst (N := 2) rfl ?_); (try (refine gate_guard (by rfl) ?_; dsimp only)); refine box_event ?hg (N := 2) ?hd (cs := #[.string a0_0, .string a0_1, .slice A0_2 l0_2.length c0_2]) (t := 24) ?hr ?_; (case hd => rfl); (case hg => rfl); (case hr => first | (go_simp; done) | (go_simp; rfl)); intro gb222 hg w6 hbox hb; have n0_ := Aside0.mk (below_step (by repeat (first | (with_reducible first | exact HB.out | apply below_alloc | apply pw_below_drewN | apply below_drew1) | exact HB.out)) hb); have n1_ := Aside0.mk (hbox); have n2_ := Aside0.mk ((by rw [hg]; exact (below_size (by repeat (first | (with_reducible first | exact HB.out | apply below_alloc | apply pw_below_drewN | apply below_drew1) | exact HB.out))) : w.heap.size ≤ gb222)); have n3_ := Aside0.mk ((by rw [hg]; exact (below_size (by repeat (first | (with_reducible first | exact HB.out | apply below_alloc | apply pw_below_drewN | apply below_drew1) | exact HB.out))) : w.heap.size ≤ gb222)); clear HB; have HB := n0_; have BK222 := n1_; have GW222 := n2_; have GE222 := n3_; clear n0_ n1_ n2_ n3_; clear hb hbox hg; have hcz7_0 : w6.cell? ⟨gb222, 0, none⟩ = some (.string a0_0) := (blk_cell BK222.out 0).trans rfl; have hcz7_1 : w6.cell? ⟨gb222, 1, none⟩ = some (.string a0_1) := (blk_cell BK222.out 1).trans rfl; have hcz7_2 : w6.cell? ⟨gb222, 2, none⟩ = some (.slice A0_2 l0_2.length c0_2) := (blk_cell BK222.out 2).trans rfl; have hfz7_0 := blk_frozen BK222.out 0; have hfz7_1 := blk_frozen BK222.out 1; have hfz7_2 := blk_frozen BK222.out 2) | ((with_reducible refine gate_callee (f := 9) rfl ?_); refine goesL_ (some 7) rfl rfl Tryz.func9 (by kernel_rfl) rfl #[.agg #[.string a0_0, .string a0_1, .slice A0_2 l0_2.length c0_2]] rfl (by (try simp only [List.map_toArray, List.map_cons, List.map_nil]); first | done | rfl | (simp only [List.length_drop, List.length_take]; rfl)) ?_; (with_reducible refine (laws_zzFits10.calls a0_0 a0_1 _ _ l0_2 true _ ?side1 ?side2 A3.out).mono ?_); (case side1 => repeat (first | exact (Kd.C_below HR0_2.out HB.out) | (with_reducible refine Kd.C_alloc ?_ _) | (with_reducible refine Kd.C_drewN ?_ _) | (with_reducible refine Kd.C_drew ?_))); (case side2 => exact HC0_2.out); rintro e w8 ⟨rfl, hb⟩; refine ⟨_, rfl, ?_⟩; have n0_ := Aside0.mk (blk_below (g := gb222) (o := .cells #[.string a0_0, .string a0_1, .slice A0_2 l0_2.length c0_2] 24 (0, 0)) (by (with_reducible repeat (first | refine blk_drewN ?_ _ | refine blk_drew ?_ | refine blk_alloc ?_ _)); exact BK222.out) hb); have n1_ := Aside0.mk (below_step (by repeat (first | (with_reducible first | exact HB.out | apply below_alloc | apply pw_below_drewN | apply below_drew1 | refine below_set ?_ GE222.out) | exact HB.out)) hb); clear BK222; clear HB; have BK222 := n0_; have HB := n1_; clear n0_ n1_; (try clear hb); (try clear hb2); (try clear hk); (try clear hi)))
    (try simp only [Act.put, List.setIfInBounds_toArray, List.set_cons_zero, List.set_cons_succ])
    go_cut [19] (fun v19 wc => ∃ (kq : Nat) (x19_4 : Bool), v19 = .bool x19_4 ∧ Aside0 (laws_FnPreorder.j0 kq a1 x19_4 a0_0 a0_1 l0_2 = some r) ∧ Aside0 (kq ≤ k) ∧ Aside0 (wc.heap[gb222]? = some (.cells #[.string a0_0, .string a0_1, (.slice A0_2 l0_2.length c0_2)] 24 (0, 0))) ∧ Aside0 (Below w.heap.size w wc))
    case first =>
      have H := HC5.out
      clear HC5
      replace H := Option.bind_eq_some_iff.mp H
      obtain ⟨t224, A90, H⟩ := H
      replace H : (if t224 = true then (if a1 < 0 then (laws_FnPreorder.j0 k a1 true a0_0 a0_1 l0_2) else (laws_FnPreorder.j0 k a1 (decide (a1 > 1000000)) a0_0 a0_1 l0_2)) else (laws_FnPreorder.j0 k a1 true a0_0 a0_1 l0_2)) = some r := H
      have A9 := Aside0.mk A90
      clear A90
      by_cases c10 : t224 = true
      · subst c10
        have H1 : (if a1 < 0 then (laws_FnPreorder.j0 k a1 true a0_0 a0_1 l0_2) else (laws_FnPreorder.j0 k a1 (decide (a1 > 1000000)) a0_0 a0_1 l0_2)) = some r := by rw [if_pos rfl] at H; exact H
        clear H
        have H := H1
        clear H1
        by_cases c11 : a1 < 0
        · rw [if_pos c11] at H
          have c11b0 : decide (a1 < 0) = true := decide_eq_true c11
          clear c11
          (first | rw [c11b0] | (simp only [i64_w, i32_w]; rw [c11b0]) | skip)
          have H' := Aside0.mk H
          clear H
          have hcz12_0 : w8.cell? ⟨gb222, 0, none⟩ = some (.string a0_0) := (blk_cell BK222.out 0).trans rfl
          have hcz12_1 : w8.cell? ⟨gb222, 1, none⟩ = some (.string a0_1) := (blk_cell BK222.out 1).trans rfl
          have hcz12_2 : w8.cell? ⟨gb222, 2, none⟩ = some (.slice A0_2 l0_2.length c0_2) := (blk_cell BK222.out 2).trans rfl
          have hfz12_0 := blk_frozen BK222.out 0
          have hfz12_1 := blk_frozen BK222.out 1
          have hfz12_2 := blk_frozen BK222.out 2
          go_wp2_with (first | ((with_reducible refine gate_callee (f := 10) rfl ?_); refine goesL_ (some 10) rfl rfl Tryz.func10 (by kernel_rfl) rfl #[.agg #[.string a0_0, .string a0_1, .slice A0_2 l0_2.length c0_2]] rfl (by (try simp only [List.map_toArray, List.map_cons, List.map_nil]); first | done | rfl | (simp only [List.length_drop, List.length_take]; rfl)) ?_; (with_reducible refine (spec_IsExprTree.calls k a0_0 a0_1 _ _ l0_2 true _ ?side1 ?side2 A9.out).mono ?_); (case side1 => repeat (first | exact (Kd.C_below HR0_2.out HB.out) | (with_reducible refine Kd.C_alloc ?_ _) | (with_reducible refine Kd.C_drewN ?_ _) | (with_reducible refine Kd.C_drew ?_))); (case side2 => exact HC0_2.out); rintro e w13 ⟨rfl, hb⟩; refine ⟨_, rfl, ?_⟩; have n0_ := Aside0.mk (blk_below (g := gb222) (o := .cells #[.string a0_0, .string a0_1, .slice A0_2 l0_2.length c0_2] 24 (0, 0)) (by (with_reducible repeat (first | refine blk_drewN ?_ _ | refine blk_drew ?_ | refine blk_alloc ?_ _)); exact BK222.out) hb); have n1_ := Aside0.mk (below_step (by repeat (first | (with_reducible first | exact HB.out | apply below_alloc | apply pw_below_drewN | apply below_drew1 | refine below_set ?_ GE222.out) | exact HB.out)) hb); clear BK222; clear HB; have BK222 := n0_; have HB := n1_; clear n0_ n1_; (try clear hb); (try clear hb2); (try clear hk); (try clear hi)))
          go_meet
          case rel => exact ⟨_, (true), (by first | rfl | (simp; done) | (simp [*]; done)), H', ⟨by first | omega | exact Nat.le_refl _⟩, ⟨by (with_reducible repeat (first | refine blk_drewN ?_ _ | refine blk_drew ?_ | refine blk_alloc ?_ _)); exact BK222.out⟩, ⟨by repeat (first | (with_reducible first | exact HB.out | apply below_alloc | apply pw_below_drewN | apply below_drew1 | refine below_set ?_ GE222.out) | exact HB.out)⟩⟩
        · rw [if_neg c11] at H
          have c11b0 : decide (a1 < 0) = false := decide_eq_false c11
          clear c11
          (first | rw [c11b0] | (simp only [i64_w, i32_w]; rw [c11b0]) | skip)
          have H' := Aside0.mk H
          clear H
          have hcz14_0 : w8.cell? ⟨gb222, 0, none⟩ = some (.string a0_0) := (blk_cell BK222.out 0).trans rfl
          have hcz14_1 : w8.cell? ⟨gb222, 1, none⟩ = some (.string a0_1) := (blk_cell BK222.out 1).trans rfl
          have hcz14_2 : w8.cell? ⟨gb222, 2, none⟩ = some (.slice A0_2 l0_2.length c0_2) := (blk_cell BK222.out 2).trans rfl
          have hfz14_0 := blk_frozen BK222.out 0
          have hfz14_1 := blk_frozen BK222.out 1
          have hfz14_2 := blk_frozen BK222.out 2
          go_wp2_with (first | ((with_reducible refine gate_callee (f := 10) rfl ?_); refine goesL_ (some 10) rfl rfl Tryz.func10 (by kernel_rfl) rfl #[.agg #[.string a0_0, .string a0_1, .slice A0_2 l0_2.length c0_2]] rfl (by (try simp only [List.map_toArray, List.map_cons, List.map_nil]); first | done | rfl | (simp only [List.length_drop, List.length_take]; rfl)) ?_; (with_reducible refine (spec_IsExprTree.calls k a0_0 a0_1 _ _ l0_2 true _ ?side1 ?side2 A9.out).mono ?_); (case side1 => repeat (first | exact (Kd.C_below HR0_2.out HB.out) | (with_reducible refine Kd.C_alloc ?_ _) | (with_reducible refine Kd.C_drewN ?_ _) | (with_reducible refine Kd.C_drew ?_))); (case side2 => exact HC0_2.out); rintro e w15 ⟨rfl, hb⟩; refine ⟨_, rfl, ?_⟩; have n0_ := Aside0.mk (blk_below (g := gb222) (o := .cells #[.string a0_0, .string a0_1, .slice A0_2 l0_2.length c0_2] 24 (0, 0)) (by (with_reducible repeat (first | refine blk_drewN ?_ _ | refine blk_drew ?_ | refine blk_alloc ?_ _)); exact BK222.out) hb); have n1_ := Aside0.mk (below_step (by repeat (first | (with_reducible first | exact HB.out | apply below_alloc | apply pw_below_drewN | apply below_drew1 | refine below_set ?_ GE222.out) | exact HB.out)) hb); clear BK222; clear HB; have BK222 := n0_; have HB := n1_; clear n0_ n1_; (try clear hb); (try clear hb2); (try clear hk); (try clear hi)))
          go_meet
          case rel => exact ⟨_, (decide (a1 > 1000000)), (by first | rfl | (simp; done) | (simp [*]; done)), H', ⟨by first | omega | exact Nat.le_refl _⟩, ⟨by (with_reducible repeat (first | refine blk_drewN ?_ _ | refine blk_drew ?_ | refine blk_alloc ?_ _)); exact BK222.out⟩, ⟨by repeat (first | (with_reducible first | exact HB.out | apply below_alloc | apply pw_below_drewN | apply below_drew1 | refine below_set ?_ GE222.out) | exact HB.out)⟩⟩
      · replace c10 := Bool.eq_false_iff.mpr c10
        subst c10
        have H1 : (laws_FnPreorder.j0 k a1 true a0_0 a0_1 l0_2) = some r := by rw [if_neg (show ¬ (false = true) by decide)] at H; exact H
        clear H
        have H := H1
        clear H1
        have H' := Aside0.mk H
        clear H
        have hcz16_0 : w8.cell? ⟨gb222, 0, none⟩ = some (.string a0_0) := (blk_cell BK222.out 0).trans rfl
        have hcz16_1 : w8.cell? ⟨gb222, 1, none⟩ = some (.string a0_1) := (blk_cell BK222.out 1).trans rfl
        have hcz16_2 : w8.cell? ⟨gb222, 2, none⟩ = some (.slice A0_2 l0_2.length c0_2) := (blk_cell BK222.out 2).trans rfl
        have hfz16_0 := blk_frozen BK222.out 0
        have hfz16_1 := blk_frozen BK222.out 1
        have hfz16_2 := blk_frozen BK222.out 2
        go_wp2_with (first | ((with_reducible refine gate_callee (f := 10) rfl ?_); refine goesL_ (some 10) rfl rfl Tryz.func10 (by kernel_rfl) rfl #[.agg #[.string a0_0, .string a0_1, .slice A0_2 l0_2.length c0_2]] rfl (by (try simp only [List.map_toArray, List.map_cons, List.map_nil]); first | done | rfl | (simp only [List.length_drop, List.length_take]; rfl)) ?_; (with_reducible refine (spec_IsExprTree.calls k a0_0 a0_1 _ _ l0_2 false _ ?side1 ?side2 A9.out).mono ?_); (case side1 => repeat (first | exact (Kd.C_below HR0_2.out HB.out) | (with_reducible refine Kd.C_alloc ?_ _) | (with_reducible refine Kd.C_drewN ?_ _) | (with_reducible refine Kd.C_drew ?_))); (case side2 => exact HC0_2.out); rintro e w17 ⟨rfl, hb⟩; refine ⟨_, rfl, ?_⟩; have n0_ := Aside0.mk (blk_below (g := gb222) (o := .cells #[.string a0_0, .string a0_1, .slice A0_2 l0_2.length c0_2] 24 (0, 0)) (by (with_reducible repeat (first | refine blk_drewN ?_ _ | refine blk_drew ?_ | refine blk_alloc ?_ _)); exact BK222.out) hb); have n1_ := Aside0.mk (below_step (by repeat (first | (with_reducible first | exact HB.out | apply below_alloc | apply pw_below_drewN | apply below_drew1 | refine below_set ?_ GE222.out) | exact HB.out)) hb); clear BK222; clear HB; have BK222 := n0_; have HB := n1_; clear n0_ n1_; (try clear hb); (try clear hb2); (try clear hk); (try clear hi)))
        go_meet
        case rel => exact ⟨_, (true), (by first | rfl | (simp; done) | (simp [*]; done)), H', ⟨by first | omega | exact Nat.le_refl _⟩, ⟨by (with_reducible repeat (first | refine blk_drewN ?_ _ | refine blk_drew ?_ | refine blk_alloc ?_ _)); exact BK222.out⟩, ⟨by repeat (first | (with_reducible first | exact HB.out | apply below_alloc | apply pw_below_drewN | apply below_drew1 | refine below_set ?_ GE222.out) | exact HB.out)⟩⟩
    case rest =>
      clear HC5
      try clear c1
      try clear p2
      try clear c4
      try clear c7
      try clear c9
      try clear c10
      try clear c11
      try clear c11b0
      try clear hcz12_0
      try clear hcz12_1
      try clear hcz12_2
      try clear hcz14_0
      try clear hcz14_1
      try clear hcz14_2
      try clear hcz16_0
      try clear hcz16_1
      try clear hcz16_2
      try clear hcz7_0
      try clear hcz7_1
      try clear hcz7_2
      try clear hfz12_0
      try clear hfz12_1
      try clear hfz12_2
      try clear hfz14_0
      try clear hfz14_1
      try clear hfz14_2
      try clear hfz16_0
      try clear hfz16_1
      try clear hfz16_2
      try clear hfz7_0
      try clear hfz7_1
      try clear hfz7_2
      obtain ⟨kq, x19_4, rfl, HA, HJ4, BK222, HB⟩ := hcut
      cases kq with
      | zero => exact absurd HA.out (by simp [laws_FnPreorder.j0])
      | succ kj4 =>
        have H := HA.out
        clear HA
        simp only [laws_FnPreorder.j0] at H
        by_cases c18 : x19_4 = true
        · subst c18
          have H1 : (some true) = some r := by rw [if_pos rfl] at H; exact H
          clear H
          have H := H1
          clear H1
          obtain rfl := Option.some.inj H
          go_wp2
          go_ret
          exact ⟨by first | rfl | (simp [errW_none, errW_some] <;> rfl) | (simp [*, errW_none, errW_some] <;> rfl), by repeat (first | (with_reducible first | exact HB.out | apply below_alloc | apply pw_below_drewN | apply below_drew1 | refine below_set ?_ GE222.out) | exact HB.out)⟩
        · replace c18 := Bool.eq_false_iff.mpr c18
          subst c18
          have H1 : ((impl_Inspected.f a0_0 a0_1 l0_2 (⟨#[110, 111, 110, 101]⟩ : ByteArray)).bind fun t225 => ((laws_nodes9.f kj4 t225 0 true).bind fun t228 => (if (t228.length : Int) > 0 then ((impl_Preordered.f a0_0 a0_1 l0_2 a1).bind fun t231 => (if 0 ≤ (mn a1 (t228.length : Int)) then (if (mn a1 (t228.length : Int)) ≤ (t228.length : Int) then ((laws_sameVisits9.f kj4 t231 (t228.take ((mn a1 (t228.length : Int)) : Int).toNat)).bind fun t238 => (some t238)) else (none)) else (none))) else (some false)))) = some r := by rw [if_neg (show ¬ (false = true) by decide)] at H; exact H
          clear H
          have H := H1
          clear H1
          replace H := Option.bind_eq_some_iff.mp H
          obtain ⟨t225, A190, H⟩ := H
          replace H : ((laws_nodes9.f kj4 t225 0 true).bind fun t228 => (if (t228.length : Int) > 0 then ((impl_Preordered.f a0_0 a0_1 l0_2 a1).bind fun t231 => (if 0 ≤ (mn a1 (t228.length : Int)) then (if (mn a1 (t228.length : Int)) ≤ (t228.length : Int) then ((laws_sameVisits9.f kj4 t231 (t228.take ((mn a1 (t228.length : Int)) : Int).toNat)).bind fun t238 => (some t238)) else (none)) else (none))) else (some false))) = some r := H
          have A19 := Aside0.mk A190
          clear A190
          replace H := Option.bind_eq_some_iff.mp H
          obtain ⟨t228, A200, H⟩ := H
          replace H : (if (t228.length : Int) > 0 then ((impl_Preordered.f a0_0 a0_1 l0_2 a1).bind fun t231 => (if 0 ≤ (mn a1 (t228.length : Int)) then (if (mn a1 (t228.length : Int)) ≤ (t228.length : Int) then ((laws_sameVisits9.f kj4 t231 (t228.take ((mn a1 (t228.length : Int)) : Int).toNat)).bind fun t238 => (some t238)) else (none)) else (none))) else (some false)) = some r := H
          have A20 := Aside0.mk A200
          clear A200
          by_cases c21 : (t228.length : Int) > 0
          · rw [if_pos c21] at H
            have c21b0 : decide (0 < (t228.length : Int)) = true := decide_eq_true c21
            have c21b1 : decide (0 < t228.length) = true := decide_eq_true (by omega)
            clear c21
            replace H := Option.bind_eq_some_iff.mp H
            obtain ⟨t231, A220, H⟩ := H
            replace H : (if 0 ≤ (mn a1 (t228.length : Int)) then (if (mn a1 (t228.length : Int)) ≤ (t228.length : Int) then ((laws_sameVisits9.f kj4 t231 (t228.take ((mn a1 (t228.length : Int)) : Int).toNat)).bind fun t238 => (some t238)) else (none)) else (none)) = some r := H
            have A22 := Aside0.mk A220
            clear A220
            obtain ⟨ji23, hji23⟩ : ∃ j_ : Int, (mn a1 (t228.length : Int)) = j_ := ⟨_, rfl⟩
            replace H : (if 0 ≤ (ji23) then (if (ji23) ≤ (t228.length : Int) then ((laws_sameVisits9.f kj4 t231 (t228.take ((ji23) : Int).toNat)).bind fun t238 => (some t238)) else (none)) else (none)) = some r := by first | (rw [hji23] at H; exact H) | (simp only [hji23] at H ⊢; exact H)
            (try rw [hji23] at A19)
            (try rw [hji23] at A20)
            (try rw [hji23] at A22)
            have hji23_ : (if (t228.length : Int) < a1 then (t228.length : Int) else a1) = ji23 := hji23
            by_cases c24 : 0 ≤ (ji23)
            · rw [if_pos c24] at H
              have c24b0 := eq_true c24
              have c24b1 : decide (0 ≤ (ji23)) = true := decide_eq_true c24
              clear c24
              by_cases c25 : (ji23) ≤ (t228.length : Int)
              · rw [if_pos c25] at H
                have c25b0 := eq_true c25
                have c25b1 : decide ((ji23) ≤ (t228.length : Int)) = true := decide_eq_true c25
                clear c25
                obtain ⟨y234, hy234⟩ : ∃ y_ : List (S29), y_ = (t228.take ((ji23) : Int).toNat) := ⟨_, rfl⟩
                replace H : ((laws_sameVisits9.f kj4 t231 y234).bind fun t238 => (some t238)) = some r := by first | (rw [hy234]; with_reducible exact H) | (have H2_ := (Option.bind_some _ _).symm.trans H; rw [hy234]; with_reducible exact H2_) | (have H2_ := (Option.bind_some _ _).symm.trans H; with_reducible exact H2_) | with_reducible exact H | (rw [hy234]; exact H) | exact H
                have Ny234 := Aside0.mk hy234
                clear hy234
                replace H := Option.bind_eq_some_iff.mp H
                obtain ⟨t238, A260, H⟩ := H
                replace H : (some t238) = some r := H
                have A26 := Aside0.mk A260
                clear A260
                obtain rfl := Option.some.inj H
                have hcz27_0 : wc.cell? ⟨gb222, 0, none⟩ = some (.string a0_0) := (blk_cell BK222.out 0).trans rfl
                have hcz27_1 : wc.cell? ⟨gb222, 1, none⟩ = some (.string a0_1) := (blk_cell BK222.out 1).trans rfl
                have hcz27_2 : wc.cell? ⟨gb222, 2, none⟩ = some (.slice A0_2 l0_2.length c0_2) := (blk_cell BK222.out 2).trans rfl
                have hfz27_0 := blk_frozen BK222.out 0
                have hfz27_1 := blk_frozen BK222.out 1
                have hfz27_2 := blk_frozen BK222.out 2
                try go_wp2_with (first | ((with_reducible refine gate_callee (f := 11) rfl ?_); refine goesL_ (some 21) rfl rfl Tryz.func11 (by kernel_rfl) rfl #[.agg #[.string a0_0, .string a0_1, .slice A0_2 l0_2.length c0_2], .string (⟨#[110, 111, 110, 101]⟩ : ByteArray)] rfl (by (try simp only [List.map_toArray, List.map_cons, List.map_nil]); first | done | rfl | (simp only [List.length_drop, List.length_take]; rfl)) ?_; (with_reducible refine (impl_Inspected.calls a0_0 a0_1 _ _ l0_2 (⟨#[110, 111, 110, 101]⟩ : ByteArray) t225 _ ?side1 ?side2 (HTT.out.below ?side3) A19.out).mono ?_); (case side1 => repeat (first | exact (Kd.C_below HR0_2.out HB.out) | (with_reducible refine Kd.C_alloc ?_ _) | (with_reducible refine Kd.C_drewN ?_ _) | (with_reducible refine Kd.C_drew ?_))); (case side2 => exact HC0_2.out); (case side3 => repeat (first | (with_reducible first | exact HB.out | apply below_alloc | apply pw_below_drewN | apply below_drew1 | refine below_set ?_ GE222.out) | exact HB.out)); rintro e w28 ⟨v226, rfl, ho0, hb⟩; refine ⟨_, rfl, ?_⟩; have n0_ := Aside0.mk (Kd.R_lower ho0 (below_size (by repeat (first | (with_reducible first | exact HB.out | apply below_alloc | apply pw_below_drewN | apply below_drew1 | refine below_set ?_ GE222.out) | exact HB.out)))); have n1_ := Aside0.mk (blk_below (g := gb222) (o := .cells #[.string a0_0, .string a0_1, .slice A0_2 l0_2.length c0_2] 24 (0, 0)) (by (with_reducible repeat (first | refine blk_drewN ?_ _ | refine blk_drew ?_ | refine blk_alloc ?_ _)); exact BK222.out) hb); have n2_ := Aside0.mk (below_step (by repeat (first | (with_reducible first | exact HB.out | apply below_alloc | apply pw_below_drewN | apply below_drew1 | refine below_set ?_ GE222.out) | exact HB.out)) hb); clear BK222; clear HB; have HO227 := n0_; have BK222 := n1_; have HB := n2_; clear n0_ n1_ n2_; (try clear hb); (try clear hb2); (try clear hk); (try clear hi); (try clear ho0); obtain ⟨Ao29, co29, eo29⟩ := Kd.R_slice HO227.out; subst eo29) | ((with_reducible refine gate_callee (f := 16) rfl ?_); refine goesL_ (some 22) rfl rfl Tryz.func16 (by kernel_rfl) rfl #[.slice Ao29 t225.length co29, .int .i64 0, .bool true] rfl (by (try simp only [List.map_toArray, List.map_cons, List.map_nil]); first | done | rfl | (simp only [List.length_drop, List.length_take]; rfl)) ?_; (with_reducible refine (laws_nodes9.calls kj4 _ _ t225 0 true t228 _ ?side1 ?side2 A20.out).mono ?_); (case side1 => repeat (first | exact (Kd.R_reads' HO227.out).2.2 | (with_reducible refine Kd.C_alloc ?_ _) | (with_reducible refine Kd.C_drewN ?_ _) | (with_reducible refine Kd.C_drew ?_))); (case side2 => exact (Kd.R_reads' HO227.out).2.1); rintro e w30 ⟨v229, rfl, ho0, hb⟩; refine ⟨_, rfl, ?_⟩; have n0_ := Aside0.mk (Kd.R_elder' (by (with_reducible repeat (first | apply Kd.R_alloc | apply Kd.R_drewN | apply Kd.R_drew)); exact HO227.out) (Kd.R_base ho0) hb); have n1_ := Aside0.mk (Kd.R_lower (Kd.R_new' ho0 (Kd.R_lt (by (with_reducible repeat (first | apply Kd.R_alloc | apply Kd.R_drewN | apply Kd.R_drew)); exact HO227.out))) (below_size (by repeat (first | (with_reducible first | exact HB.out | apply below_alloc | apply pw_below_drewN | apply below_drew1 | refine below_set ?_ GE222.out) | exact HB.out)))); have n2_ := Aside0.mk (blk_below (g := gb222) (o := .cells #[.string a0_0, .string a0_1, .slice A0_2 l0_2.length c0_2] 24 (0, 0)) (by (with_reducible repeat (first | refine blk_drewN ?_ _ | refine blk_drew ?_ | refine blk_alloc ?_ _)); exact BK222.out) hb); have n3_ := Aside0.mk (below_step (by repeat (first | (with_reducible first | exact HB.out | apply below_alloc | apply pw_below_drewN | apply below_drew1 | refine below_set ?_ GE222.out) | exact HB.out)) hb); clear HO227; clear BK222; clear HB; have HO227 := n0_; have HO230 := n1_; have BK222 := n2_; have HB := n3_; clear n0_ n1_ n2_ n3_; (try clear hb); (try clear hb2); (try clear hk); (try clear hi); (try clear ho0)))
                have n0_ := Aside0.mk (Kd.R_drew HO227.out)
                have n1_ := Aside0.mk (Kd.R_drew HO230.out)
                have n2_ := Aside0.mk (blk_drew BK222.out)
                have n3_ := Aside0.mk (below_drew1 HB.out)
                clear HO227
                clear HO230
                clear BK222
                clear HB
                have HO227 := n0_
                have HO230 := n1_
                have BK222 := n2_
                have HB := n3_
                clear n0_ n1_ n2_ n3_
                obtain ⟨Ao32, co32, eo32⟩ := Kd.R_slice HO230.out
                (first | subst eo32 | (injection eo32 with f1_ f2_ f3_; have f4_ := f1_.symm; have f5_ := f3_.symm; clear f1_ f2_ f3_; subst f4_; subst f5_))
                have q33 : ((ji23) : Int) ≤ ((t228.length : Int) : Int) := of_decide_eq_true (by first | (with_reducible assumption) | assumption)
                obtain ⟨i033, hi033, _, hsz33, _⟩ := info_parts info29
                have hroom33 : t228.length ≤ co32 := (Kd.R_reads' HO230.out).2.1
                have hC33 : Kd.C k29 _ Ao32 t228.length t228 := (Kd.R_reads' HO230.out).2.2
                have hcut33 := cut_to (P := Tryz.prog) 26 29 .i64 Tryz.underlying26 hi033 Ao32 t228.length co32 (ji23) (of_decide_eq_true (by first | (with_reducible assumption) | assumption)) q33 hroom33
                have hr33 := Kd.C_take (m := ((ji23) : Int).toNat) hC33 (by omega)
                have hy33 : y234.length = ((ji23) : Int).toNat := (by rw [Ny234.out, List.length_take]; omega)
                rw [← Ny234.out] at hr33
                rw [← hy33] at hcut33
                have HR237 := Aside0.mk hr33
                have HC237 := Aside0.mk (show y234.length ≤ co32 from by omega)
                clear hr33 hC33 hroom33 hi033 hsz33
                have KY33 := Aside0.mk hy33
                clear hy33
                have KL33 := Aside0.mk (show ((ji23) : Int).toNat ≤ t228.length from by omega)
                replace q33 := eq_true q33
                refine start_ (n := 16) (S := fun w' => w'.cell? ⟨gb222, 0, none⟩ = some (.string a0_0) ∧ w'.cell? ⟨gb222, 1, none⟩ = some (.string a0_1) ∧ w'.cell? ⟨gb222, 2, none⟩ = some (.slice A0_2 l0_2.length c0_2)) (ds := []) #[false, false, false, false, false, false, false, false, false, false, false, false, false, false, false, false] (by kernel_rfl) rfl rfl ⟨(blk_cell BK222.out 0).trans rfl, (blk_cell BK222.out 1).trans rfl, (blk_cell BK222.out 2).trans rfl⟩ (fun hHeld => ?_); refine with_tabW laws_FnPreorder.tab6 laws_FnPreorder.bits6 (fun HT_ HW_ => ?_)
                generalize w30.drew = w31 at HO227 HO230 BK222 HB HR237 hHeld ⊢
                refine pure_ (i := 0) (N := some 23) (v := ?_) (a' := ?_) #[true, false, false, false, false, false, false, false, false, false, false, false, false, false, false, false] rfl rfl (any_of HT_.out (by kernel_rfl)) (fun _ _ _ h => h) (Or.inl ⟨by rfl, ?_⟩) ?_ ?_
                rotate_left
                · intro w'
                  go_simp
                  with_reducible rfl
                rotate_left
                · simp only [Act.put, List.setIfInBounds_toArray, List.set_cons_zero, List.set_cons_succ, i64_w, i32_w]
                  rfl
                refine pure_ (i := 1) (N := some 24) (v := ?_) (a' := ?_) #[true, true, false, false, false, false, false, false, false, false, false, false, false, false, false, false] rfl rfl (any_of HT_.out (by kernel_rfl)) (fun _ _ _ h => h) (Or.inl ⟨by rfl, ?_⟩) ?_ ?_
                rotate_left
                · intro w'
                  go_simp
                  with_reducible rfl
                rotate_left
                · simp only [Act.put, List.setIfInBounds_toArray, List.set_cons_zero, List.set_cons_succ, i64_w, i32_w]
                  rfl
                refine pure_ (i := 2) (N := some 25) (v := ?_) (a' := ?_) #[true, true, true, false, false, false, false, false, false, false, false, false, false, false, false, false] rfl rfl (any_of HT_.out (by kernel_rfl)) (fun _ _ _ h => h) (Or.inl ⟨by rfl, ?_⟩) ?_ ?_
                rotate_left
                · intro w'
                  go_simp
                  with_reducible rfl
                rotate_left
                · simp only [Act.put, List.setIfInBounds_toArray, List.set_cons_zero, List.set_cons_succ, i64_w, i32_w]
                  rfl
                refine pure_ (i := 3) (N := some 26) (v := ?_) (a' := ?_) #[true, true, true, true, false, false, false, false, false, false, false, false, false, false, false, false] rfl rfl (any_of HT_.out (by kernel_rfl)) (fun _ _ _ h => h) (Or.inl ⟨by rfl, ?_⟩) ?_ ?_
                rotate_left
                · intro w'
                  go_simp
                  with_reducible rfl
                rotate_left
                · simp only [Act.put, List.setIfInBounds_toArray, List.set_cons_zero, List.set_cons_succ, i64_w, i32_w]
                  rfl
                refine pure_ (i := 5) (N := some 28) (v := ?_) (a' := ?_) #[true, true, true, true, false, true, false, false, false, false, false, false, false, false, false, false] rfl rfl (any_of HT_.out (by kernel_rfl)) (fun _ _ _ h => h) (Or.inl ⟨by rfl, ?_⟩) ?_ ?_
                rotate_left
                · intro w'
                  go_simp
                  with_reducible rfl
                rotate_left
                · simp only [Act.put, List.setIfInBounds_toArray, List.set_cons_zero, List.set_cons_succ, i64_w, i32_w]
                  rfl
                refine pure_ (i := 7) (N := some 30) (v := ?_) (a' := ?_) #[true, true, true, true, false, true, false, true, false, false, false, false, false, false, false, false] rfl rfl (any_of HT_.out (by kernel_rfl)) (fun _ _ _ h => h) (Or.inl ⟨by rfl, ?_⟩) ?_ ?_
                rotate_left
                · intro w'
                  go_simp
                  with_reducible rfl
                rotate_left
                · simp only [Act.put, List.setIfInBounds_toArray, List.set_cons_zero, List.set_cons_succ, i64_w, i32_w]
                  rfl
                refine pure_ (i := 8) (N := some 31) (v := ?_) (a' := ?_) #[true, true, true, true, false, true, false, true, true, false, false, false, false, false, false, false] rfl rfl (any_of HT_.out (by kernel_rfl)) (fun _ _ _ h => h) (Or.inl ⟨by rfl, ?_⟩) ?_ ?_
                rotate_left
                · intro w'
                  go_simp
                  with_reducible rfl
                rotate_left
                · simp only [Act.put, List.setIfInBounds_toArray, List.set_cons_zero, List.set_cons_succ, i64_w, i32_w]
                  rfl
                refine pure_ (i := 9) (N := some 32) (v := ?_) (a' := ?_) #[true, true, true, true, false, true, false, true, true, true, false, false, false, false, false, false] rfl rfl (any_of HT_.out (by kernel_rfl)) (fun _ _ _ h => h) (Or.inl ⟨by rfl, ?_⟩) ?_ ?_
                rotate_left
                · intro w'
                  go_simp
                  with_reducible rfl
                rotate_left
                · simp only [Act.put, List.setIfInBounds_toArray, List.set_cons_zero, List.set_cons_succ, i64_w, i32_w]
                  rfl
                refine pure_ (i := 10) (N := some 33) (v := ?_) (a' := ?_) #[true, true, true, true, false, true, false, true, true, true, true, false, false, false, false, false] rfl rfl (any_of HT_.out (by kernel_rfl)) (fun _ _ _ h => h) (Or.inl ⟨by rfl, ?_⟩) ?_ ?_
                rotate_left
                · intro w'
                  go_simp
                  with_reducible rfl
                rotate_left
                · simp only [Act.put, List.setIfInBounds_toArray, List.set_cons_zero, List.set_cons_succ, i64_w, i32_w]
                  rfl
                refine pure_ (i := 11) (N := some 34) (v := ?_) (a' := ?_) #[true, true, true, true, false, true, false, true, true, true, true, true, false, false, false, false] rfl rfl (any_of HT_.out (by kernel_rfl)) (fun _ _ _ h => h) (Or.inl ⟨by rfl, ?_⟩) ?_ ?_
                rotate_left
                · intro w'
                  go_simp
                  with_reducible rfl
                rotate_left
                · simp only [Act.put, List.setIfInBounds_toArray, List.set_cons_zero, List.set_cons_succ, i64_w, i32_w]
                  rfl
                refine pure_ (i := 12) (N := some 35) (v := ?_) (a' := ?_) #[true, true, true, true, false, true, false, true, true, true, true, true, true, false, false, false] rfl rfl (any_of HT_.out (by kernel_rfl)) (fun _ _ _ h => h) (Or.inl ⟨by rfl, ?_⟩) ?_ ?_
                rotate_left
                · intro w'
                  go_simp
                  with_reducible rfl
                rotate_left
                · simp only [Act.put, List.setIfInBounds_toArray, List.set_cons_zero, List.set_cons_succ, i64_w, i32_w]
                  rfl
                refine take_ (i := 4) (N := some 27) (v := ?_) (a' := ?_) #[true, true, true, true, true, true, false, true, true, true, true, true, true, false, false, false] rfl rfl (take_ofW HT_.out HW_.out (by kernel_rfl)) (fun _ _ _ h => h) (Or.inl ⟨by rfl, ?_⟩) hHeld ?_ ?_
                rotate_left
                · rintro w' ⟨s0, s1, s2⟩
                  go_simp
                  with_reducible rfl
                rotate_left
                · simp only [Act.put, List.setIfInBounds_toArray, List.set_cons_zero, List.set_cons_succ, i64_w, i32_w]
                  rfl
                refine one_ (i := 6) (N := some 29) #[true, true, true, true, true, true, true, true, true, true, true, true, true, false, false, false] rfl rfl (one_of HT_.out (by kernel_rfl)) (by decide) (fun K hK => ?_)
                refine goes_ Tryz.func17 (by kernel_rfl) rfl #[.agg #[.string a0_0, .string a0_1, .slice A0_2 l0_2.length c0_2], .int .i64 a1] (by rfl) rfl rfl (by (try simp only [List.map_toArray, List.map_cons, List.map_nil]); first | done | rfl | (simp only [List.length_drop, List.length_take]; rfl)) ?_
                with_reducible refine (impl_Preordered.calls a0_0 a0_1 _ _ l0_2 a1 t231 _ ?side1 ?side2 (HTT.out.below ?side3) A22.out).mono ?_
                (case side1 => repeat (first | exact (Kd.C_below HR0_2.out HB.out) | (with_reducible refine Kd.C_alloc ?_ _) | (with_reducible refine Kd.C_drewN ?_ _) | (with_reducible refine Kd.C_drew ?_)))
                (case side2 => exact HC0_2.out)
                (case side3 => repeat (first | (with_reducible first | exact HB.out | apply below_alloc | apply pw_below_drewN | apply below_drew1 | refine below_set ?_ GE222.out) | exact HB.out))
                rintro e w34 ⟨v232, rfl, ho0, hb⟩
                refine ⟨_, rfl, ?_⟩
                have n0_ := Aside0.mk (Kd.R_elder' (by (with_reducible repeat (first | apply Kd.R_alloc | apply Kd.R_drewN | apply Kd.R_drew)); exact HO227.out) (Kd.R_base ho0) hb)
                have n1_ := Aside0.mk (Kd.R_elder' (by (with_reducible repeat (first | apply Kd.R_alloc | apply Kd.R_drewN | apply Kd.R_drew)); exact HO230.out) (Kd.R_base ho0) hb)
                have n2_ := Aside0.mk (Kd.R_lower (Kd.R_new' (Kd.R_new' ho0 (Kd.R_lt (by (with_reducible repeat (first | apply Kd.R_alloc | apply Kd.R_drewN | apply Kd.R_drew)); exact HO227.out))) (Kd.R_lt (by (with_reducible repeat (first | apply Kd.R_alloc | apply Kd.R_drewN | apply Kd.R_drew)); exact HO230.out))) (below_size (by repeat (first | (with_reducible first | exact HB.out | apply below_alloc | apply pw_below_drewN | apply below_drew1 | refine below_set ?_ GE222.out) | exact HB.out))))
                have n3_ := Aside0.mk (blk_below (g := gb222) (o := .cells #[.string a0_0, .string a0_1, .slice A0_2 l0_2.length c0_2] 24 (0, 0)) (by (with_reducible repeat (first | refine blk_drewN ?_ _ | refine blk_drew ?_ | refine blk_alloc ?_ _)); exact BK222.out) hb)
                have n4_ := Aside0.mk (Kd.C_below (by repeat (first | (with_reducible exact HR237.out) | (with_reducible refine Kd.C_alloc ?_ _) | (with_reducible refine Kd.C_drewN ?_ _) | (with_reducible refine Kd.C_drew ?_) | exact HR237.out)) hb)
                have n5_ := Aside0.mk (below_step (by repeat (first | (with_reducible first | exact HB.out | apply below_alloc | apply pw_below_drewN | apply below_drew1 | refine below_set ?_ GE222.out) | exact HB.out)) hb)
                clear HO227
                clear HO230
                clear BK222
                clear HR237
                clear HB
                have HO227 := n0_
                have HO230 := n1_
                have HO233 := n2_
                have BK222 := n3_
                have HR237 := n4_
                have HB := n5_
                clear n0_ n1_ n2_ n3_ n4_ n5_
                (try clear hb)
                (try clear hb2)
                (try clear hk)
                (try clear hi)
                (try clear ho0)
                obtain ⟨Ao35, co35, eo35⟩ := Kd.R_slice HO233.out
                (first | subst eo35 | (injection eo35 with f1_ f2_ f3_; have f4_ := f1_.symm; have f5_ := f3_.symm; clear f1_ f2_ f3_; subst f4_; subst f5_))
                refine hK.out _ _ ⟨(blk_cell BK222.out 0).trans rfl, (blk_cell BK222.out 1).trans rfl, (blk_cell BK222.out 2).trans rfl⟩ (fun hHeld => ?_)
                clear hK K
                refine norm_ (a' := ?_) ?_ ?_
                rotate_left
                · show Act.put _ (some 29) _ = _
                  simp only [Act.put, List.setIfInBounds_toArray, List.set_cons_zero, List.set_cons_succ, i64_w, i32_w]
                  rfl
                refine one_ (i := 13) (N := some 36) #[true, true, true, true, true, true, true, true, true, true, true, true, true, true, false, false] rfl rfl (one_of HT_.out (by kernel_rfl)) (by decide) (fun K hK => ?_)
                refine goes_ Tryz.func12 (by kernel_rfl) rfl #[.slice Ao35 t231.length co35, .slice Ao32 y234.length co32] (by rfl) rfl rfl (by (try simp only [List.map_toArray, List.map_cons, List.map_nil]); first | done | rfl | (simp only [List.length_drop, List.length_take]; rfl)) ?_
                with_reducible refine (laws_sameVisits9.calls kj4 _ _ t231 _ _ y234 t238 _ ?side1 ?side2 ?side3 ?side4 A26.out).mono ?_
                (case side1 => repeat (first | exact (Kd.R_reads' HO233.out).2.2 | (with_reducible refine Kd.C_alloc ?_ _) | (with_reducible refine Kd.C_drewN ?_ _) | (with_reducible refine Kd.C_drew ?_)))
                (case side2 => exact (Kd.R_reads' HO233.out).2.1)
                (case side3 => repeat (first | exact (by repeat (first | (with_reducible exact HR237.out) | (with_reducible refine Kd.C_alloc ?_ _) | (with_reducible refine Kd.C_drewN ?_ _) | (with_reducible refine Kd.C_drew ?_) | exact HR237.out)) | (with_reducible refine Kd.C_alloc ?_ _) | (with_reducible refine Kd.C_drewN ?_ _) | (with_reducible refine Kd.C_drew ?_)))
                (case side4 => exact HC237.out)
                rintro e w36 ⟨rfl, hb⟩
                refine ⟨_, rfl, ?_⟩
                have n0_ := Aside0.mk (Kd.R_below (by (with_reducible repeat (first | apply Kd.R_alloc | apply Kd.R_drewN | apply Kd.R_drew)); exact HO227.out) hb)
                have n1_ := Aside0.mk (Kd.R_below (by (with_reducible repeat (first | apply Kd.R_alloc | apply Kd.R_drewN | apply Kd.R_drew)); exact HO230.out) hb)
                have n2_ := Aside0.mk (Kd.R_below (by (with_reducible repeat (first | apply Kd.R_alloc | apply Kd.R_drewN | apply Kd.R_drew)); exact HO233.out) hb)
                have n3_ := Aside0.mk (blk_below (g := gb222) (o := .cells #[.string a0_0, .string a0_1, .slice A0_2 l0_2.length c0_2] 24 (0, 0)) (by (with_reducible repeat (first | refine blk_drewN ?_ _ | refine blk_drew ?_ | refine blk_alloc ?_ _)); exact BK222.out) hb)
                have n4_ := Aside0.mk (Kd.C_below (by repeat (first | (with_reducible exact HR237.out) | (with_reducible refine Kd.C_alloc ?_ _) | (with_reducible refine Kd.C_drewN ?_ _) | (with_reducible refine Kd.C_drew ?_) | exact HR237.out)) hb)
                have n5_ := Aside0.mk (below_step (by repeat (first | (with_reducible first | exact HB.out | apply below_alloc | apply pw_below_drewN | apply below_drew1 | refine below_set ?_ GE222.out) | exact HB.out)) hb)
                clear HO227
                clear HO230
                clear HO233
                clear BK222
                clear HR237
                clear HB
                have HO227 := n0_
                have HO230 := n1_
                have HO233 := n2_
                have BK222 := n3_
                have HR237 := n4_
                have HB := n5_
                clear n0_ n1_ n2_ n3_ n4_ n5_
                (try clear hb)
                (try clear hb2)
                (try clear hk)
                (try clear hi)
                refine hK.out _ _ ⟨(blk_cell BK222.out 0).trans rfl, (blk_cell BK222.out 1).trans rfl, (blk_cell BK222.out 2).trans rfl⟩ (fun hHeld => ?_)
                clear hK K
                refine norm_ (a' := ?_) ?_ ?_
                rotate_left
                · show Act.put _ (some 36) _ = _
                  simp only [Act.put, List.setIfInBounds_toArray, List.set_cons_zero, List.set_cons_succ, i64_w, i32_w]
                  rfl
                refine pure_ (i := 14) (N := some 37) (v := ?_) (a' := ?_) #[true, true, true, true, true, true, true, true, true, true, true, true, true, true, true, false] rfl rfl (any_of HT_.out (by kernel_rfl)) (fun _ _ _ h => h) (Or.inl ⟨by rfl, ?_⟩) ?_ ?_
                rotate_left
                · intro w'
                  go_simp
                  with_reducible rfl
                rotate_left
                · simp only [Act.put, List.setIfInBounds_toArray, List.set_cons_zero, List.set_cons_succ, i64_w, i32_w]
                  rfl
                refine pure_ (i := 15) (N := some 4) (v := ?_) (a' := ?_) #[true, true, true, true, true, true, true, true, true, true, true, true, true, true, true, true] rfl rfl (any_of HT_.out (by kernel_rfl)) (fun _ _ _ h => h) (Or.inl ⟨by rfl, ?_⟩) ?_ ?_
                rotate_left
                · intro w'
                  go_simp
                  with_reducible rfl
                rotate_left
                · simp only [Act.put, List.setIfInBounds_toArray, List.set_cons_zero, List.set_cons_succ, i64_w, i32_w]
                  rfl
                refine done_ (done_of HT_.out (by kernel_rfl)) ?_
                try go_wp2
                go_ret
                exact ⟨by first | rfl | (simp [errW_none, errW_some] <;> rfl) | (simp only [← hji23]; first | rfl | (simp [errW_none, errW_some] <;> rfl)) | (simp [*, errW_none, errW_some] <;> rfl), by repeat (first | (with_reducible first | exact HB.out | apply below_alloc | apply pw_below_drewN | apply below_drew1 | refine below_set ?_ GE222.out) | exact HB.out)⟩
              · rw [if_neg c25] at H
                exact absurd H (by simp)
            · rw [if_neg c24] at H
              exact absurd H (by simp)
          · rw [if_neg c21] at H
            have c21b0 : decide (0 < (t228.length : Int)) = false := decide_eq_false c21
            have c21b1 : decide (0 < t228.length) = false := decide_eq_false (by omega)
            clear c21
            obtain rfl := Option.some.inj H
            have hcz37_0 : wc.cell? ⟨gb222, 0, none⟩ = some (.string a0_0) := (blk_cell BK222.out 0).trans rfl
            have hcz37_1 : wc.cell? ⟨gb222, 1, none⟩ = some (.string a0_1) := (blk_cell BK222.out 1).trans rfl
            have hcz37_2 : wc.cell? ⟨gb222, 2, none⟩ = some (.slice A0_2 l0_2.length c0_2) := (blk_cell BK222.out 2).trans rfl
            have hfz37_0 := blk_frozen BK222.out 0
            have hfz37_1 := blk_frozen BK222.out 1
            have hfz37_2 := blk_frozen BK222.out 2
            try go_wp2_with (first | ((with_reducible refine gate_callee (f := 11) rfl ?_); refine goesL_ (some 21) rfl rfl Tryz.func11 (by kernel_rfl) rfl #[.agg #[.string a0_0, .string a0_1, .slice A0_2 l0_2.length c0_2], .string (⟨#[110, 111, 110, 101]⟩ : ByteArray)] rfl (by (try simp only [List.map_toArray, List.map_cons, List.map_nil]); first | done | rfl | (simp only [List.length_drop, List.length_take]; rfl)) ?_; (with_reducible refine (impl_Inspected.calls a0_0 a0_1 _ _ l0_2 (⟨#[110, 111, 110, 101]⟩ : ByteArray) t225 _ ?side1 ?side2 (HTT.out.below ?side3) A19.out).mono ?_); (case side1 => repeat (first | exact (Kd.C_below HR0_2.out HB.out) | (with_reducible refine Kd.C_alloc ?_ _) | (with_reducible refine Kd.C_drewN ?_ _) | (with_reducible refine Kd.C_drew ?_))); (case side2 => exact HC0_2.out); (case side3 => repeat (first | (with_reducible first | exact HB.out | apply below_alloc | apply pw_below_drewN | apply below_drew1 | refine below_set ?_ GE222.out) | exact HB.out)); rintro e w38 ⟨v226, rfl, ho0, hb⟩; refine ⟨_, rfl, ?_⟩; have n0_ := Aside0.mk (Kd.R_lower ho0 (below_size (by repeat (first | (with_reducible first | exact HB.out | apply below_alloc | apply pw_below_drewN | apply below_drew1 | refine below_set ?_ GE222.out) | exact HB.out)))); have n1_ := Aside0.mk (blk_below (g := gb222) (o := .cells #[.string a0_0, .string a0_1, .slice A0_2 l0_2.length c0_2] 24 (0, 0)) (by (with_reducible repeat (first | refine blk_drewN ?_ _ | refine blk_drew ?_ | refine blk_alloc ?_ _)); exact BK222.out) hb); have n2_ := Aside0.mk (below_step (by repeat (first | (with_reducible first | exact HB.out | apply below_alloc | apply pw_below_drewN | apply below_drew1 | refine below_set ?_ GE222.out) | exact HB.out)) hb); clear BK222; clear HB; have HO227 := n0_; have BK222 := n1_; have HB := n2_; clear n0_ n1_ n2_; (try clear hb); (try clear hb2); (try clear hk); (try clear hi); (try clear ho0); obtain ⟨Ao39, co39, eo39⟩ := Kd.R_slice HO227.out; subst eo39) | ((with_reducible refine gate_callee (f := 16) rfl ?_); refine goesL_ (some 22) rfl rfl Tryz.func16 (by kernel_rfl) rfl #[.slice Ao39 t225.length co39, .int .i64 0, .bool true] rfl (by (try simp only [List.map_toArray, List.map_cons, List.map_nil]); first | done | rfl | (simp only [List.length_drop, List.length_take]; rfl)) ?_; (with_reducible refine (laws_nodes9.calls kj4 _ _ t225 0 true t228 _ ?side1 ?side2 A20.out).mono ?_); (case side1 => repeat (first | exact (Kd.R_reads' HO227.out).2.2 | (with_reducible refine Kd.C_alloc ?_ _) | (with_reducible refine Kd.C_drewN ?_ _) | (with_reducible refine Kd.C_drew ?_))); (case side2 => exact (Kd.R_reads' HO227.out).2.1); rintro e w40 ⟨v229, rfl, ho0, hb⟩; refine ⟨_, rfl, ?_⟩; have n0_ := Aside0.mk (Kd.R_elder' (by (with_reducible repeat (first | apply Kd.R_alloc | apply Kd.R_drewN | apply Kd.R_drew)); exact HO227.out) (Kd.R_base ho0) hb); have n1_ := Aside0.mk (Kd.R_lower (Kd.R_new' ho0 (Kd.R_lt (by (with_reducible repeat (first | apply Kd.R_alloc | apply Kd.R_drewN | apply Kd.R_drew)); exact HO227.out))) (below_size (by repeat (first | (with_reducible first | exact HB.out | apply below_alloc | apply pw_below_drewN | apply below_drew1 | refine below_set ?_ GE222.out) | exact HB.out)))); have n2_ := Aside0.mk (blk_below (g := gb222) (o := .cells #[.string a0_0, .string a0_1, .slice A0_2 l0_2.length c0_2] 24 (0, 0)) (by (with_reducible repeat (first | refine blk_drewN ?_ _ | refine blk_drew ?_ | refine blk_alloc ?_ _)); exact BK222.out) hb); have n3_ := Aside0.mk (below_step (by repeat (first | (with_reducible first | exact HB.out | apply below_alloc | apply pw_below_drewN | apply below_drew1 | refine below_set ?_ GE222.out) | exact HB.out)) hb); clear HO227; clear BK222; clear HB; have HO227 := n0_; have HO230 := n1_; have BK222 := n2_; have HB := n3_; clear n0_ n1_ n2_ n3_; (try clear hb); (try clear hb2); (try clear hk); (try clear hi); (try clear ho0)))
            have n0_ := Aside0.mk (Kd.R_drew HO227.out)
            have n1_ := Aside0.mk (Kd.R_drew HO230.out)
            have n2_ := Aside0.mk (blk_drew BK222.out)
            have n3_ := Aside0.mk (below_drew1 HB.out)
            clear HO227
            clear HO230
            clear BK222
            clear HB
            have HO227 := n0_
            have HO230 := n1_
            have BK222 := n2_
            have HB := n3_
            clear n0_ n1_ n2_ n3_
            obtain ⟨Ao42, co42, eo42⟩ := Kd.R_slice HO230.out
            (first | subst eo42 | (injection eo42 with f1_ f2_ f3_; have f4_ := f1_.symm; have f5_ := f3_.symm; clear f1_ f2_ f3_; subst f4_; subst f5_))
            refine start_ (n := 16) (S := fun w' => True) (ds := []) #[false, false, false, false, false, false, false, false, false, false, false, false, false, false, false, false] (by kernel_rfl) rfl rfl trivial (fun hHeld => ?_); refine with_tabW laws_FnPreorder.tab6 laws_FnPreorder.bits6 (fun HT_ HW_ => ?_)
            generalize w40.drew = w41 at HO227 HO230 BK222 HB hHeld ⊢
            refine pure_ (i := 0) (N := some 23) (v := ?_) (a' := ?_) #[true, false, false, false, false, false, false, false, false, false, false, false, false, false, false, false] rfl rfl (any_of HT_.out (by kernel_rfl)) (fun _ _ _ h => h) (Or.inl ⟨by rfl, ?_⟩) ?_ ?_
            rotate_left
            · intro w'
              go_simp
              with_reducible rfl
            rotate_left
            · simp only [Act.put, List.setIfInBounds_toArray, List.set_cons_zero, List.set_cons_succ, i64_w, i32_w]
              rfl
            refine pure_ (i := 1) (N := some 24) (v := ?_) (a' := ?_) #[true, true, false, false, false, false, false, false, false, false, false, false, false, false, false, false] rfl rfl (any_of HT_.out (by kernel_rfl)) (fun _ _ _ h => h) (Or.inl ⟨by rfl, ?_⟩) ?_ ?_
            rotate_left
            · intro w'
              go_simp
              with_reducible rfl
            rotate_left
            · simp only [Act.put, List.setIfInBounds_toArray, List.set_cons_zero, List.set_cons_succ, i64_w, i32_w]
              rfl
            refine pure_ (i := 2) (N := some 25) (v := ?_) (a' := ?_) #[true, true, true, false, false, false, false, false, false, false, false, false, false, false, false, false] rfl rfl (any_of HT_.out (by kernel_rfl)) (fun _ _ _ h => h) (Or.inl ⟨by rfl, ?_⟩) ?_ ?_
            rotate_left
            · intro w'
              go_simp
              with_reducible rfl
            rotate_left
            · simp only [Act.put, List.setIfInBounds_toArray, List.set_cons_zero, List.set_cons_succ, i64_w, i32_w]
              rfl
            refine pure_ (i := 3) (N := some 26) (v := ?_) (a' := ?_) #[true, true, true, true, false, false, false, false, false, false, false, false, false, false, false, false] rfl rfl (any_of HT_.out (by kernel_rfl)) (fun _ _ _ h => h) (Or.inl ⟨by rfl, ?_⟩) ?_ ?_
            rotate_left
            · intro w'
              go_simp
              with_reducible rfl
            rotate_left
            · simp only [Act.put, List.setIfInBounds_toArray, List.set_cons_zero, List.set_cons_succ, i64_w, i32_w]
              rfl
            refine pure_ (i := 4) (N := some 27) (v := undef) (a' := ?_) #[true, true, true, true, true, false, false, false, false, false, false, false, false, false, false, false] rfl rfl (any_of HT_.out (by kernel_rfl)) (fun _ _ _ h => h) (Or.inr ⟨by rfl, rfl⟩) ?_ ?_
            rotate_left
            · simp only [Act.put, List.setIfInBounds_toArray, List.set_cons_zero, List.set_cons_succ, i64_w, i32_w]
              rfl
            refine pure_ (i := 5) (N := some 28) (v := undef) (a' := ?_) #[true, true, true, true, true, true, false, false, false, false, false, false, false, false, false, false] rfl rfl (any_of HT_.out (by kernel_rfl)) (fun _ _ _ h => h) (Or.inr ⟨by rfl, rfl⟩) ?_ ?_
            rotate_left
            · simp only [Act.put, List.setIfInBounds_toArray, List.set_cons_zero, List.set_cons_succ, i64_w, i32_w]
              rfl
            refine pure_ (i := 6) (N := some 29) (v := undef) (a' := ?_) #[true, true, true, true, true, true, true, false, false, false, false, false, false, false, false, false] rfl rfl (any_of HT_.out (by kernel_rfl)) (fun _ _ _ h => h) (Or.inr ⟨by rfl, rfl⟩) ?_ ?_
            rotate_left
            · simp only [Act.put, List.setIfInBounds_toArray, List.set_cons_zero, List.set_cons_succ, i64_w, i32_w]
              rfl
            refine pure_ (i := 7) (N := some 30) (v := undef) (a' := ?_) #[true, true, true, true, true, true, true, true, false, false, false, false, false, false, false, false] rfl rfl (any_of HT_.out (by kernel_rfl)) (fun _ _ _ h => h) (Or.inr ⟨by rfl, rfl⟩) ?_ ?_
            rotate_left
            · simp only [Act.put, List.setIfInBounds_toArray, List.set_cons_zero, List.set_cons_succ, i64_w, i32_w]
              rfl
            refine pure_ (i := 8) (N := some 31) (v := undef) (a' := ?_) #[true, true, true, true, true, true, true, true, true, false, false, false, false, false, false, false] rfl rfl (any_of HT_.out (by kernel_rfl)) (fun _ _ _ h => h) (Or.inr ⟨by rfl, rfl⟩) ?_ ?_
            rotate_left
            · simp only [Act.put, List.setIfInBounds_toArray, List.set_cons_zero, List.set_cons_succ, i64_w, i32_w]
              rfl
            refine pure_ (i := 9) (N := some 32) (v := undef) (a' := ?_) #[true, true, true, true, true, true, true, true, true, true, false, false, false, false, false, false] rfl rfl (any_of HT_.out (by kernel_rfl)) (fun _ _ _ h => h) (Or.inr ⟨by rfl, rfl⟩) ?_ ?_
            rotate_left
            · simp only [Act.put, List.setIfInBounds_toArray, List.set_cons_zero, List.set_cons_succ, i64_w, i32_w]
              rfl
            refine pure_ (i := 10) (N := some 33) (v := undef) (a' := ?_) #[true, true, true, true, true, true, true, true, true, true, true, false, false, false, false, false] rfl rfl (any_of HT_.out (by kernel_rfl)) (fun _ _ _ h => h) (Or.inr ⟨by rfl, rfl⟩) ?_ ?_
            rotate_left
            · simp only [Act.put, List.setIfInBounds_toArray, List.set_cons_zero, List.set_cons_succ, i64_w, i32_w]
              rfl
            refine pure_ (i := 11) (N := some 34) (v := undef) (a' := ?_) #[true, true, true, true, true, true, true, true, true, true, true, true, false, false, false, false] rfl rfl (any_of HT_.out (by kernel_rfl)) (fun _ _ _ h => h) (Or.inr ⟨by rfl, rfl⟩) ?_ ?_
            rotate_left
            · simp only [Act.put, List.setIfInBounds_toArray, List.set_cons_zero, List.set_cons_succ, i64_w, i32_w]
              rfl
            refine pure_ (i := 12) (N := some 35) (v := undef) (a' := ?_) #[true, true, true, true, true, true, true, true, true, true, true, true, true, false, false, false] rfl rfl (any_of HT_.out (by kernel_rfl)) (fun _ _ _ h => h) (Or.inr ⟨by rfl, rfl⟩) ?_ ?_
            rotate_left
            · simp only [Act.put, List.setIfInBounds_toArray, List.set_cons_zero, List.set_cons_succ, i64_w, i32_w]
              rfl
            refine pure_ (i := 13) (N := some 36) (v := undef) (a' := ?_) #[true, true, true, true, true, true, true, true, true, true, true, true, true, true, false, false] rfl rfl (any_of HT_.out (by kernel_rfl)) (fun _ _ _ h => h) (Or.inr ⟨by rfl, rfl⟩) ?_ ?_
            rotate_left
            · simp only [Act.put, List.setIfInBounds_toArray, List.set_cons_zero, List.set_cons_succ, i64_w, i32_w]
              rfl
            refine pure_ (i := 14) (N := some 37) (v := ?_) (a' := ?_) #[true, true, true, true, true, true, true, true, true, true, true, true, true, true, true, false] rfl rfl (any_of HT_.out (by kernel_rfl)) (fun _ _ _ h => h) (Or.inl ⟨by rfl, ?_⟩) ?_ ?_
            rotate_left
            · intro w'
              go_simp
              with_reducible rfl
            rotate_left
            · simp only [Act.put, List.setIfInBounds_toArray, List.set_cons_zero, List.set_cons_succ, i64_w, i32_w]
              rfl
            refine pure_ (i := 15) (N := some 4) (v := ?_) (a' := ?_) #[true, true, true, true, true, true, true, true, true, true, true, true, true, true, true, true] rfl rfl (any_of HT_.out (by kernel_rfl)) (fun _ _ _ h => h) (Or.inl ⟨by rfl, ?_⟩) ?_ ?_
            rotate_left
            · intro w'
              go_simp
              with_reducible rfl
            rotate_left
            · simp only [Act.put, List.setIfInBounds_toArray, List.set_cons_zero, List.set_cons_succ, i64_w, i32_w]
              rfl
            refine done_ (done_of HT_.out (by kernel_rfl)) ?_
            try go_wp2
            go_ret
            exact ⟨by first | rfl | (simp [errW_none, errW_some] <;> rfl) | (simp [*, errW_none, errW_some] <;> rfl), by repeat (first | (with_reducible first | exact HB.out | apply below_alloc | apply pw_below_drewN | apply below_drew1 | refine below_set ?_ GE222.out) | exact HB.out)⟩
  · replace c4 := Bool.eq_false_iff.mpr c4
    subst c4
    have H1 : (some true) = some r := by rw [if_neg (show ¬ (false = true) by decide)] at H; exact H
    clear H
    have H := H1
    clear H1
    obtain rfl := Option.some.inj H
    go_enter Tryz.func7, Tryz.ntmps7
    go_wp2_with (first | ((with_reducible refine gate_dst (N := 2) rfl ?_); (try (refine gate_guard (by rfl) ?_; dsimp only)); refine box_event ?hg (N := 2) ?hd (cs := #[.string a0_0, .string a0_1, .slice A0_2 l0_2.length c0_2]) (t := 24) ?hr ?_; (case hd => rfl); (case hg => rfl); (case hr => first | (go_simp; done) | (go_simp; rfl)); intro gb222 hg w43 hbox hb; have n0_ := Aside0.mk (below_step (by repeat (first | (with_reducible first | exact HB.out | apply below_alloc | apply pw_below_drewN | apply below_drew1) | exact HB.out)) hb); have n1_ := Aside0.mk (hbox); have n2_ := Aside0.mk ((by rw [hg]; exact (below_size (by repeat (first | (with_reducible first | exact HB.out | apply below_alloc | apply pw_below_drewN | apply below_drew1) | exact HB.out))) : w.heap.size ≤ gb222)); have n3_ := Aside0.mk ((by rw [hg]; exact (below_size (by repeat (first | (with_reducible first | exact HB.out | apply below_alloc | apply pw_below_drewN | apply below_drew1) | exact HB.out))) : w.heap.size ≤ gb222)); clear HB; have HB := n0_; have BK222 := n1_; have GW222 := n2_; have GE222 := n3_; clear n0_ n1_ n2_ n3_; clear hb hbox hg; have hcz44_0 : w43.cell? ⟨gb222, 0, none⟩ = some (.string a0_0) := (blk_cell BK222.out 0).trans rfl; have hcz44_1 : w43.cell? ⟨gb222, 1, none⟩ = some (.string a0_1) := (blk_cell BK222.out 1).trans rfl; have hcz44_2 : w43.cell? ⟨gb222, 2, none⟩ = some (.slice A0_2 l0_2.length c0_2) := (blk_cell BK222.out 2).trans rfl; have hfz44_0 := blk_frozen BK222.out 0; have hfz44_1 := blk_frozen BK222.out 1; have hfz44_2 := blk_frozen BK222.out 2) | ((with_reducible refine gate_callee (f := 9) rfl ?_); refine goesL_ (some 7) rfl rfl Tryz.func9 (by kernel_rfl) rfl #[.agg #[.string a0_0, .string a0_1, .slice A0_2 l0_2.length c0_2]] rfl (by (try simp only [List.map_toArray, List.map_cons, List.map_nil]); first | done | rfl | (simp only [List.length_drop, List.length_take]; rfl)) ?_; (with_reducible refine (laws_zzFits10.calls a0_0 a0_1 _ _ l0_2 false _ ?side1 ?side2 A3.out).mono ?_); (case side1 => repeat (first | exact (Kd.C_below HR0_2.out HB.out) | (with_reducible refine Kd.C_alloc ?_ _) | (with_reducible refine Kd.C_drewN ?_ _) | (with_reducible refine Kd.C_drew ?_))); (case side2 => exact HC0_2.out); rintro e w45 ⟨rfl, hb⟩; refine ⟨_, rfl, ?_⟩; have n0_ := Aside0.mk (blk_below (g := gb222) (o := .cells #[.string a0_0, .string a0_1, .slice A0_2 l0_2.length c0_2] 24 (0, 0)) (by (with_reducible repeat (first | refine blk_drewN ?_ _ | refine blk_drew ?_ | refine blk_alloc ?_ _)); exact BK222.out) hb); have n1_ := Aside0.mk (below_step (by repeat (first | (with_reducible first | exact HB.out | apply below_alloc | apply pw_below_drewN | apply below_drew1 | refine below_set ?_ GE222.out) | exact HB.out)) hb); clear BK222; clear HB; have BK222 := n0_; have HB := n1_; clear n0_ n1_; (try clear hb); (try clear hb2); (try clear hk); (try clear hi)))
    go_ret
    exact ⟨by first | rfl | (simp [errW_none, errW_some] <;> rfl) | (simp [*, errW_none, errW_some] <;> rfl), by repeat (first | (with_reducible first | exact HB.out | apply below_alloc | apply pw_below_drewN | apply below_drew1 | refine below_set ?_ GE222.out) | exact HB.out)⟩

end Go.Proofs.YtdcaabjkklppjaaGreatFmt.A
