-- Written by a program of this session (gprint.py) out of the kit's print of the translation. Not trusted: Lean checks it.
import Derived.Test.YtdcaabjkklppjaaGreatFmtA0
namespace Go.Proofs.YtdcaabjkklppjaaGreatFmt.A
open Go.RowKit Go.Proofs.YtdcaabjkklppjaaGreatFmtW.PrintWords Go.Proofs.YtdcaabjkklppjaaGreatFmtW.PrintLast Go.Proofs.YtdcaabjkklppjaaGreatFmtW.PrintMore
attribute [local go_sem] max2_int min2_int max_two min_two max_three min_three max_four min_four   -- for this text's walks alone
set_option linter.unusedVariables false
set_option linter.unusedSimpArgs false

/-! ### laws_without9: function 13 -/
mutual
def laws_without9.l0 : Nat → ByteArray → List (S29) → Int → List (S29) → Int → Int → Option ((List (S29)))
  | 0, _, _, _, _, _, _ => none
  | k + 1, x1, x5, x6, x10, x11, x12 => if x12 < x11 then (if 0 ≤ x12 then (if x12 < (x10.length : Int) then (if x6 ≥ 0 then (if ((rd_T29 x10 x12).f0).toList = ([] : List UInt8) then (laws_without9.j1 k x1 x5 x6 x10 x11 x12 (((rd_T29 x10 x12).f2) == x6)) else (laws_without9.j1 k x1 x5 x6 x10 x11 x12 false)) else (if x5.length < 3518437208883 then ((some (x5 ++ [(⟨(rd_T29 x10 x12).f0, (rd_T29 x10 x12).f1, (rd_T29 x10 x12).f2⟩ : S29)] : List (S29))).bind fun y185 => (if ((rd_T29 x10 x12).f0).toList = x1.toList then (laws_without9.l0 k x1 y185 ((rd_T29 x10 x12).f2) x10 x11 (wrap64 (x12 + 1))) else (laws_without9.l0 k x1 y185 x6 x10 x11 (wrap64 (x12 + 1))))) else (none))) else (none)) else (none)) else (some x5)
def laws_without9.j1 : Nat → ByteArray → List (S29) → Int → List (S29) → Int → Int → Bool → Option ((List (S29)))
  | 0, _, _, _, _, _, _, _ => none
  | k + 1, x1, x5, x6, x10, x11, x12, x26 => if x26 = true then (laws_without9.l0 k x1 x5 (-1) x10 x11 (wrap64 (x12 + 1))) else (laws_without9.l0 k x1 x5 x6 x10 x11 (wrap64 (x12 + 1)))
end
def laws_without9.f (k : Nat) (l0 : List (S29)) (a1 : ByteArray) : Option ((List (S29))) := laws_without9.l0 k a1 (([] : List (S29))) (-1) l0 (l0.length : Int) 0
theorem laws_without9.mono_l : ∀ k, (∀ y0 y1 y2 y3 y4 y5, LeO (laws_without9.l0 k y0 y1 y2 y3 y4 y5) (laws_without9.l0 (k + 1) y0 y1 y2 y3 y4 y5)) ∧ (∀ y0 y1 y2 y3 y4 y5 y6, LeO (laws_without9.j1 k y0 y1 y2 y3 y4 y5 y6) (laws_without9.j1 (k + 1) y0 y1 y2 y3 y4 y5 y6))
  | 0 => ⟨fun _ _ _ _ _ _ r h => by simp [laws_without9.l0] at h, fun _ _ _ _ _ _ _ r h => by simp [laws_without9.j1] at h⟩
  | k + 1 => by
    obtain ⟨ih0, ih1⟩ := laws_without9.mono_l k
    refine ⟨?_, ?_⟩
    · intro y0 y1 y2 y3 y4 y5
      unfold laws_without9.l0
      repeat' first
      | (with_reducible exact ih0 _ _ _ _ _ _)
      | (with_reducible exact ih1 _ _ _ _ _ _ _)
      | (with_reducible exact LeO.refl _)
      | (with_reducible exact LeO.none _)
      | (with_reducible refine LeO.ite ?_ ?_)
      | (with_reducible refine LeO.bind ?_ (fun _ => ?_))
      | exact ih0 _ _ _ _ _ _
      | exact ih1 _ _ _ _ _ _ _
      | exact LeO.none _
      | refine LeO.ite ?_ ?_
      | refine LeO.bind ?_ (fun _ => ?_)
    · intro y0 y1 y2 y3 y4 y5 y6
      unfold laws_without9.j1
      repeat' first
      | (with_reducible exact ih0 _ _ _ _ _ _)
      | (with_reducible exact ih1 _ _ _ _ _ _ _)
      | (with_reducible exact LeO.refl _)
      | (with_reducible exact LeO.none _)
      | (with_reducible refine LeO.ite ?_ ?_)
      | (with_reducible refine LeO.bind ?_ (fun _ => ?_))
      | exact ih0 _ _ _ _ _ _
      | exact ih1 _ _ _ _ _ _ _
      | exact LeO.none _
      | refine LeO.ite ?_ ?_
      | refine LeO.bind ?_ (fun _ => ?_)
theorem laws_without9.mono : ∀ a0 a1 k, LeO (laws_without9.f k a0 a1) (laws_without9.f (k + 1) a0 a1) := by
  intro a0 a1 k
  obtain ⟨ih0, ih1⟩ := laws_without9.mono_l k
  unfold laws_without9.f
  repeat' first
      | (with_reducible exact ih0 _ _ _ _ _ _)
      | (with_reducible exact ih1 _ _ _ _ _ _ _)
      | (with_reducible exact LeO.refl _)
      | (with_reducible exact LeO.none _)
      | (with_reducible refine LeO.ite ?_ ?_)
      | (with_reducible refine LeO.bind ?_ (fun _ => ?_))
      | exact ih0 _ _ _ _ _ _
      | exact ih1 _ _ _ _ _ _ _
      | exact LeO.none _
      | refine LeO.ite ?_ ?_
      | refine LeO.bind ?_ (fun _ => ?_)
set_option maxHeartbeats 8000000 in
set_option maxRecDepth 100000 in
theorem laws_without9.calls (k : Nat) (A0 : Option Addr) (c0 : Nat) (l0 : List (S29)) (a1 : ByteArray) (r : List (S29)) (w : World) (hr0 : Kd.C k29 w A0 l0.length l0) (hc0 : l0.length ≤ c0) (h : laws_without9.f k l0 a1 = some r) :
    Calls Tryz.prog 13 #[.slice A0 l0.length c0, .string a1] w fun e w' => ∃ v0_ : Value, e = .returned (v0_) ∧ Kd.R k29 29 w' w.heap.size (fun _ => True) v0_ r ∧ Below w.heap.size w w' := by
  have hu29 := Tryz.underlying29
  have HR0 := Aside0.mk hr0
  have HC0 := Aside0.mk hc0
  clear hr0 hc0
  have HB := Aside0.mk (Below.refl w.heap.size w)
  have H : (laws_without9.l0 k a1 (([] : List (S29))) (-1) l0 (l0.length : Int) 0) = some r := h
  clear h
  obtain ⟨y180, hy180⟩ : ∃ y_ : List (S29), y_ = (([] : List (S29))) := ⟨_, rfl⟩
  replace H : (laws_without9.l0 k a1 y180 (-1) l0 (l0.length : Int) 0) = some r := by first | (rw [hy180]; with_reducible exact H) | (have H2_ := (Option.bind_some _ _).symm.trans H; rw [hy180]; with_reducible exact H2_) | (have H2_ := (Option.bind_some _ _).symm.trans H; with_reducible exact H2_) | with_reducible exact H | (rw [hy180]; exact H) | exact H
  have Ny180 := Aside0.mk hy180
  clear hy180
  have H' := Aside0.mk H
  clear H
  go_enter Tryz.func13, Tryz.ntmps13
  go_wp2_with (first | ((with_reducible refine gate_dst (N := 9) rfl ?_); refine Kd.R_lit k29 _ 29 ?hg (N := 9) ?hd (xs := ([] : List (S29))) (inner := []) (ok := fun _ => True) (okp := fun _ => True) ?hr ?hp (fun _ hk => hk) trivial (Below.refl _ _) (Nat.le_refl _) (by simp) ?_; (case hd => rfl); (case hg => rfl); (case hr => first | (go_simp; done) | (go_simp; rfl)); (case hp => exact (Reps.none _ _)); intro v181 w3 ho4 hb hg_ hnew_; clear hg_ hnew_; (first | rw [← Ny180.out] at ho4 | (simp only [Int.reduceToNat] at ho4; rw [← Ny180.out] at ho4)); have n0_ := Aside0.mk (Kd.R_lower ho4 (below_size (by repeat (first | (with_reducible first | exact HB.out | apply below_alloc | apply pw_below_drewN | apply below_drew1) | exact HB.out)))); have n1_ := Aside0.mk (below_step (by repeat (first | (with_reducible first | exact HB.out | apply below_alloc | apply pw_below_drewN | apply below_drew1) | exact HB.out)) hb); clear HB; have HO182 := n0_; have HB := n1_; clear n0_ n1_; clear hb ho4))
  go_loopg [5, 6, 12] k (fun kq v5 v6 v12 w' => ∃ (x5_1 : List (S29)) (x6_1 : Int) (x12_1 : Int), v6 = .int .i64 x6_1 ∧ v12 = .int .i64 x12_1 ∧ Aside0 (laws_without9.l0 kq a1 x5_1 x6_1 l0 (l0.length : Int) x12_1 = some r) ∧ Aside0 (kq ≤ k) ∧ Aside0 (Kd.R k29 29 w' w.heap.size (fun _ => True) v5 x5_1) ∧ Aside0 (Below w.heap.size w w'))
  case atStart => exact ⟨(y180), ((-1)), (0), (by first | rfl | (simp; done) | (simp [*]; done)), (by first | rfl | (simp; done) | (simp [*]; done)), H', ⟨Nat.le_refl _⟩, ⟨by (with_reducible repeat (first | apply Kd.R_alloc | apply Kd.R_drewN | apply Kd.R_drew)); exact HO182.out⟩, ⟨by repeat (first | (with_reducible first | exact HB.out | apply below_alloc | apply pw_below_drewN | apply below_drew1) | exact HB.out)⟩⟩
  case round =>
    clear H'
    try clear c1
    try clear p2
    obtain ⟨x5_1, x6_1, x12_1, rfl, rfl, HA, HK1, HO_5, HB⟩ := hrel
    cases gk with
    | zero => exact absurd HA.out (by simp [laws_without9.l0])
    | succ k1 =>
      have H := HA.out
      clear HA
      simp only [laws_without9.l0] at H
      by_cases c5 : x12_1 < (l0.length : Int)
      · rw [if_pos c5] at H
        have c5b0 : decide (x12_1 < (l0.length : Int)) = true := decide_eq_true c5
        clear c5
        by_cases c6 : 0 ≤ x12_1
        · rw [if_pos c6] at H
          have c6b0 : decide (0 ≤ x12_1) = true := decide_eq_true c6
          clear c6
          by_cases c7 : x12_1 < (l0.length : Int)
          · rw [if_pos c7] at H
            have c7b0 : decide (x12_1 < (l0.length : Int)) = true := decide_eq_true c7
            clear c7
            by_cases c8 : x6_1 ≥ 0
            · rw [if_pos c8] at H
              have c8b0 : decide (0 ≤ x6_1) = true := decide_eq_true c8
              clear c8
              have HC9 := Aside0.mk H
              clear H
              have p183 : 0 ≤ (x12_1 : Int) := of_decide_eq_true (by first | (with_reducible assumption) | assumption)
              have q183 : x12_1 < (l0.length : Int) := of_decide_eq_true (by first | (with_reducible assumption) | assumption)
              obtain ⟨ad183, e183, hx183_0, hx183_1, hx183_2⟩ := at_T29 HR0.out x12_1 p183 q183
              cases e183
              replace hx183_0 := (HB.out.cell (World.block_lt_of_cell? w _ hx183_0)).trans hx183_0
              replace hx183_1 := (HB.out.cell (World.block_lt_of_cell? w _ hx183_1)).trans hx183_1
              replace hx183_2 := (HB.out.cell (World.block_lt_of_cell? w _ hx183_2)).trans hx183_2
              replace p183 := eq_true p183
              replace q183 := eq_true q183
              go_upto_region 6 with (first | ((with_reducible refine gate_dst (N := 8) rfl ?_); refine box_event ?hg (N := 8) ?hd (cs := #[.string (⟨#[]⟩ : ByteArray), .string (⟨#[]⟩ : ByteArray), .int .i64 0]) (t := 29) ?hr ?_; (case hd => rfl); (case hg => rfl); (case hr => first | (go_simp; done) | (go_simp; rfl)); intro gb184 hg w10 hbox hb; have n0_ := Aside0.mk (Kd.R_below (Kd.R_elderB (by (with_reducible repeat (first | apply Kd.R_alloc | apply Kd.R_drewN | apply Kd.R_drew)); exact HO_5.out) gb184 (Nat.le_of_eq hg.symm)) hb); have n1_ := Aside0.mk (below_step (by repeat (first | (with_reducible first | exact HB.out | apply below_alloc | apply pw_below_drewN | apply below_drew1) | exact HB.out)) hb); have n2_ := Aside0.mk (hbox); have n3_ := Aside0.mk ((by rw [hg]; exact (below_size (by repeat (first | (with_reducible first | exact HB.out | apply below_alloc | apply pw_below_drewN | apply below_drew1) | exact HB.out))) : w.heap.size ≤ gb184)); have n4_ := Aside0.mk ((by rw [hg]; exact (below_size (by repeat (first | (with_reducible first | exact HB.out | apply below_alloc | apply pw_below_drewN | apply below_drew1) | exact HB.out))) : w.heap.size ≤ gb184)); clear HO_5; clear HB; have HO_5 := n0_; have HB := n1_; have BK184 := n2_; have GW184 := n3_; have GE184 := n4_; clear n0_ n1_ n2_ n3_ n4_; clear hb hbox hg; have hcz11_0 : w10.cell? ⟨gb184, 0, none⟩ = some (.string (⟨#[]⟩ : ByteArray)) := (blk_cell BK184.out 0).trans rfl; have hcz11_1 : w10.cell? ⟨gb184, 1, none⟩ = some (.string (⟨#[]⟩ : ByteArray)) := (blk_cell BK184.out 1).trans rfl; have hcz11_2 : w10.cell? ⟨gb184, 2, none⟩ = some (.int .i64 0) := (blk_cell BK184.out 2).trans rfl; have hfz11_0 := blk_frozen BK184.out 0; have hfz11_1 := blk_frozen BK184.out 1; have hfz11_2 := blk_frozen BK184.out 2))
              (try simp only [Act.put, List.setIfInBounds_toArray, List.set_cons_zero, List.set_cons_succ])
              go_cut [26] (fun v26 wc => ∃ (kq : Nat) (x26_8 : Bool), v26 = .bool x26_8 ∧ Aside0 (laws_without9.j1 kq a1 x5_1 x6_1 l0 (l0.length : Int) x12_1 x26_8 = some r) ∧ Aside0 (kq ≤ k1) ∧ Aside0 (Kd.R k29 29 wc w.heap.size (fun k_ => k_ ≠ gb184) u5 x5_1) ∧ Aside0 (wc.heap[gb184]? = some (.cells #[.string ((rd_T29 l0 x12_1).f0), .string ((rd_T29 l0 x12_1).f1), .int .i64 ((rd_T29 l0 x12_1).f2)] 29 (0, 0))) ∧ Aside0 (Below w.heap.size w wc))
              case first =>
                have H := HC9.out
                clear HC9
                by_cases c12 : ((rd_T29 l0 x12_1).f0).toList = ([] : List UInt8)
                · rw [if_pos c12] at H
                  have c12b0 : (((rd_T29 l0 x12_1).f0).toList == ([] : List UInt8)) = true := beq_iff_eq.mpr c12
                  have c12b1 : (((rd_T29 l0 x12_1).f0).toList != ([] : List UInt8)) = false := bne_eq_false_iff_eq.mpr c12
                  clear c12
                  (first | rw [c12b0] | (simp only [i64_w, i32_w]; rw [c12b0]) | skip)
                  have H' := Aside0.mk H
                  clear H
                  have hcz13_0 : w10.cell? ⟨gb184, 0, none⟩ = some (.string (⟨#[]⟩ : ByteArray)) := (blk_cell BK184.out 0).trans rfl
                  have hcz13_1 : w10.cell? ⟨gb184, 1, none⟩ = some (.string (⟨#[]⟩ : ByteArray)) := (blk_cell BK184.out 1).trans rfl
                  have hcz13_2 : w10.cell? ⟨gb184, 2, none⟩ = some (.int .i64 0) := (blk_cell BK184.out 2).trans rfl
                  have hfz13_0 := blk_frozen BK184.out 0
                  have hfz13_1 := blk_frozen BK184.out 1
                  have hfz13_2 := blk_frozen BK184.out 2
                  go_wp2
                  go_meet
                  case rel => exact ⟨_, ((((rd_T29 l0 x12_1).f2) == x6_1)), (by first | rfl | (simp; done) | (simp [*]; done)), H', ⟨by have := HK1.out; first | omega | exact Nat.le_refl _⟩, ⟨by (with_reducible repeat (first | apply Kd.R_alloc | apply Kd.R_drewN | apply Kd.R_drew)); exact Kd.R_mono (Kd.R_far (p := ⟨gb184, 2, none⟩) (Kd.R_far (p := ⟨gb184, 1, none⟩) (Kd.R_far (p := ⟨gb184, 0, none⟩) (Kd.R_mono HO_5.out (fun k_ hk => (⟨hk, hk.2⟩ : _ ∧ k_ ≠ gb184))) (fun _ hk => hk.2) (.string ((rd_T29 l0 x12_1).f0))) (fun _ hk => hk.2) (.string ((rd_T29 l0 x12_1).f1))) (fun _ hk => hk.2) (.int .i64 ((rd_T29 l0 x12_1).f2))) (fun _ hk => hk.1.2)⟩, ⟨by (with_reducible repeat (first | refine blk_drewN ?_ _ | refine blk_drew ?_ | refine blk_alloc ?_ _)); refine blk_put (cs := #[.string ((rd_T29 l0 x12_1).f0), .string ((rd_T29 l0 x12_1).f1), .int .i64 0]) ?_ 2 _ rfl; (with_reducible repeat (first | refine blk_drewN ?_ _ | refine blk_drew ?_ | refine blk_alloc ?_ _)); refine blk_put (cs := #[.string ((rd_T29 l0 x12_1).f0), .string (⟨#[]⟩ : ByteArray), .int .i64 0]) ?_ 1 _ rfl; (with_reducible repeat (first | refine blk_drewN ?_ _ | refine blk_drew ?_ | refine blk_alloc ?_ _)); refine blk_put (cs := #[.string (⟨#[]⟩ : ByteArray), .string (⟨#[]⟩ : ByteArray), .int .i64 0]) ?_ 0 _ rfl; (with_reducible repeat (first | refine blk_drewN ?_ _ | refine blk_drew ?_ | refine blk_alloc ?_ _)); exact BK184.out⟩, ⟨by repeat (first | (with_reducible first | exact HB.out | apply below_alloc | apply pw_below_drewN | apply below_drew1 | refine below_set ?_ GE184.out) | exact HB.out)⟩⟩
                · rw [if_neg c12] at H
                  have c12b0 : (((rd_T29 l0 x12_1).f0).toList == ([] : List UInt8)) = false := beq_eq_false_iff_ne.mpr c12
                  have c12b1 : (((rd_T29 l0 x12_1).f0).toList != ([] : List UInt8)) = true := bne_iff_ne.mpr c12
                  (first | rw [c12b0] | (simp only [i64_w, i32_w]; rw [c12b0]) | skip)
                  have H' := Aside0.mk H
                  clear H
                  have hcz14_0 : w10.cell? ⟨gb184, 0, none⟩ = some (.string (⟨#[]⟩ : ByteArray)) := (blk_cell BK184.out 0).trans rfl
                  have hcz14_1 : w10.cell? ⟨gb184, 1, none⟩ = some (.string (⟨#[]⟩ : ByteArray)) := (blk_cell BK184.out 1).trans rfl
                  have hcz14_2 : w10.cell? ⟨gb184, 2, none⟩ = some (.int .i64 0) := (blk_cell BK184.out 2).trans rfl
                  have hfz14_0 := blk_frozen BK184.out 0
                  have hfz14_1 := blk_frozen BK184.out 1
                  have hfz14_2 := blk_frozen BK184.out 2
                  go_wp2
                  go_meet
                  case rel => exact ⟨_, (false), (by first | rfl | (simp; done) | (simp [*]; done)), H', ⟨by have := HK1.out; first | omega | exact Nat.le_refl _⟩, ⟨by (with_reducible repeat (first | apply Kd.R_alloc | apply Kd.R_drewN | apply Kd.R_drew)); exact Kd.R_mono (Kd.R_far (p := ⟨gb184, 2, none⟩) (Kd.R_far (p := ⟨gb184, 1, none⟩) (Kd.R_far (p := ⟨gb184, 0, none⟩) (Kd.R_mono HO_5.out (fun k_ hk => (⟨hk, hk.2⟩ : _ ∧ k_ ≠ gb184))) (fun _ hk => hk.2) (.string ((rd_T29 l0 x12_1).f0))) (fun _ hk => hk.2) (.string ((rd_T29 l0 x12_1).f1))) (fun _ hk => hk.2) (.int .i64 ((rd_T29 l0 x12_1).f2))) (fun _ hk => hk.1.2)⟩, ⟨by (with_reducible repeat (first | refine blk_drewN ?_ _ | refine blk_drew ?_ | refine blk_alloc ?_ _)); refine blk_put (cs := #[.string ((rd_T29 l0 x12_1).f0), .string ((rd_T29 l0 x12_1).f1), .int .i64 0]) ?_ 2 _ rfl; (with_reducible repeat (first | refine blk_drewN ?_ _ | refine blk_drew ?_ | refine blk_alloc ?_ _)); refine blk_put (cs := #[.string ((rd_T29 l0 x12_1).f0), .string (⟨#[]⟩ : ByteArray), .int .i64 0]) ?_ 1 _ rfl; (with_reducible repeat (first | refine blk_drewN ?_ _ | refine blk_drew ?_ | refine blk_alloc ?_ _)); refine blk_put (cs := #[.string (⟨#[]⟩ : ByteArray), .string (⟨#[]⟩ : ByteArray), .int .i64 0]) ?_ 0 _ rfl; (with_reducible repeat (first | refine blk_drewN ?_ _ | refine blk_drew ?_ | refine blk_alloc ?_ _)); exact BK184.out⟩, ⟨by repeat (first | (with_reducible first | exact HB.out | apply below_alloc | apply pw_below_drewN | apply below_drew1 | refine below_set ?_ GE184.out) | exact HB.out)⟩⟩
              case rest =>
                clear HC9
                try clear c1
                try clear p1
                try clear q1
                try clear hx1
                try clear p2
                try clear c5
                try clear c5b0
                try clear c6
                try clear c6b0
                try clear c7
                try clear c7b0
                try clear c8
                try clear c8b0
                try clear c12
                try clear c12b0
                try clear c12b1
                try clear c13
                try clear hcz11_0
                try clear hcz11_1
                try clear hcz11_2
                try clear hcz13_0
                try clear hcz13_1
                try clear hcz13_2
                try clear hcz14_0
                try clear hcz14_1
                try clear hcz14_2
                try clear hfz11_0
                try clear hfz11_1
                try clear hfz11_2
                try clear hfz13_0
                try clear hfz13_1
                try clear hfz13_2
                try clear hfz14_0
                try clear hfz14_1
                try clear hfz14_2
                try clear hx183_0
                try clear hx183_1
                try clear hx183_2
                try clear p183
                try clear p2
                try clear q183
                obtain ⟨kq, x26_8, rfl, HA, HJ8, HO_5, BK184, HB⟩ := hcut
                cases kq with
                | zero => exact absurd HA.out (by simp [laws_without9.j1])
                | succ kj8 =>
                  have H := HA.out
                  clear HA
                  simp only [laws_without9.j1] at H
                  by_cases c15 : x26_8 = true
                  · subst c15
                    have H1 : (laws_without9.l0 kj8 a1 x5_1 (-1) l0 (l0.length : Int) (wrap64 (x12_1 + 1))) = some r := by rw [if_pos rfl] at H; exact H
                    clear H
                    have H := H1
                    clear H1
                    have H' := Aside0.mk H
                    clear H
                    go_wp2
                    go_roundg kj8
                    case measure => have := HK1.out; have := HJ8.out; omega
                    case rel => exact ⟨(x5_1), ((-1)), (wrap64 (x12_1 + 1)), (by first | rfl | (simp; done) | (simp [*]; done)), (by first | rfl | (simp; done) | (simp [*]; done)), H', ⟨by have := HK1.out; have := HJ8.out; omega⟩, ⟨by (with_reducible repeat (first | apply Kd.R_alloc | apply Kd.R_drewN | apply Kd.R_drew)); exact Kd.R_mono HO_5.out (fun _ hk => trivial)⟩, ⟨by repeat (first | (with_reducible first | exact HB.out | apply below_alloc | apply pw_below_drewN | apply below_drew1 | refine below_set ?_ GE184.out) | exact HB.out)⟩⟩
                  · replace c15 := Bool.eq_false_iff.mpr c15
                    subst c15
                    have H1 : (laws_without9.l0 kj8 a1 x5_1 x6_1 l0 (l0.length : Int) (wrap64 (x12_1 + 1))) = some r := by rw [if_neg (show ¬ (false = true) by decide)] at H; exact H
                    clear H
                    have H := H1
                    clear H1
                    have H' := Aside0.mk H
                    clear H
                    go_wp2
                    go_roundg kj8
                    case measure => have := HK1.out; have := HJ8.out; omega
                    case rel => exact ⟨(x5_1), (x6_1), (wrap64 (x12_1 + 1)), (by first | rfl | (simp; done) | (simp [*]; done)), (by first | rfl | (simp; done) | (simp [*]; done)), H', ⟨by have := HK1.out; have := HJ8.out; omega⟩, ⟨by (with_reducible repeat (first | apply Kd.R_alloc | apply Kd.R_drewN | apply Kd.R_drew)); exact Kd.R_mono HO_5.out (fun _ hk => trivial)⟩, ⟨by repeat (first | (with_reducible first | exact HB.out | apply below_alloc | apply pw_below_drewN | apply below_drew1 | refine below_set ?_ GE184.out) | exact HB.out)⟩⟩
            · rw [if_neg c8] at H
              have c8b0 : decide (0 ≤ x6_1) = false := decide_eq_false c8
              clear c8
              by_cases c16 : x5_1.length < 3518437208883
              · rw [if_pos c16] at H
                have LMc16 := Aside0.mk c16
                clear c16
                obtain ⟨y185, hy185⟩ : ∃ y_ : List (S29), y_ = (x5_1 ++ [(⟨(rd_T29 l0 x12_1).f0, (rd_T29 l0 x12_1).f1, (rd_T29 l0 x12_1).f2⟩ : S29)]) := ⟨_, rfl⟩
                replace H : (if ((rd_T29 l0 x12_1).f0).toList = a1.toList then (laws_without9.l0 k1 a1 y185 ((rd_T29 l0 x12_1).f2) l0 (l0.length : Int) (wrap64 (x12_1 + 1))) else (laws_without9.l0 k1 a1 y185 x6_1 l0 (l0.length : Int) (wrap64 (x12_1 + 1)))) = some r := by first | (rw [hy185]; with_reducible exact H) | (have H2_ := (Option.bind_some _ _).symm.trans H; rw [hy185]; with_reducible exact H2_) | (have H2_ := (Option.bind_some _ _).symm.trans H; with_reducible exact H2_) | with_reducible exact H | (rw [hy185]; exact H) | exact H
                have Ny185 := Aside0.mk hy185
                clear hy185
                by_cases c17 : ((rd_T29 l0 x12_1).f0).toList = a1.toList
                · rw [if_pos c17] at H
                  have c17b0 : (((rd_T29 l0 x12_1).f0).toList == a1.toList) = true := beq_iff_eq.mpr c17
                  have c17b1 : (((rd_T29 l0 x12_1).f0).toList != a1.toList) = false := bne_eq_false_iff_eq.mpr c17
                  clear c17
                  have H' := Aside0.mk H
                  clear H
                  have p183 : 0 ≤ (x12_1 : Int) := of_decide_eq_true (by first | (with_reducible assumption) | assumption)
                  have q183 : x12_1 < (l0.length : Int) := of_decide_eq_true (by first | (with_reducible assumption) | assumption)
                  obtain ⟨ad183, e183, hx183_0, hx183_1, hx183_2⟩ := at_T29 HR0.out x12_1 p183 q183
                  cases e183
                  replace hx183_0 := (HB.out.cell (World.block_lt_of_cell? w _ hx183_0)).trans hx183_0
                  replace hx183_1 := (HB.out.cell (World.block_lt_of_cell? w _ hx183_1)).trans hx183_1
                  replace hx183_2 := (HB.out.cell (World.block_lt_of_cell? w _ hx183_2)).trans hx183_2
                  replace p183 := eq_true p183
                  replace q183 := eq_true q183
                  go_wp2_with (first | ((with_reducible refine gate_dst (N := 8) rfl ?_); refine box_event ?hg (N := 8) ?hd (cs := #[.string (⟨#[]⟩ : ByteArray), .string (⟨#[]⟩ : ByteArray), .int .i64 0]) (t := 29) ?hr ?_; (case hd => rfl); (case hg => rfl); (case hr => first | (go_simp; done) | (go_simp; rfl)); intro gb184 hg w18 hbox hb; have n0_ := Aside0.mk (Kd.R_below (Kd.R_elderB (by (with_reducible repeat (first | apply Kd.R_alloc | apply Kd.R_drewN | apply Kd.R_drew)); exact HO_5.out) gb184 (Nat.le_of_eq hg.symm)) hb); have n1_ := Aside0.mk (below_step (by repeat (first | (with_reducible first | exact HB.out | apply below_alloc | apply pw_below_drewN | apply below_drew1) | exact HB.out)) hb); have n2_ := Aside0.mk (hbox); have n3_ := Aside0.mk ((by rw [hg]; exact (below_size (by repeat (first | (with_reducible first | exact HB.out | apply below_alloc | apply pw_below_drewN | apply below_drew1) | exact HB.out))) : w.heap.size ≤ gb184)); have n4_ := Aside0.mk ((by rw [hg]; exact (below_size (by repeat (first | (with_reducible first | exact HB.out | apply below_alloc | apply pw_below_drewN | apply below_drew1) | exact HB.out))) : w.heap.size ≤ gb184)); clear HO_5; clear HB; have HO_5 := n0_; have HB := n1_; have BK184 := n2_; have GW184 := n3_; have GE184 := n4_; clear n0_ n1_ n2_ n3_ n4_; clear hb hbox hg; have hcz19_0 : w18.cell? ⟨gb184, 0, none⟩ = some (.string (⟨#[]⟩ : ByteArray)) := (blk_cell BK184.out 0).trans rfl; have hcz19_1 : w18.cell? ⟨gb184, 1, none⟩ = some (.string (⟨#[]⟩ : ByteArray)) := (blk_cell BK184.out 1).trans rfl; have hcz19_2 : w18.cell? ⟨gb184, 2, none⟩ = some (.int .i64 0) := (blk_cell BK184.out 2).trans rfl; have hfz19_0 := blk_frozen BK184.out 0; have hfz19_1 := blk_frozen BK184.out 1; have hfz19_2 := blk_frozen BK184.out 2) | ((with_reducible refine gate_builtin (b := .append) (xs := #[.tmp 27, .tmp 29]) rfl ?_); at_builtin; refine Kd.R_append k29 (w0 := w) w.heap.size rfl (.tmp 27) (.tmp 29) 26 29 (.agg #[(.string ⟨#[]⟩), (.string ⟨#[]⟩), (.int .i64 0)]) 40 rfl Tryz.underlying26 info29 rfl (by decide) (by omega) u5 x5_1 (⟨(rd_T29 l0 x12_1).f0, (rd_T29 l0 x12_1).f1, (rd_T29 l0 x12_1).f2⟩ : S29) [.string ((rd_T29 l0 x12_1).f0), .string ((rd_T29 l0 x12_1).f1), .int .i64 ((rd_T29 l0 x12_1).f2)] (fun k_ => k_ ≠ gb184) (fun _ => False) rfl (by first | (go_simp; done) | (go_simp; rfl)) ?aP (fun _ hk => hk.elim) ?aF ?aO ?aB ?aS ?aL ?_; (case aP => exact k29_mkM _ _ _ (⟨(rd_T29 l0 x12_1).f0, (rd_T29 l0 x12_1).f1, (rd_T29 l0 x12_1).f2⟩ : S29)); (case aB => exact (by repeat (first | (with_reducible first | exact HB.out | apply below_alloc | apply pw_below_drewN | apply below_drew1 | refine below_set ?_ GE184.out) | exact HB.out))); (case aF => exact (fun k_ hk => Kd.freshB (g := gb184) (o := .cells #[.string ((rd_T29 l0 x12_1).f0), .string ((rd_T29 l0 x12_1).f1), .int .i64 ((rd_T29 l0 x12_1).f2)] 29 (0, 0)) (by (with_reducible repeat (first | refine blk_drewN ?_ _ | refine blk_drew ?_ | refine blk_alloc ?_ _)); refine blk_put (cs := #[.string ((rd_T29 l0 x12_1).f0), .string ((rd_T29 l0 x12_1).f1), .int .i64 0]) ?_ 2 _ rfl; (with_reducible repeat (first | refine blk_drewN ?_ _ | refine blk_drew ?_ | refine blk_alloc ?_ _)); refine blk_put (cs := #[.string ((rd_T29 l0 x12_1).f0), .string (⟨#[]⟩ : ByteArray), .int .i64 0]) ?_ 1 _ rfl; (with_reducible repeat (first | refine blk_drewN ?_ _ | refine blk_drew ?_ | refine blk_alloc ?_ _)); refine blk_put (cs := #[.string (⟨#[]⟩ : ByteArray), .string (⟨#[]⟩ : ByteArray), .int .i64 0]) ?_ 0 _ rfl; (with_reducible repeat (first | refine blk_drewN ?_ _ | refine blk_drew ?_ | refine blk_alloc ?_ _)); exact BK184.out) k_ hk)); (case aO => exact (by (with_reducible repeat (first | apply Kd.R_alloc | apply Kd.R_drewN | apply Kd.R_drew)); exact Kd.R_mono (Kd.R_far (p := ⟨gb184, 2, none⟩) (Kd.R_far (p := ⟨gb184, 1, none⟩) (Kd.R_far (p := ⟨gb184, 0, none⟩) (Kd.R_mono HO_5.out (fun k_ hk => (⟨hk, hk.2⟩ : _ ∧ k_ ≠ gb184))) (fun _ hk => hk.2) (.string ((rd_T29 l0 x12_1).f0))) (fun _ hk => hk.2) (.string ((rd_T29 l0 x12_1).f1))) (fun _ hk => hk.2) (.int .i64 ((rd_T29 l0 x12_1).f2))) (fun _ hk => hk.1.2))); (case aS => exact (below_size (by repeat (first | (with_reducible first | exact HB.out | apply below_alloc | apply pw_below_drewN | apply below_drew1 | refine below_set ?_ GE184.out) | exact HB.out)))); (case aL => have := LMc16.out; omega); intro v186 w20 ho hb hg hat; rw [← Ny185.out] at ho; have n0_ := Aside0.mk (blk_grown (g := gb184) (o := .cells #[.string ((rd_T29 l0 x12_1).f0), .string ((rd_T29 l0 x12_1).f1), .int .i64 ((rd_T29 l0 x12_1).f2)] 29 (0, 0)) (by (with_reducible repeat (first | refine blk_drewN ?_ _ | refine blk_drew ?_ | refine blk_alloc ?_ _)); refine blk_put (cs := #[.string ((rd_T29 l0 x12_1).f0), .string ((rd_T29 l0 x12_1).f1), .int .i64 0]) ?_ 2 _ rfl; (with_reducible repeat (first | refine blk_drewN ?_ _ | refine blk_drew ?_ | refine blk_alloc ?_ _)); refine blk_put (cs := #[.string ((rd_T29 l0 x12_1).f0), .string (⟨#[]⟩ : ByteArray), .int .i64 0]) ?_ 1 _ rfl; (with_reducible repeat (first | refine blk_drewN ?_ _ | refine blk_drew ?_ | refine blk_alloc ?_ _)); refine blk_put (cs := #[.string (⟨#[]⟩ : ByteArray), .string (⟨#[]⟩ : ByteArray), .int .i64 0]) ?_ 0 _ rfl; (with_reducible repeat (first | refine blk_drewN ?_ _ | refine blk_drew ?_ | refine blk_alloc ?_ _)); exact BK184.out) hg (Kd.R_away HO_5.out (fun _ hk => hk.2))); have n1_ := Aside0.mk (hb); have n2_ := Aside0.mk (ho); clear BK184; clear HB; clear HO_5; have BK184 := n0_; have HB := n1_; have HO187 := n2_; clear n0_ n1_ n2_; clear ho hb hg hat; have hcz21_0 : w20.cell? ⟨gb184, 0, none⟩ = some (.string ((rd_T29 l0 x12_1).f0)) := (blk_cell BK184.out 0).trans rfl; have hcz21_1 : w20.cell? ⟨gb184, 1, none⟩ = some (.string ((rd_T29 l0 x12_1).f1)) := (blk_cell BK184.out 1).trans rfl; have hcz21_2 : w20.cell? ⟨gb184, 2, none⟩ = some (.int .i64 ((rd_T29 l0 x12_1).f2)) := (blk_cell BK184.out 2).trans rfl; have hfz21_0 := blk_frozen BK184.out 0; have hfz21_1 := blk_frozen BK184.out 1; have hfz21_2 := blk_frozen BK184.out 2))
                  go_roundg k1
                  case measure => have := HK1.out; omega
                  case rel => exact ⟨(y185), ((rd_T29 l0 x12_1).f2), (wrap64 (x12_1 + 1)), (by first | rfl | (simp; done) | (simp [*]; done)), (by first | rfl | (simp; done) | (simp [*]; done)), H', ⟨by have := HK1.out; omega⟩, ⟨by (with_reducible repeat (first | apply Kd.R_alloc | apply Kd.R_drewN | apply Kd.R_drew)); exact Kd.R_mono HO187.out (fun _ hk => trivial)⟩, ⟨by repeat (first | (with_reducible first | exact HB.out | apply below_alloc | apply pw_below_drewN | apply below_drew1 | refine below_set ?_ GE184.out) | exact HB.out)⟩⟩
                · rw [if_neg c17] at H
                  have c17b0 : (((rd_T29 l0 x12_1).f0).toList == a1.toList) = false := beq_eq_false_iff_ne.mpr c17
                  have c17b1 : (((rd_T29 l0 x12_1).f0).toList != a1.toList) = true := bne_iff_ne.mpr c17
                  have H' := Aside0.mk H
                  clear H
                  have p183 : 0 ≤ (x12_1 : Int) := of_decide_eq_true (by first | (with_reducible assumption) | assumption)
                  have q183 : x12_1 < (l0.length : Int) := of_decide_eq_true (by first | (with_reducible assumption) | assumption)
                  obtain ⟨ad183, e183, hx183_0, hx183_1, hx183_2⟩ := at_T29 HR0.out x12_1 p183 q183
                  cases e183
                  replace hx183_0 := (HB.out.cell (World.block_lt_of_cell? w _ hx183_0)).trans hx183_0
                  replace hx183_1 := (HB.out.cell (World.block_lt_of_cell? w _ hx183_1)).trans hx183_1
                  replace hx183_2 := (HB.out.cell (World.block_lt_of_cell? w _ hx183_2)).trans hx183_2
                  replace p183 := eq_true p183
                  replace q183 := eq_true q183
                  go_wp2_with (first | ((with_reducible refine gate_dst (N := 8) rfl ?_); refine box_event ?hg (N := 8) ?hd (cs := #[.string (⟨#[]⟩ : ByteArray), .string (⟨#[]⟩ : ByteArray), .int .i64 0]) (t := 29) ?hr ?_; (case hd => rfl); (case hg => rfl); (case hr => first | (go_simp; done) | (go_simp; rfl)); intro gb184 hg w22 hbox hb; have n0_ := Aside0.mk (Kd.R_below (Kd.R_elderB (by (with_reducible repeat (first | apply Kd.R_alloc | apply Kd.R_drewN | apply Kd.R_drew)); exact HO_5.out) gb184 (Nat.le_of_eq hg.symm)) hb); have n1_ := Aside0.mk (below_step (by repeat (first | (with_reducible first | exact HB.out | apply below_alloc | apply pw_below_drewN | apply below_drew1) | exact HB.out)) hb); have n2_ := Aside0.mk (hbox); have n3_ := Aside0.mk ((by rw [hg]; exact (below_size (by repeat (first | (with_reducible first | exact HB.out | apply below_alloc | apply pw_below_drewN | apply below_drew1) | exact HB.out))) : w.heap.size ≤ gb184)); have n4_ := Aside0.mk ((by rw [hg]; exact (below_size (by repeat (first | (with_reducible first | exact HB.out | apply below_alloc | apply pw_below_drewN | apply below_drew1) | exact HB.out))) : w.heap.size ≤ gb184)); clear HO_5; clear HB; have HO_5 := n0_; have HB := n1_; have BK184 := n2_; have GW184 := n3_; have GE184 := n4_; clear n0_ n1_ n2_ n3_ n4_; clear hb hbox hg; have hcz23_0 : w22.cell? ⟨gb184, 0, none⟩ = some (.string (⟨#[]⟩ : ByteArray)) := (blk_cell BK184.out 0).trans rfl; have hcz23_1 : w22.cell? ⟨gb184, 1, none⟩ = some (.string (⟨#[]⟩ : ByteArray)) := (blk_cell BK184.out 1).trans rfl; have hcz23_2 : w22.cell? ⟨gb184, 2, none⟩ = some (.int .i64 0) := (blk_cell BK184.out 2).trans rfl; have hfz23_0 := blk_frozen BK184.out 0; have hfz23_1 := blk_frozen BK184.out 1; have hfz23_2 := blk_frozen BK184.out 2) | ((with_reducible refine gate_builtin (b := .append) (xs := #[.tmp 27, .tmp 29]) rfl ?_); at_builtin; refine Kd.R_append k29 (w0 := w) w.heap.size rfl (.tmp 27) (.tmp 29) 26 29 (.agg #[(.string ⟨#[]⟩), (.string ⟨#[]⟩), (.int .i64 0)]) 40 rfl Tryz.underlying26 info29 rfl (by decide) (by omega) u5 x5_1 (⟨(rd_T29 l0 x12_1).f0, (rd_T29 l0 x12_1).f1, (rd_T29 l0 x12_1).f2⟩ : S29) [.string ((rd_T29 l0 x12_1).f0), .string ((rd_T29 l0 x12_1).f1), .int .i64 ((rd_T29 l0 x12_1).f2)] (fun k_ => k_ ≠ gb184) (fun _ => False) rfl (by first | (go_simp; done) | (go_simp; rfl)) ?aP (fun _ hk => hk.elim) ?aF ?aO ?aB ?aS ?aL ?_; (case aP => exact k29_mkM _ _ _ (⟨(rd_T29 l0 x12_1).f0, (rd_T29 l0 x12_1).f1, (rd_T29 l0 x12_1).f2⟩ : S29)); (case aB => exact (by repeat (first | (with_reducible first | exact HB.out | apply below_alloc | apply pw_below_drewN | apply below_drew1 | refine below_set ?_ GE184.out) | exact HB.out))); (case aF => exact (fun k_ hk => Kd.freshB (g := gb184) (o := .cells #[.string ((rd_T29 l0 x12_1).f0), .string ((rd_T29 l0 x12_1).f1), .int .i64 ((rd_T29 l0 x12_1).f2)] 29 (0, 0)) (by (with_reducible repeat (first | refine blk_drewN ?_ _ | refine blk_drew ?_ | refine blk_alloc ?_ _)); refine blk_put (cs := #[.string ((rd_T29 l0 x12_1).f0), .string ((rd_T29 l0 x12_1).f1), .int .i64 0]) ?_ 2 _ rfl; (with_reducible repeat (first | refine blk_drewN ?_ _ | refine blk_drew ?_ | refine blk_alloc ?_ _)); refine blk_put (cs := #[.string ((rd_T29 l0 x12_1).f0), .string (⟨#[]⟩ : ByteArray), .int .i64 0]) ?_ 1 _ rfl; (with_reducible repeat (first | refine blk_drewN ?_ _ | refine blk_drew ?_ | refine blk_alloc ?_ _)); refine blk_put (cs := #[.string (⟨#[]⟩ : ByteArray), .string (⟨#[]⟩ : ByteArray), .int .i64 0]) ?_ 0 _ rfl; (with_reducible repeat (first | refine blk_drewN ?_ _ | refine blk_drew ?_ | refine blk_alloc ?_ _)); exact BK184.out) k_ hk)); (case aO => exact (by (with_reducible repeat (first | apply Kd.R_alloc | apply Kd.R_drewN | apply Kd.R_drew)); exact Kd.R_mono (Kd.R_far (p := ⟨gb184, 2, none⟩) (Kd.R_far (p := ⟨gb184, 1, none⟩) (Kd.R_far (p := ⟨gb184, 0, none⟩) (Kd.R_mono HO_5.out (fun k_ hk => (⟨hk, hk.2⟩ : _ ∧ k_ ≠ gb184))) (fun _ hk => hk.2) (.string ((rd_T29 l0 x12_1).f0))) (fun _ hk => hk.2) (.string ((rd_T29 l0 x12_1).f1))) (fun _ hk => hk.2) (.int .i64 ((rd_T29 l0 x12_1).f2))) (fun _ hk => hk.1.2))); (case aS => exact (below_size (by repeat (first | (with_reducible first | exact HB.out | apply below_alloc | apply pw_below_drewN | apply below_drew1 | refine below_set ?_ GE184.out) | exact HB.out)))); (case aL => have := LMc16.out; omega); intro v186 w24 ho hb hg hat; rw [← Ny185.out] at ho; have n0_ := Aside0.mk (blk_grown (g := gb184) (o := .cells #[.string ((rd_T29 l0 x12_1).f0), .string ((rd_T29 l0 x12_1).f1), .int .i64 ((rd_T29 l0 x12_1).f2)] 29 (0, 0)) (by (with_reducible repeat (first | refine blk_drewN ?_ _ | refine blk_drew ?_ | refine blk_alloc ?_ _)); refine blk_put (cs := #[.string ((rd_T29 l0 x12_1).f0), .string ((rd_T29 l0 x12_1).f1), .int .i64 0]) ?_ 2 _ rfl; (with_reducible repeat (first | refine blk_drewN ?_ _ | refine blk_drew ?_ | refine blk_alloc ?_ _)); refine blk_put (cs := #[.string ((rd_T29 l0 x12_1).f0), .string (⟨#[]⟩ : ByteArray), .int .i64 0]) ?_ 1 _ rfl; (with_reducible repeat (first | refine blk_drewN ?_ _ | refine blk_drew ?_ | refine blk_alloc ?_ _)); refine blk_put (cs := #[.string (⟨#[]⟩ : ByteArray), .string (⟨#[]⟩ : ByteArray), .int .i64 0]) ?_ 0 _ rfl; (with_reducible repeat (first | refine blk_drewN ?_ _ | refine blk_drew ?_ | refine blk_alloc ?_ _)); exact BK184.out) hg (Kd.R_away HO_5.out (fun _ hk => hk.2))); have n1_ := Aside0.mk (hb); have n2_ := Aside0.mk (ho); clear BK184; clear HB; clear HO_5; have BK184 := n0_; have HB := n1_; have HO187 := n2_; clear n0_ n1_ n2_; clear ho hb hg hat; have hcz25_0 : w24.cell? ⟨gb184, 0, none⟩ = some (.string ((rd_T29 l0 x12_1).f0)) := (blk_cell BK184.out 0).trans rfl; have hcz25_1 : w24.cell? ⟨gb184, 1, none⟩ = some (.string ((rd_T29 l0 x12_1).f1)) := (blk_cell BK184.out 1).trans rfl; have hcz25_2 : w24.cell? ⟨gb184, 2, none⟩ = some (.int .i64 ((rd_T29 l0 x12_1).f2)) := (blk_cell BK184.out 2).trans rfl; have hfz25_0 := blk_frozen BK184.out 0; have hfz25_1 := blk_frozen BK184.out 1; have hfz25_2 := blk_frozen BK184.out 2))
                  go_roundg k1
                  case measure => have := HK1.out; omega
                  case rel => exact ⟨(y185), (x6_1), (wrap64 (x12_1 + 1)), (by first | rfl | (simp; done) | (simp [*]; done)), (by first | rfl | (simp; done) | (simp [*]; done)), H', ⟨by have := HK1.out; omega⟩, ⟨by (with_reducible repeat (first | apply Kd.R_alloc | apply Kd.R_drewN | apply Kd.R_drew)); exact Kd.R_mono HO187.out (fun _ hk => trivial)⟩, ⟨by repeat (first | (with_reducible first | exact HB.out | apply below_alloc | apply pw_below_drewN | apply below_drew1 | refine below_set ?_ GE184.out) | exact HB.out)⟩⟩
              · rw [if_neg c16] at H
                exact absurd H (by simp)
          · rw [if_neg c7] at H
            exact absurd H (by simp)
        · rw [if_neg c6] at H
          exact absurd H (by simp)
      · rw [if_neg c5] at H
        have c5b0 : decide (x12_1 < (l0.length : Int)) = false := decide_eq_false c5
        clear c5
        obtain rfl := Option.some.inj H
        go_wp2
        go_ret
        exact ⟨_, by first | rfl | (simp [errW_none, errW_some] <;> rfl) | (simp [*, errW_none, errW_some] <;> rfl), by (with_reducible repeat (first | apply Kd.R_alloc | apply Kd.R_drewN | apply Kd.R_drew)); exact HO_5.out, by repeat (first | (with_reducible first | exact HB.out | apply below_alloc | apply pw_below_drewN | apply below_drew1) | exact HB.out)⟩

end Go.Proofs.YtdcaabjkklppjaaGreatFmt.A
