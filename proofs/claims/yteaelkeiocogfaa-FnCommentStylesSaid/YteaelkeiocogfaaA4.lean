-- Written by a program of this session (gprint.py) out of the kit's print of the translation. Not trusted: Lean checks it.
import Derived.Test.YteaelkeiocogfaaA0
import Derived.Test.YteaelkeiocogfaaA1
import Derived.Test.YteaelkeiocogfaaA2
import Derived.Test.YteaelkeiocogfaaA3
import Derived.Test.YteaelkeiocogfaaGGen
namespace Go.Proofs.Yteaelkeiocogfaa.A
open Go.RowKit Go.Proofs.YteaelkeiocogfaaW.PrintWords Go.Proofs.YteaelkeiocogfaaW.PrintLast Go.Proofs.YteaelkeiocogfaaW.PrintMore
attribute [local go_sem] max2_int min2_int max_two min_two max_three min_three max_four min_four   -- for this text's walks alone
set_option linter.unusedVariables false
set_option linter.unusedSimpArgs false

/-! ### spec_IsGenerated: function 14 -/
mutual
def spec_IsGenerated.l0 : Nat → Int → List (S25) → Int → Int → Option (Bool)
  | 0, _, _, _, _ => none
  | k + 1, x1, x9, x10, x11 => if x11 < x10 then (if 0 ≤ x11 then (if x11 < (x9.length : Int) then ((spec_lines.f k ((rd_T25 x9 x11).f1)).bind fun t148 => (spec_IsGenerated.l1 k x1 x9 x10 x11 t148 (t148.length : Int) 0 ((rd_T25 x9 x11).f0) ((rd_T25 x9 x11).f1))) else (none)) else (none)) else (some false)
def spec_IsGenerated.l1 : Nat → Int → List (S25) → Int → Int → List ByteArray → Int → Int → Int → ByteArray → Option (Bool)
  | 0, _, _, _, _, _, _, _, _, _ => none
  | k + 1, x1, x9, x10, x11, x17, x18, x19, x148000, x148001 => if x19 < x18 then (if 0 ≤ x19 then (if x19 < (x17.length : Int) then (if x148000 < x1 then ((spec_isMark.f (rdOf ByteArray.empty x17 x19)).bind fun t152 => (if t152 = true then (some true) else (spec_IsGenerated.l1 k x1 x9 x10 x11 x17 x18 (wrap64 (x19 + 1)) x148000 x148001))) else (spec_IsGenerated.l1 k x1 x9 x10 x11 x17 x18 (wrap64 (x19 + 1)) x148000 x148001)) else (none)) else (none)) else (spec_IsGenerated.l0 k x1 x9 x10 (wrap64 (x11 + 1)))
end
def spec_IsGenerated.f (k : Nat) (l0 : List (S25)) (a1 : Int) : Option (Bool) := spec_IsGenerated.l0 k a1 l0 (l0.length : Int) 0
theorem spec_IsGenerated.mono_l : ∀ k, (∀ y0 y1 y2 y3, LeO (spec_IsGenerated.l0 k y0 y1 y2 y3) (spec_IsGenerated.l0 (k + 1) y0 y1 y2 y3)) ∧ (∀ y0 y1 y2 y3 y4 y5 y6 y7 y8, LeO (spec_IsGenerated.l1 k y0 y1 y2 y3 y4 y5 y6 y7 y8) (spec_IsGenerated.l1 (k + 1) y0 y1 y2 y3 y4 y5 y6 y7 y8))
  | 0 => ⟨fun _ _ _ _ r h => by simp [spec_IsGenerated.l0] at h, fun _ _ _ _ _ _ _ _ _ r h => by simp [spec_IsGenerated.l1] at h⟩
  | k + 1 => by
    obtain ⟨ih0, ih1⟩ := spec_IsGenerated.mono_l k
    refine ⟨?_, ?_⟩
    · intro y0 y1 y2 y3
      unfold spec_IsGenerated.l0
      repeat' first
      | (with_reducible exact ih0 _ _ _ _)
      | (with_reducible exact ih1 _ _ _ _ _ _ _ _ _)
      | (with_reducible exact spec_lines.mono _ _)
      | (with_reducible exact LeO.refl _)
      | (with_reducible exact LeO.none _)
      | (with_reducible refine LeO.ite ?_ ?_)
      | (with_reducible refine LeO.bind ?_ (fun _ => ?_))
      | exact ih0 _ _ _ _
      | exact ih1 _ _ _ _ _ _ _ _ _
      | exact spec_lines.mono _ _
      | exact LeO.none _
      | refine LeO.ite ?_ ?_
      | refine LeO.bind ?_ (fun _ => ?_)
    · intro y0 y1 y2 y3 y4 y5 y6 y7 y8
      unfold spec_IsGenerated.l1
      repeat' first
      | (with_reducible exact ih0 _ _ _ _)
      | (with_reducible exact ih1 _ _ _ _ _ _ _ _ _)
      | (with_reducible exact spec_lines.mono _ _)
      | (with_reducible exact LeO.refl _)
      | (with_reducible exact LeO.none _)
      | (with_reducible refine LeO.ite ?_ ?_)
      | (with_reducible refine LeO.bind ?_ (fun _ => ?_))
      | exact ih0 _ _ _ _
      | exact ih1 _ _ _ _ _ _ _ _ _
      | exact spec_lines.mono _ _
      | exact LeO.none _
      | refine LeO.ite ?_ ?_
      | refine LeO.bind ?_ (fun _ => ?_)
theorem spec_IsGenerated.mono : ∀ a0 a1 k, LeO (spec_IsGenerated.f k a0 a1) (spec_IsGenerated.f (k + 1) a0 a1) := by
  intro a0 a1 k
  obtain ⟨ih0, ih1⟩ := spec_IsGenerated.mono_l k
  unfold spec_IsGenerated.f
  repeat' first
      | (with_reducible exact ih0 _ _ _ _)
      | (with_reducible exact ih1 _ _ _ _ _ _ _ _ _)
      | (with_reducible exact spec_lines.mono _ _)
      | (with_reducible exact LeO.refl _)
      | (with_reducible exact LeO.none _)
      | (with_reducible refine LeO.ite ?_ ?_)
      | (with_reducible refine LeO.bind ?_ (fun _ => ?_))
      | exact ih0 _ _ _ _
      | exact ih1 _ _ _ _ _ _ _ _ _
      | exact spec_lines.mono _ _
      | exact LeO.none _
      | refine LeO.ite ?_ ?_
      | refine LeO.bind ?_ (fun _ => ?_)
set_option maxHeartbeats 8000000 in
set_option maxRecDepth 100000 in
theorem spec_IsGenerated.calls (k : Nat) (A0 : Option Addr) (c0 : Nat) (l0 : List (S25)) (a1 : Int) (r : Bool) (w : World) (hr0 : Kd.C k25 w A0 l0.length l0) (hc0 : l0.length ≤ c0) (h : spec_IsGenerated.f k l0 a1 = some r) :
    Calls Try.prog 14 #[.slice A0 l0.length c0, .int .i64 a1] w fun e w' => e = .returned (.bool r) ∧ Below w.heap.size w w' := by
  have hu25 := Try.underlying25
  have HR0 := Aside0.mk hr0
  have HC0 := Aside0.mk hc0
  clear hr0 hc0
  have HB := Aside0.mk (Below.refl w.heap.size w)
  have H : (spec_IsGenerated.l0 k a1 l0 (l0.length : Int) 0) = some r := h
  clear h
  have H' := Aside0.mk H
  clear H
  go_enter Try.func14, Try.ntmps14
  go_wp2
  go_loopg [11] k (fun kq v11 w' => ∃ (x11_1 : Int), v11 = .int .i64 x11_1 ∧ Aside0 (spec_IsGenerated.l0 kq a1 l0 (l0.length : Int) x11_1 = some r) ∧ Aside0 (kq ≤ k) ∧ Aside0 (Below w.heap.size w w'))
  case atStart => exact ⟨(0), (by first | rfl | (simp; done) | (simp [*]; done)), H', ⟨Nat.le_refl _⟩, ⟨by repeat (first | (with_reducible first | exact HB.out | apply below_alloc | apply pw_below_drewN | apply below_drew1) | exact HB.out)⟩⟩
  case round =>
    clear H'
    try clear c1
    try clear p2
    obtain ⟨x11_1, rfl, HA, HK1, HB⟩ := hrel
    cases gk with
    | zero => exact absurd HA.out (by simp [spec_IsGenerated.l0])
    | succ k1 =>
      have H := HA.out
      clear HA
      simp only [spec_IsGenerated.l0] at H
      by_cases c3 : x11_1 < (l0.length : Int)
      · rw [if_pos c3] at H
        have c3b0 : decide (x11_1 < (l0.length : Int)) = true := decide_eq_true c3
        clear c3
        by_cases c4 : 0 ≤ x11_1
        · rw [if_pos c4] at H
          have c4b0 : decide (0 ≤ x11_1) = true := decide_eq_true c4
          clear c4
          by_cases c5 : x11_1 < (l0.length : Int)
          · rw [if_pos c5] at H
            have c5b0 : decide (x11_1 < (l0.length : Int)) = true := decide_eq_true c5
            clear c5
            replace H := Option.bind_eq_some_iff.mp H
            obtain ⟨t148, A60, H⟩ := H
            replace H : (spec_IsGenerated.l1 k1 a1 l0 (l0.length : Int) x11_1 t148 (t148.length : Int) 0 ((rd_T25 l0 x11_1).f0) ((rd_T25 l0 x11_1).f1)) = some r := H
            have A6 := Aside0.mk A60
            clear A60
            have H' := Aside0.mk H
            clear H
            have p146 : 0 ≤ (x11_1 : Int) := of_decide_eq_true (by first | (with_reducible assumption) | assumption)
            have q146 : x11_1 < (l0.length : Int) := of_decide_eq_true (by first | (with_reducible assumption) | assumption)
            obtain ⟨ad146, e146, hx146_0, hx146_1⟩ := at_T25 HR0.out x11_1 p146 q146
            cases e146
            replace hx146_0 := (HB.out.cell (World.block_lt_of_cell? w _ hx146_0)).trans hx146_0
            replace hx146_1 := (HB.out.cell (World.block_lt_of_cell? w _ hx146_1)).trans hx146_1
            replace p146 := eq_true p146
            replace q146 := eq_true q146
            go_wp2_with (first | ((with_reducible refine gate_dst (N := 6) rfl ?_); refine box_event ?hg (N := 6) ?hd (cs := #[.int .i64 0, .string (⟨#[]⟩ : ByteArray)]) (t := 25) ?hr ?_; (case hd => rfl); (case hg => rfl); (case hr => first | (go_simp; done) | (go_simp; rfl)); intro gb147 hg w7 hbox hb; have n0_ := Aside0.mk (below_step (by repeat (first | (with_reducible first | exact HB.out | apply below_alloc | apply pw_below_drewN | apply below_drew1) | exact HB.out)) hb); have n1_ := Aside0.mk (hbox); have n2_ := Aside0.mk ((by rw [hg]; exact (below_size (by repeat (first | (with_reducible first | exact HB.out | apply below_alloc | apply pw_below_drewN | apply below_drew1) | exact HB.out))) : w.heap.size ≤ gb147)); have n3_ := Aside0.mk ((by rw [hg]; exact (below_size (by repeat (first | (with_reducible first | exact HB.out | apply below_alloc | apply pw_below_drewN | apply below_drew1) | exact HB.out))) : w.heap.size ≤ gb147)); clear HB; have HB := n0_; have BK147 := n1_; have GW147 := n2_; have GE147 := n3_; clear n0_ n1_ n2_ n3_; clear hb hbox hg; have hcz8_0 : w7.cell? ⟨gb147, 0, none⟩ = some (.int .i64 0) := (blk_cell BK147.out 0).trans rfl; have hcz8_1 : w7.cell? ⟨gb147, 1, none⟩ = some (.string (⟨#[]⟩ : ByteArray)) := (blk_cell BK147.out 1).trans rfl; have hfz8_0 := blk_frozen BK147.out 0; have hfz8_1 := blk_frozen BK147.out 1) | ((with_reducible refine gate_callee (f := 29) rfl ?_); refine goesL_ (some 17) rfl rfl Try.func29 (by kernel_rfl) rfl #[.string ((rd_T25 l0 x11_1).f1)] rfl (by (try simp only [List.map_toArray, List.map_cons, List.map_nil]); first | done | rfl | (simp only [List.length_drop, List.length_take]; rfl)) ?_; (with_reducible refine (spec_lines.calls k1 ((rd_T25 l0 x11_1).f1) t148 _ A6.out).mono ?_); rintro e w9 ⟨v149, rfl, ho0, hb⟩; refine ⟨_, rfl, ?_⟩; have n0_ := Aside0.mk (Kd.R_lower ho0 (below_size (by repeat (first | (with_reducible first | exact HB.out | apply below_alloc | apply pw_below_drewN | apply below_drew1 | refine below_set ?_ GE147.out) | exact HB.out)))); have n1_ := Aside0.mk (blk_below (g := gb147) (o := .cells #[.int .i64 ((rd_T25 l0 x11_1).f0), .string ((rd_T25 l0 x11_1).f1)] 25 (0, 0)) (by (with_reducible repeat (first | refine blk_drewN ?_ _ | refine blk_drew ?_ | refine blk_alloc ?_ _)); refine blk_put (cs := #[.int .i64 ((rd_T25 l0 x11_1).f0), .string (⟨#[]⟩ : ByteArray)]) ?_ 1 _ rfl; (with_reducible repeat (first | refine blk_drewN ?_ _ | refine blk_drew ?_ | refine blk_alloc ?_ _)); refine blk_put (cs := #[.int .i64 0, .string (⟨#[]⟩ : ByteArray)]) ?_ 0 _ rfl; (with_reducible repeat (first | refine blk_drewN ?_ _ | refine blk_drew ?_ | refine blk_alloc ?_ _)); exact BK147.out) hb); have n2_ := Aside0.mk (below_step (by repeat (first | (with_reducible first | exact HB.out | apply below_alloc | apply pw_below_drewN | apply below_drew1 | refine below_set ?_ GE147.out) | exact HB.out)) hb); clear BK147; clear HB; have HO150 := n0_; have BK147 := n1_; have HB := n2_; clear n0_ n1_ n2_; (try clear hb); (try clear hb2); (try clear hk); (try clear hi); (try clear ho0); obtain ⟨Ao10, co10, eo10⟩ := Kd.R_slice HO150.out; subst eo10))
            go_loopg [19] k1 (fun kq v19 w' => ∃ (x19_2 : Int), v19 = .int .i64 x19_2 ∧ Aside0 (spec_IsGenerated.l1 kq a1 l0 (l0.length : Int) x11_1 t148 (t148.length : Int) x19_2 ((rd_T25 l0 x11_1).f0) ((rd_T25 l0 x11_1).f1) = some r) ∧ Aside0 (kq ≤ k1) ∧ Aside0 (Kd.R Kd.string 9 w' w.heap.size (fun _ => True) (.slice Ao10 t148.length co10) t148) ∧ Aside0 (w'.heap[gb147]? = some (.cells #[.int .i64 ((rd_T25 l0 x11_1).f0), .string ((rd_T25 l0 x11_1).f1)] 25 (0, 0))) ∧ Aside0 (Below w.heap.size w w'))
            case atStart => exact ⟨(0), (by first | rfl | (simp; done) | (simp [*]; done)), H', ⟨Nat.le_refl _⟩, ⟨by (with_reducible repeat (first | apply Kd.R_alloc | apply Kd.R_drewN | apply Kd.R_drew)); exact HO150.out⟩, ⟨by (with_reducible repeat (first | refine blk_drewN ?_ _ | refine blk_drew ?_ | refine blk_alloc ?_ _)); exact BK147.out⟩, ⟨by repeat (first | (with_reducible first | exact HB.out | apply below_alloc | apply pw_below_drewN | apply below_drew1 | refine below_set ?_ GE147.out) | exact HB.out)⟩⟩
            case round =>
              clear H'
              try clear c1
              try clear p1
              try clear q1
              try clear hx1
              try clear c2
              try clear p2
              try clear c3
              try clear c3b0
              try clear c4
              try clear c4b0
              try clear c5
              try clear c5b0
              try clear hcz8_0
              try clear hcz8_1
              try clear hfz8_0
              try clear hfz8_1
              try clear hx146_0
              try clear hx146_1
              try clear p146
              try clear p2
              try clear q146
              obtain ⟨x19_2, rfl, HA, HK2, HO_17, BK147, HB⟩ := hrel
              cases gk with
              | zero => exact absurd HA.out (by simp [spec_IsGenerated.l1])
              | succ k2 =>
                have H := HA.out
                clear HA
                simp only [spec_IsGenerated.l1] at H
                by_cases c11 : x19_2 < (t148.length : Int)
                · rw [if_pos c11] at H
                  have c11b0 : decide (x19_2 < (t148.length : Int)) = true := decide_eq_true c11
                  clear c11
                  by_cases c12 : 0 ≤ x19_2
                  · rw [if_pos c12] at H
                    have c12b0 : decide (0 ≤ x19_2) = true := decide_eq_true c12
                    clear c12
                    by_cases c13 : x19_2 < (t148.length : Int)
                    · rw [if_pos c13] at H
                      have c13b0 : decide (x19_2 < (t148.length : Int)) = true := decide_eq_true c13
                      clear c13
                      by_cases c14 : ((rd_T25 l0 x11_1).f0) < a1
                      · rw [if_pos c14] at H
                        have c14b0 : decide (((rd_T25 l0 x11_1).f0) < a1) = true := decide_eq_true c14
                        clear c14
                        replace H := Option.bind_eq_some_iff.mp H
                        obtain ⟨t152, A150, H⟩ := H
                        replace H : (if t152 = true then (some true) else (spec_IsGenerated.l1 k2 a1 l0 (l0.length : Int) x11_1 t148 (t148.length : Int) (wrap64 (x19_2 + 1)) ((rd_T25 l0 x11_1).f0) ((rd_T25 l0 x11_1).f1))) = some r := H
                        have A15 := Aside0.mk A150
                        clear A150
                        by_cases c16 : t152 = true
                        · subst c16
                          have H1 : (some true) = some r := by rw [if_pos rfl] at H; exact H
                          clear H
                          have H := H1
                          clear H1
                          obtain rfl := Option.some.inj H
                          have p151 : 0 ≤ (x19_2 : Int) := of_decide_eq_true (by first | (with_reducible assumption) | assumption)
                          have q151 : x19_2 < (t148.length : Int) := of_decide_eq_true (by first | (with_reducible assumption) | assumption)
                          obtain ⟨ad151, e151, hx151_0⟩ := Kd.at_string (Kd.R_reads' HO_17.out).2.2 x19_2 p151 q151
                          cases e151
                          replace p151 := eq_true p151
                          replace q151 := eq_true q151
                          have hcz17_0 : wr.cell? ⟨gb147, 0, none⟩ = some (.int .i64 ((rd_T25 l0 x11_1).f0)) := (blk_cell BK147.out 0).trans rfl
                          have hcz17_1 : wr.cell? ⟨gb147, 1, none⟩ = some (.string ((rd_T25 l0 x11_1).f1)) := (blk_cell BK147.out 1).trans rfl
                          have hfz17_0 := blk_frozen BK147.out 0
                          have hfz17_1 := blk_frozen BK147.out 1
                          go_wp2_with (first | (go_at_call 30; (with_reducible refine (spec_isMark.calls (rdOf ByteArray.empty t148 x19_2) true _ A15.out).mono ?_); rintro e w' ⟨rfl, ⟨nd, rfl⟩⟩))
                          go_ret
                          exact ⟨by first | rfl | (simp [errW_none, errW_some] <;> rfl) | (simp [*, errW_none, errW_some] <;> rfl), by repeat (first | (with_reducible first | exact HB.out | apply below_alloc | apply pw_below_drewN | apply below_drew1 | refine below_set ?_ GE147.out) | exact HB.out)⟩
                        · replace c16 := Bool.eq_false_iff.mpr c16
                          subst c16
                          have H1 : (spec_IsGenerated.l1 k2 a1 l0 (l0.length : Int) x11_1 t148 (t148.length : Int) (wrap64 (x19_2 + 1)) ((rd_T25 l0 x11_1).f0) ((rd_T25 l0 x11_1).f1)) = some r := by rw [if_neg (show ¬ (false = true) by decide)] at H; exact H
                          clear H
                          have H := H1
                          clear H1
                          have H' := Aside0.mk H
                          clear H
                          have p151 : 0 ≤ (x19_2 : Int) := of_decide_eq_true (by first | (with_reducible assumption) | assumption)
                          have q151 : x19_2 < (t148.length : Int) := of_decide_eq_true (by first | (with_reducible assumption) | assumption)
                          obtain ⟨ad151, e151, hx151_0⟩ := Kd.at_string (Kd.R_reads' HO_17.out).2.2 x19_2 p151 q151
                          cases e151
                          replace p151 := eq_true p151
                          replace q151 := eq_true q151
                          have hcz18_0 : wr.cell? ⟨gb147, 0, none⟩ = some (.int .i64 ((rd_T25 l0 x11_1).f0)) := (blk_cell BK147.out 0).trans rfl
                          have hcz18_1 : wr.cell? ⟨gb147, 1, none⟩ = some (.string ((rd_T25 l0 x11_1).f1)) := (blk_cell BK147.out 1).trans rfl
                          have hfz18_0 := blk_frozen BK147.out 0
                          have hfz18_1 := blk_frozen BK147.out 1
                          go_wp2_with (first | (go_at_call 30; (with_reducible refine (spec_isMark.calls (rdOf ByteArray.empty t148 x19_2) false _ A15.out).mono ?_); rintro e w' ⟨rfl, ⟨nd, rfl⟩⟩))
                          go_roundg k2
                          case measure => have := HK1.out; have := HK2.out; omega
                          case rel => exact ⟨(wrap64 (x19_2 + 1)), (by first | rfl | (simp; done) | (simp [*]; done)), H', ⟨by have := HK1.out; have := HK2.out; omega⟩, ⟨by (with_reducible repeat (first | apply Kd.R_alloc | apply Kd.R_drewN | apply Kd.R_drew)); exact HO_17.out⟩, ⟨by (with_reducible repeat (first | refine blk_drewN ?_ _ | refine blk_drew ?_ | refine blk_alloc ?_ _)); exact BK147.out⟩, ⟨by repeat (first | (with_reducible first | exact HB.out | apply below_alloc | apply pw_below_drewN | apply below_drew1 | refine below_set ?_ GE147.out) | exact HB.out)⟩⟩
                      · rw [if_neg c14] at H
                        have c14b0 : decide (((rd_T25 l0 x11_1).f0) < a1) = false := decide_eq_false c14
                        clear c14
                        have H' := Aside0.mk H
                        clear H
                        have p151 : 0 ≤ (x19_2 : Int) := of_decide_eq_true (by first | (with_reducible assumption) | assumption)
                        have q151 : x19_2 < (t148.length : Int) := of_decide_eq_true (by first | (with_reducible assumption) | assumption)
                        obtain ⟨ad151, e151, hx151_0⟩ := Kd.at_string (Kd.R_reads' HO_17.out).2.2 x19_2 p151 q151
                        cases e151
                        replace p151 := eq_true p151
                        replace q151 := eq_true q151
                        have hcz19_0 : wr.cell? ⟨gb147, 0, none⟩ = some (.int .i64 ((rd_T25 l0 x11_1).f0)) := (blk_cell BK147.out 0).trans rfl
                        have hcz19_1 : wr.cell? ⟨gb147, 1, none⟩ = some (.string ((rd_T25 l0 x11_1).f1)) := (blk_cell BK147.out 1).trans rfl
                        have hfz19_0 := blk_frozen BK147.out 0
                        have hfz19_1 := blk_frozen BK147.out 1
                        go_wp2
                        go_roundg k2
                        case measure => have := HK1.out; have := HK2.out; omega
                        case rel => exact ⟨(wrap64 (x19_2 + 1)), (by first | rfl | (simp; done) | (simp [*]; done)), H', ⟨by have := HK1.out; have := HK2.out; omega⟩, ⟨by (with_reducible repeat (first | apply Kd.R_alloc | apply Kd.R_drewN | apply Kd.R_drew)); exact HO_17.out⟩, ⟨by (with_reducible repeat (first | refine blk_drewN ?_ _ | refine blk_drew ?_ | refine blk_alloc ?_ _)); exact BK147.out⟩, ⟨by repeat (first | (with_reducible first | exact HB.out | apply below_alloc | apply pw_below_drewN | apply below_drew1 | refine below_set ?_ GE147.out) | exact HB.out)⟩⟩
                    · rw [if_neg c13] at H
                      exact absurd H (by simp)
                  · rw [if_neg c12] at H
                    exact absurd H (by simp)
                · rw [if_neg c11] at H
                  have c11b0 : decide (x19_2 < (t148.length : Int)) = false := decide_eq_false c11
                  clear c11
                  have H' := Aside0.mk H
                  clear H
                  go_wp2
                  go_roundg k2
                  case measure => have := HK1.out; have := HK2.out; omega
                  case rel => exact ⟨(wrap64 (x11_1 + 1)), (by first | rfl | (simp; done) | (simp [*]; done)), H', ⟨by have := HK1.out; have := HK2.out; omega⟩, ⟨by repeat (first | (with_reducible first | exact HB.out | apply below_alloc | apply pw_below_drewN | apply below_drew1 | refine below_set ?_ GE147.out) | exact HB.out)⟩⟩
          · rw [if_neg c5] at H
            exact absurd H (by simp)
        · rw [if_neg c4] at H
          exact absurd H (by simp)
      · rw [if_neg c3] at H
        have c3b0 : decide (x11_1 < (l0.length : Int)) = false := decide_eq_false c3
        clear c3
        obtain rfl := Option.some.inj H
        go_wp2
        go_ret
        exact ⟨by first | rfl | (simp [errW_none, errW_some] <;> rfl) | (simp [*, errW_none, errW_some] <;> rfl), by repeat (first | (with_reducible first | exact HB.out | apply below_alloc | apply pw_below_drewN | apply below_drew1) | exact HB.out)⟩

/-! ### laws_FnGenerated: function 5 -/
mutual
def laws_FnGenerated.l0 : Nat → List (S25) → Int → Int → List (S25) → Int → Int → Option (Bool)
  | 0, _, _, _, _, _, _ => none
  | k + 1, x0, x1, x5, x11, x12, x13 => if x13 < x12 then (if 0 ≤ x13 then (if x13 < (x11.length : Int) then (if ((rd_T25 x11 x13).f0) ≤ x5 then (some true) else (if ((rd_T25 x11 x13).f0) = x1 then (some true) else (if (((rd_T25 x11 x13).f1).size : Int) > 1000 then (some true) else ((spec_IsComment.f k ((rd_T25 x11 x13).f1)).bind fun t156 => (if t156 = true then (laws_FnGenerated.l0 k x0 x1 ((rd_T25 x11 x13).f0) x11 x12 (wrap64 (x13 + 1))) else (some true)))))) else (none)) else (none)) else (if (x0.length : Int) > 50 then (laws_FnGenerated.j1 k x0 x1 true) else (if x5 > 1000000 then (laws_FnGenerated.j1 k x0 x1 true) else (if x1 < 1 then (laws_FnGenerated.j1 k x0 x1 true) else (laws_FnGenerated.j1 k x0 x1 (decide (x1 > 1000000))))))
def laws_FnGenerated.j1 : Nat → List (S25) → Int → Bool → Option (Bool)
  | 0, _, _, _ => none
  | k + 1, x0, x1, x56 => if x56 = true then (some true) else ((impl_IsGenerated.f x0 x1).bind fun t157 => ((spec_IsGenerated.f k x0 x1).bind fun t158 => (some (t157 == t158))))
end
def laws_FnGenerated.f (k : Nat) (l0 : List (S25)) (a1 : Int) : Option (Bool) := (laws_zzFits2.f k l0).bind fun t153 => (if t153 = true then (laws_FnGenerated.l0 k l0 a1 0 l0 (l0.length : Int) 0) else (some true))
theorem laws_FnGenerated.mono_l : ∀ k, (∀ y0 y1 y2 y3 y4 y5, LeO (laws_FnGenerated.l0 k y0 y1 y2 y3 y4 y5) (laws_FnGenerated.l0 (k + 1) y0 y1 y2 y3 y4 y5)) ∧ (∀ y0 y1 y2, LeO (laws_FnGenerated.j1 k y0 y1 y2) (laws_FnGenerated.j1 (k + 1) y0 y1 y2))
  | 0 => ⟨fun _ _ _ _ _ _ r h => by simp [laws_FnGenerated.l0] at h, fun _ _ _ r h => by simp [laws_FnGenerated.j1] at h⟩
  | k + 1 => by
    obtain ⟨ih0, ih1⟩ := laws_FnGenerated.mono_l k
    refine ⟨?_, ?_⟩
    · intro y0 y1 y2 y3 y4 y5
      unfold laws_FnGenerated.l0
      repeat' first
      | (with_reducible exact ih0 _ _ _ _ _ _)
      | (with_reducible exact ih1 _ _ _)
      | (with_reducible exact laws_zzFits2.mono _ _)
      | (with_reducible exact spec_IsComment.mono _ _)
      | (with_reducible exact spec_IsGenerated.mono _ _ _)
      | (with_reducible exact LeO.refl _)
      | (with_reducible exact LeO.none _)
      | (with_reducible refine LeO.ite ?_ ?_)
      | (with_reducible refine LeO.bind ?_ (fun _ => ?_))
      | exact ih0 _ _ _ _ _ _
      | exact ih1 _ _ _
      | exact laws_zzFits2.mono _ _
      | exact spec_IsComment.mono _ _
      | exact spec_IsGenerated.mono _ _ _
      | exact LeO.none _
      | refine LeO.ite ?_ ?_
      | refine LeO.bind ?_ (fun _ => ?_)
    · intro y0 y1 y2
      unfold laws_FnGenerated.j1
      repeat' first
      | (with_reducible exact ih0 _ _ _ _ _ _)
      | (with_reducible exact ih1 _ _ _)
      | (with_reducible exact laws_zzFits2.mono _ _)
      | (with_reducible exact spec_IsComment.mono _ _)
      | (with_reducible exact spec_IsGenerated.mono _ _ _)
      | (with_reducible exact LeO.refl _)
      | (with_reducible exact LeO.none _)
      | (with_reducible refine LeO.ite ?_ ?_)
      | (with_reducible refine LeO.bind ?_ (fun _ => ?_))
      | exact ih0 _ _ _ _ _ _
      | exact ih1 _ _ _
      | exact laws_zzFits2.mono _ _
      | exact spec_IsComment.mono _ _
      | exact spec_IsGenerated.mono _ _ _
      | exact LeO.none _
      | refine LeO.ite ?_ ?_
      | refine LeO.bind ?_ (fun _ => ?_)
theorem laws_FnGenerated.mono : ∀ a0 a1 k, LeO (laws_FnGenerated.f k a0 a1) (laws_FnGenerated.f (k + 1) a0 a1) := by
  intro a0 a1 k
  obtain ⟨ih0, ih1⟩ := laws_FnGenerated.mono_l k
  unfold laws_FnGenerated.f
  repeat' first
      | (with_reducible exact ih0 _ _ _ _ _ _)
      | (with_reducible exact ih1 _ _ _)
      | (with_reducible exact laws_zzFits2.mono _ _)
      | (with_reducible exact spec_IsComment.mono _ _)
      | (with_reducible exact spec_IsGenerated.mono _ _ _)
      | (with_reducible exact LeO.refl _)
      | (with_reducible exact LeO.none _)
      | (with_reducible refine LeO.ite ?_ ?_)
      | (with_reducible refine LeO.bind ?_ (fun _ => ?_))
      | exact ih0 _ _ _ _ _ _
      | exact ih1 _ _ _
      | exact laws_zzFits2.mono _ _
      | exact spec_IsComment.mono _ _
      | exact spec_IsGenerated.mono _ _ _
      | exact LeO.none _
      | refine LeO.ite ?_ ?_
      | refine LeO.bind ?_ (fun _ => ?_)
set_option maxHeartbeats 8000000 in
set_option maxRecDepth 100000 in
theorem laws_FnGenerated.calls (k : Nat) (A0 : Option Addr) (c0 : Nat) (l0 : List (S25)) (a1 : Int) (r : Bool) (w : World) (hr0 : Kd.C k25 w A0 l0.length l0) (hc0 : l0.length ≤ c0) (h : laws_FnGenerated.f k l0 a1 = some r) :
    Calls Try.prog 5 #[.slice A0 l0.length c0, .int .i64 a1] w fun e w' => e = .returned (.bool r) ∧ Below w.heap.size w w' := by
  have hu25 := Try.underlying25
  have HR0 := Aside0.mk hr0
  have HC0 := Aside0.mk hc0
  clear hr0 hc0
  have HB := Aside0.mk (Below.refl w.heap.size w)
  have H : ((laws_zzFits2.f k l0).bind fun t153 => (if t153 = true then (laws_FnGenerated.l0 k l0 a1 0 l0 (l0.length : Int) 0) else (some true))) = some r := h
  clear h
  replace H := Option.bind_eq_some_iff.mp H
  obtain ⟨t153, A30, H⟩ := H
  replace H : (if t153 = true then (laws_FnGenerated.l0 k l0 a1 0 l0 (l0.length : Int) 0) else (some true)) = some r := H
  have A3 := Aside0.mk A30
  clear A30
  by_cases c4 : t153 = true
  · subst c4
    have H1 : (laws_FnGenerated.l0 k l0 a1 0 l0 (l0.length : Int) 0) = some r := by rw [if_pos rfl] at H; exact H
    clear H
    have H := H1
    clear H1
    have H' := Aside0.mk H
    clear H
    go_enter Try.func5, Try.ntmps5
    go_wp2_with (first | ((with_reducible refine gate_callee (f := 9) rfl ?_); refine goesL_ (some 9) rfl rfl Try.func9 (by kernel_rfl) rfl #[.slice A0 l0.length c0] rfl (by (try simp only [List.map_toArray, List.map_cons, List.map_nil]); first | done | rfl | (simp only [List.length_drop, List.length_take]; rfl)) ?_; (with_reducible refine (laws_zzFits2.calls k _ _ l0 true _ ?side1 ?side2 A3.out).mono ?_); (case side1 => repeat (first | exact HR0.out | (with_reducible refine Kd.C_alloc ?_ _) | (with_reducible refine Kd.C_drewN ?_ _) | (with_reducible refine Kd.C_drew ?_))); (case side2 => exact HC0.out); rintro e w5 ⟨rfl, hb⟩; refine ⟨_, rfl, ?_⟩; have n0_ := Aside0.mk (below_step (by repeat (first | (with_reducible first | exact HB.out | apply below_alloc | apply pw_below_drewN | apply below_drew1) | exact HB.out)) hb); clear HB; have HB := n0_; clear n0_; (try clear hb); (try clear hb2); (try clear hk); (try clear hi)))
    go_loopg [5, 13] k (fun kq v5 v13 w' => ∃ (x5_1 : Int) (x13_1 : Int), v5 = .int .i64 x5_1 ∧ v13 = .int .i64 x13_1 ∧ Aside0 (laws_FnGenerated.l0 kq l0 a1 x5_1 l0 (l0.length : Int) x13_1 = some r) ∧ Aside0 (kq ≤ k) ∧ Aside0 (Below w.heap.size w w'))
    case atStart => exact ⟨(0), (0), (by first | rfl | (simp; done) | (simp [*]; done)), (by first | rfl | (simp; done) | (simp [*]; done)), H', ⟨Nat.le_refl _⟩, ⟨by repeat (first | (with_reducible first | exact HB.out | apply below_alloc | apply pw_below_drewN | apply below_drew1) | exact HB.out)⟩⟩
    case round =>
      clear H'
      try clear p2
      try clear c4
      try clear c5
      obtain ⟨x5_1, x13_1, rfl, rfl, HA, HK1, HB⟩ := hrel
      cases gk with
      | zero => exact absurd HA.out (by simp [laws_FnGenerated.l0])
      | succ k1 =>
        have H := HA.out
        clear HA
        simp only [laws_FnGenerated.l0] at H
        by_cases c6 : x13_1 < (l0.length : Int)
        · rw [if_pos c6] at H
          have c6b0 : decide (x13_1 < (l0.length : Int)) = true := decide_eq_true c6
          clear c6
          by_cases c7 : 0 ≤ x13_1
          · rw [if_pos c7] at H
            have c7b0 : decide (0 ≤ x13_1) = true := decide_eq_true c7
            clear c7
            by_cases c8 : x13_1 < (l0.length : Int)
            · rw [if_pos c8] at H
              have c8b0 : decide (x13_1 < (l0.length : Int)) = true := decide_eq_true c8
              clear c8
              by_cases c9 : ((rd_T25 l0 x13_1).f0) ≤ x5_1
              · rw [if_pos c9] at H
                have c9b0 : decide (((rd_T25 l0 x13_1).f0) ≤ x5_1) = true := decide_eq_true c9
                clear c9
                obtain rfl := Option.some.inj H
                have p154 : 0 ≤ (x13_1 : Int) := of_decide_eq_true (by first | (with_reducible assumption) | assumption)
                have q154 : x13_1 < (l0.length : Int) := of_decide_eq_true (by first | (with_reducible assumption) | assumption)
                obtain ⟨ad154, e154, hx154_0, hx154_1⟩ := at_T25 HR0.out x13_1 p154 q154
                cases e154
                replace hx154_0 := (HB.out.cell (World.block_lt_of_cell? w _ hx154_0)).trans hx154_0
                replace hx154_1 := (HB.out.cell (World.block_lt_of_cell? w _ hx154_1)).trans hx154_1
                replace p154 := eq_true p154
                replace q154 := eq_true q154
                go_wp2_with (first | ((with_reducible refine gate_dst (N := 7) rfl ?_); (try (refine gate_guard (by rfl) ?_; dsimp only)); refine box_event ?hg (N := 7) ?hd (cs := #[.int .i64 0, .string (⟨#[]⟩ : ByteArray)]) (t := 25) ?hr ?_; (case hd => rfl); (case hg => rfl); (case hr => first | (go_simp; done) | (go_simp; rfl)); intro gb155 hg w10 hbox hb; have n0_ := Aside0.mk (below_step (by repeat (first | (with_reducible first | exact HB.out | apply below_alloc | apply pw_below_drewN | apply below_drew1) | exact HB.out)) hb); have n1_ := Aside0.mk (hbox); have n2_ := Aside0.mk ((by rw [hg]; exact (below_size (by repeat (first | (with_reducible first | exact HB.out | apply below_alloc | apply pw_below_drewN | apply below_drew1) | exact HB.out))) : w.heap.size ≤ gb155)); have n3_ := Aside0.mk ((by rw [hg]; exact (below_size (by repeat (first | (with_reducible first | exact HB.out | apply below_alloc | apply pw_below_drewN | apply below_drew1) | exact HB.out))) : w.heap.size ≤ gb155)); clear HB; have HB := n0_; have BK155 := n1_; have GW155 := n2_; have GE155 := n3_; clear n0_ n1_ n2_ n3_; clear hb hbox hg; have hcz11_0 : w10.cell? ⟨gb155, 0, none⟩ = some (.int .i64 0) := (blk_cell BK155.out 0).trans rfl; have hcz11_1 : w10.cell? ⟨gb155, 1, none⟩ = some (.string (⟨#[]⟩ : ByteArray)) := (blk_cell BK155.out 1).trans rfl; have hfz11_0 := blk_frozen BK155.out 0; have hfz11_1 := blk_frozen BK155.out 1))
                go_ret
                exact ⟨by first | rfl | (simp [errW_none, errW_some] <;> rfl) | (simp [*, errW_none, errW_some] <;> rfl), by repeat (first | (with_reducible first | exact HB.out | apply below_alloc | apply pw_below_drewN | apply below_drew1 | refine below_set ?_ GE155.out) | exact HB.out)⟩
              · rw [if_neg c9] at H
                have c9b0 : decide (((rd_T25 l0 x13_1).f0) ≤ x5_1) = false := decide_eq_false c9
                clear c9
                by_cases c12 : ((rd_T25 l0 x13_1).f0) = a1
                · rw [if_pos c12] at H
                  have c12b0 : (((rd_T25 l0 x13_1).f0) == a1) = true := beq_iff_eq.mpr c12
                  have c12b1 : (((rd_T25 l0 x13_1).f0) != a1) = false := bne_eq_false_iff_eq.mpr c12
                  clear c12
                  obtain rfl := Option.some.inj H
                  have p154 : 0 ≤ (x13_1 : Int) := of_decide_eq_true (by first | (with_reducible assumption) | assumption)
                  have q154 : x13_1 < (l0.length : Int) := of_decide_eq_true (by first | (with_reducible assumption) | assumption)
                  obtain ⟨ad154, e154, hx154_0, hx154_1⟩ := at_T25 HR0.out x13_1 p154 q154
                  cases e154
                  replace hx154_0 := (HB.out.cell (World.block_lt_of_cell? w _ hx154_0)).trans hx154_0
                  replace hx154_1 := (HB.out.cell (World.block_lt_of_cell? w _ hx154_1)).trans hx154_1
                  replace p154 := eq_true p154
                  replace q154 := eq_true q154
                  go_wp2_with (first | ((with_reducible refine gate_dst (N := 7) rfl ?_); (try (refine gate_guard (by rfl) ?_; dsimp only)); refine box_event ?hg (N := 7) ?hd (cs := #[.int .i64 0, .string (⟨#[]⟩ : ByteArray)]) (t := 25) ?hr ?_; (case hd => rfl); (case hg => rfl); (case hr => first | (go_simp; done) | (go_simp; rfl)); intro gb155 hg w13 hbox hb; have n0_ := Aside0.mk (below_step (by repeat (first | (with_reducible first | exact HB.out | apply below_alloc | apply pw_below_drewN | apply below_drew1) | exact HB.out)) hb); have n1_ := Aside0.mk (hbox); have n2_ := Aside0.mk ((by rw [hg]; exact (below_size (by repeat (first | (with_reducible first | exact HB.out | apply below_alloc | apply pw_below_drewN | apply below_drew1) | exact HB.out))) : w.heap.size ≤ gb155)); have n3_ := Aside0.mk ((by rw [hg]; exact (below_size (by repeat (first | (with_reducible first | exact HB.out | apply below_alloc | apply pw_below_drewN | apply below_drew1) | exact HB.out))) : w.heap.size ≤ gb155)); clear HB; have HB := n0_; have BK155 := n1_; have GW155 := n2_; have GE155 := n3_; clear n0_ n1_ n2_ n3_; clear hb hbox hg; have hcz14_0 : w13.cell? ⟨gb155, 0, none⟩ = some (.int .i64 0) := (blk_cell BK155.out 0).trans rfl; have hcz14_1 : w13.cell? ⟨gb155, 1, none⟩ = some (.string (⟨#[]⟩ : ByteArray)) := (blk_cell BK155.out 1).trans rfl; have hfz14_0 := blk_frozen BK155.out 0; have hfz14_1 := blk_frozen BK155.out 1))
                  go_ret
                  exact ⟨by first | rfl | (simp [errW_none, errW_some] <;> rfl) | (simp [*, errW_none, errW_some] <;> rfl), by repeat (first | (with_reducible first | exact HB.out | apply below_alloc | apply pw_below_drewN | apply below_drew1 | refine below_set ?_ GE155.out) | exact HB.out)⟩
                · rw [if_neg c12] at H
                  have c12b0 : (((rd_T25 l0 x13_1).f0) == a1) = false := beq_eq_false_iff_ne.mpr c12
                  have c12b1 : (((rd_T25 l0 x13_1).f0) != a1) = true := bne_iff_ne.mpr c12
                  by_cases c15 : (((rd_T25 l0 x13_1).f1).size : Int) > 1000
                  · rw [if_pos c15] at H
                    have c15b0 : decide (1000 < (((rd_T25 l0 x13_1).f1).size : Int)) = true := decide_eq_true c15
                    have c15b1 : decide (1000 < ((rd_T25 l0 x13_1).f1).size) = true := decide_eq_true (by omega)
                    clear c15
                    obtain rfl := Option.some.inj H
                    have p154 : 0 ≤ (x13_1 : Int) := of_decide_eq_true (by first | (with_reducible assumption) | assumption)
                    have q154 : x13_1 < (l0.length : Int) := of_decide_eq_true (by first | (with_reducible assumption) | assumption)
                    obtain ⟨ad154, e154, hx154_0, hx154_1⟩ := at_T25 HR0.out x13_1 p154 q154
                    cases e154
                    replace hx154_0 := (HB.out.cell (World.block_lt_of_cell? w _ hx154_0)).trans hx154_0
                    replace hx154_1 := (HB.out.cell (World.block_lt_of_cell? w _ hx154_1)).trans hx154_1
                    replace p154 := eq_true p154
                    replace q154 := eq_true q154
                    go_wp2_with (first | ((with_reducible refine gate_dst (N := 7) rfl ?_); (try (refine gate_guard (by rfl) ?_; dsimp only)); refine box_event ?hg (N := 7) ?hd (cs := #[.int .i64 0, .string (⟨#[]⟩ : ByteArray)]) (t := 25) ?hr ?_; (case hd => rfl); (case hg => rfl); (case hr => first | (go_simp; done) | (go_simp; rfl)); intro gb155 hg w16 hbox hb; have n0_ := Aside0.mk (below_step (by repeat (first | (with_reducible first | exact HB.out | apply below_alloc | apply pw_below_drewN | apply below_drew1) | exact HB.out)) hb); have n1_ := Aside0.mk (hbox); have n2_ := Aside0.mk ((by rw [hg]; exact (below_size (by repeat (first | (with_reducible first | exact HB.out | apply below_alloc | apply pw_below_drewN | apply below_drew1) | exact HB.out))) : w.heap.size ≤ gb155)); have n3_ := Aside0.mk ((by rw [hg]; exact (below_size (by repeat (first | (with_reducible first | exact HB.out | apply below_alloc | apply pw_below_drewN | apply below_drew1) | exact HB.out))) : w.heap.size ≤ gb155)); clear HB; have HB := n0_; have BK155 := n1_; have GW155 := n2_; have GE155 := n3_; clear n0_ n1_ n2_ n3_; clear hb hbox hg; have hcz17_0 : w16.cell? ⟨gb155, 0, none⟩ = some (.int .i64 0) := (blk_cell BK155.out 0).trans rfl; have hcz17_1 : w16.cell? ⟨gb155, 1, none⟩ = some (.string (⟨#[]⟩ : ByteArray)) := (blk_cell BK155.out 1).trans rfl; have hfz17_0 := blk_frozen BK155.out 0; have hfz17_1 := blk_frozen BK155.out 1))
                    go_ret
                    exact ⟨by first | rfl | (simp [errW_none, errW_some] <;> rfl) | (simp [*, errW_none, errW_some] <;> rfl), by repeat (first | (with_reducible first | exact HB.out | apply below_alloc | apply pw_below_drewN | apply below_drew1 | refine below_set ?_ GE155.out) | exact HB.out)⟩
                  · rw [if_neg c15] at H
                    have c15b0 : decide (1000 < (((rd_T25 l0 x13_1).f1).size : Int)) = false := decide_eq_false c15
                    have c15b1 : decide (1000 < ((rd_T25 l0 x13_1).f1).size) = false := decide_eq_false (by omega)
                    clear c15
                    replace H := Option.bind_eq_some_iff.mp H
                    obtain ⟨t156, A180, H⟩ := H
                    replace H : (if t156 = true then (laws_FnGenerated.l0 k1 l0 a1 ((rd_T25 l0 x13_1).f0) l0 (l0.length : Int) (wrap64 (x13_1 + 1))) else (some true)) = some r := H
                    have A18 := Aside0.mk A180
                    clear A180
                    by_cases c19 : t156 = true
                    · subst c19
                      have H1 : (laws_FnGenerated.l0 k1 l0 a1 ((rd_T25 l0 x13_1).f0) l0 (l0.length : Int) (wrap64 (x13_1 + 1))) = some r := by rw [if_pos rfl] at H; exact H
                      clear H
                      have H := H1
                      clear H1
                      have H' := Aside0.mk H
                      clear H
                      have p154 : 0 ≤ (x13_1 : Int) := of_decide_eq_true (by first | (with_reducible assumption) | assumption)
                      have q154 : x13_1 < (l0.length : Int) := of_decide_eq_true (by first | (with_reducible assumption) | assumption)
                      obtain ⟨ad154, e154, hx154_0, hx154_1⟩ := at_T25 HR0.out x13_1 p154 q154
                      cases e154
                      replace hx154_0 := (HB.out.cell (World.block_lt_of_cell? w _ hx154_0)).trans hx154_0
                      replace hx154_1 := (HB.out.cell (World.block_lt_of_cell? w _ hx154_1)).trans hx154_1
                      replace p154 := eq_true p154
                      replace q154 := eq_true q154
                      go_wp2_with (first | ((with_reducible refine gate_dst (N := 7) rfl ?_); (try (refine gate_guard (by rfl) ?_; dsimp only)); refine box_event ?hg (N := 7) ?hd (cs := #[.int .i64 0, .string (⟨#[]⟩ : ByteArray)]) (t := 25) ?hr ?_; (case hd => rfl); (case hg => rfl); (case hr => first | (go_simp; done) | (go_simp; rfl)); intro gb155 hg w20 hbox hb; have n0_ := Aside0.mk (below_step (by repeat (first | (with_reducible first | exact HB.out | apply below_alloc | apply pw_below_drewN | apply below_drew1) | exact HB.out)) hb); have n1_ := Aside0.mk (hbox); have n2_ := Aside0.mk ((by rw [hg]; exact (below_size (by repeat (first | (with_reducible first | exact HB.out | apply below_alloc | apply pw_below_drewN | apply below_drew1) | exact HB.out))) : w.heap.size ≤ gb155)); have n3_ := Aside0.mk ((by rw [hg]; exact (below_size (by repeat (first | (with_reducible first | exact HB.out | apply below_alloc | apply pw_below_drewN | apply below_drew1) | exact HB.out))) : w.heap.size ≤ gb155)); clear HB; have HB := n0_; have BK155 := n1_; have GW155 := n2_; have GE155 := n3_; clear n0_ n1_ n2_ n3_; clear hb hbox hg; have hcz21_0 : w20.cell? ⟨gb155, 0, none⟩ = some (.int .i64 0) := (blk_cell BK155.out 0).trans rfl; have hcz21_1 : w20.cell? ⟨gb155, 1, none⟩ = some (.string (⟨#[]⟩ : ByteArray)) := (blk_cell BK155.out 1).trans rfl; have hfz21_0 := blk_frozen BK155.out 0; have hfz21_1 := blk_frozen BK155.out 1) | (go_at_call 12; (with_reducible refine (spec_IsComment.calls k1 ((rd_T25 l0 x13_1).f1) true _ A18.out).mono ?_); rintro e w22 ⟨rfl, hb⟩; have n0_ := Aside0.mk (blk_below (g := gb155) (o := .cells #[.int .i64 ((rd_T25 l0 x13_1).f0), .string ((rd_T25 l0 x13_1).f1)] 25 (0, 0)) (by (with_reducible repeat (first | refine blk_drewN ?_ _ | refine blk_drew ?_ | refine blk_alloc ?_ _)); refine blk_put (cs := #[.int .i64 ((rd_T25 l0 x13_1).f0), .string (⟨#[]⟩ : ByteArray)]) ?_ 1 _ rfl; (with_reducible repeat (first | refine blk_drewN ?_ _ | refine blk_drew ?_ | refine blk_alloc ?_ _)); refine blk_put (cs := #[.int .i64 0, .string (⟨#[]⟩ : ByteArray)]) ?_ 0 _ rfl; (with_reducible repeat (first | refine blk_drewN ?_ _ | refine blk_drew ?_ | refine blk_alloc ?_ _)); exact BK155.out) hb); have n1_ := Aside0.mk (below_step (by repeat (first | (with_reducible first | exact HB.out | apply below_alloc | apply pw_below_drewN | apply below_drew1 | refine below_set ?_ GE155.out) | exact HB.out)) hb); clear BK155; clear HB; have BK155 := n0_; have HB := n1_; clear n0_ n1_; (try clear hb); (try clear hb2); (try clear hk); (try clear hi); have hcz23_0 : w22.cell? ⟨gb155, 0, none⟩ = some (.int .i64 ((rd_T25 l0 x13_1).f0)) := (blk_cell BK155.out 0).trans rfl; have hcz23_1 : w22.cell? ⟨gb155, 1, none⟩ = some (.string ((rd_T25 l0 x13_1).f1)) := (blk_cell BK155.out 1).trans rfl; have hfz23_0 := blk_frozen BK155.out 0; have hfz23_1 := blk_frozen BK155.out 1))
                      go_roundg k1
                      case measure => have := HK1.out; omega
                      case rel => exact ⟨((rd_T25 l0 x13_1).f0), (wrap64 (x13_1 + 1)), (by first | rfl | (simp; done) | (simp [*]; done)), (by first | rfl | (simp; done) | (simp [*]; done)), H', ⟨by have := HK1.out; omega⟩, ⟨by repeat (first | (with_reducible first | exact HB.out | apply below_alloc | apply pw_below_drewN | apply below_drew1 | refine below_set ?_ GE155.out) | exact HB.out)⟩⟩
                    · replace c19 := Bool.eq_false_iff.mpr c19
                      subst c19
                      have H1 : (some true) = some r := by rw [if_neg (show ¬ (false = true) by decide)] at H; exact H
                      clear H
                      have H := H1
                      clear H1
                      obtain rfl := Option.some.inj H
                      have p154 : 0 ≤ (x13_1 : Int) := of_decide_eq_true (by first | (with_reducible assumption) | assumption)
                      have q154 : x13_1 < (l0.length : Int) := of_decide_eq_true (by first | (with_reducible assumption) | assumption)
                      obtain ⟨ad154, e154, hx154_0, hx154_1⟩ := at_T25 HR0.out x13_1 p154 q154
                      cases e154
                      replace hx154_0 := (HB.out.cell (World.block_lt_of_cell? w _ hx154_0)).trans hx154_0
                      replace hx154_1 := (HB.out.cell (World.block_lt_of_cell? w _ hx154_1)).trans hx154_1
                      replace p154 := eq_true p154
                      replace q154 := eq_true q154
                      go_wp2_with (first | ((with_reducible refine gate_dst (N := 7) rfl ?_); (try (refine gate_guard (by rfl) ?_; dsimp only)); refine box_event ?hg (N := 7) ?hd (cs := #[.int .i64 0, .string (⟨#[]⟩ : ByteArray)]) (t := 25) ?hr ?_; (case hd => rfl); (case hg => rfl); (case hr => first | (go_simp; done) | (go_simp; rfl)); intro gb155 hg w24 hbox hb; have n0_ := Aside0.mk (below_step (by repeat (first | (with_reducible first | exact HB.out | apply below_alloc | apply pw_below_drewN | apply below_drew1) | exact HB.out)) hb); have n1_ := Aside0.mk (hbox); have n2_ := Aside0.mk ((by rw [hg]; exact (below_size (by repeat (first | (with_reducible first | exact HB.out | apply below_alloc | apply pw_below_drewN | apply below_drew1) | exact HB.out))) : w.heap.size ≤ gb155)); have n3_ := Aside0.mk ((by rw [hg]; exact (below_size (by repeat (first | (with_reducible first | exact HB.out | apply below_alloc | apply pw_below_drewN | apply below_drew1) | exact HB.out))) : w.heap.size ≤ gb155)); clear HB; have HB := n0_; have BK155 := n1_; have GW155 := n2_; have GE155 := n3_; clear n0_ n1_ n2_ n3_; clear hb hbox hg; have hcz25_0 : w24.cell? ⟨gb155, 0, none⟩ = some (.int .i64 0) := (blk_cell BK155.out 0).trans rfl; have hcz25_1 : w24.cell? ⟨gb155, 1, none⟩ = some (.string (⟨#[]⟩ : ByteArray)) := (blk_cell BK155.out 1).trans rfl; have hfz25_0 := blk_frozen BK155.out 0; have hfz25_1 := blk_frozen BK155.out 1) | (go_at_call 12; (with_reducible refine (spec_IsComment.calls k1 ((rd_T25 l0 x13_1).f1) false _ A18.out).mono ?_); rintro e w26 ⟨rfl, hb⟩; have n0_ := Aside0.mk (blk_below (g := gb155) (o := .cells #[.int .i64 ((rd_T25 l0 x13_1).f0), .string ((rd_T25 l0 x13_1).f1)] 25 (0, 0)) (by (with_reducible repeat (first | refine blk_drewN ?_ _ | refine blk_drew ?_ | refine blk_alloc ?_ _)); refine blk_put (cs := #[.int .i64 ((rd_T25 l0 x13_1).f0), .string (⟨#[]⟩ : ByteArray)]) ?_ 1 _ rfl; (with_reducible repeat (first | refine blk_drewN ?_ _ | refine blk_drew ?_ | refine blk_alloc ?_ _)); refine blk_put (cs := #[.int .i64 0, .string (⟨#[]⟩ : ByteArray)]) ?_ 0 _ rfl; (with_reducible repeat (first | refine blk_drewN ?_ _ | refine blk_drew ?_ | refine blk_alloc ?_ _)); exact BK155.out) hb); have n1_ := Aside0.mk (below_step (by repeat (first | (with_reducible first | exact HB.out | apply below_alloc | apply pw_below_drewN | apply below_drew1 | refine below_set ?_ GE155.out) | exact HB.out)) hb); clear BK155; clear HB; have BK155 := n0_; have HB := n1_; clear n0_ n1_; (try clear hb); (try clear hb2); (try clear hk); (try clear hi)))
                      go_ret
                      exact ⟨by first | rfl | (simp [errW_none, errW_some] <;> rfl) | (simp [*, errW_none, errW_some] <;> rfl), by repeat (first | (with_reducible first | exact HB.out | apply below_alloc | apply pw_below_drewN | apply below_drew1 | refine below_set ?_ GE155.out) | exact HB.out)⟩
            · rw [if_neg c8] at H
              exact absurd H (by simp)
          · rw [if_neg c7] at H
            exact absurd H (by simp)
        · rw [if_neg c6] at H
          have c6b0 : decide (x13_1 < (l0.length : Int)) = false := decide_eq_false c6
          clear c6
          have HC27 := Aside0.mk H
          clear H
          go_upto_region 11 with (fail)
          go_cut [56] (fun v56 wc => ∃ (kq : Nat) (x56_26 : Bool), v56 = .bool x56_26 ∧ Aside0 (laws_FnGenerated.j1 kq l0 a1 x56_26 = some r) ∧ Aside0 (kq ≤ k1) ∧ Aside0 (Below w.heap.size w wc))
          case first =>
            have H := HC27.out
            clear HC27
            by_cases c28 : (l0.length : Int) > 50
            · rw [if_pos c28] at H
              have c28b0 : decide (50 < (l0.length : Int)) = true := decide_eq_true c28
              have c28b1 : decide (50 < l0.length) = true := decide_eq_true (by omega)
              clear c28
              (first | rw [c28b0] | (simp only [i64_w, i32_w]; rw [c28b0]) | skip)
              have H' := Aside0.mk H
              clear H
              go_wp2
              go_meet
              case rel => exact ⟨_, (true), (by first | rfl | (simp; done) | (simp [*]; done)), H', ⟨by have := HK1.out; first | omega | exact Nat.le_refl _⟩, ⟨by repeat (first | (with_reducible first | exact HB.out | apply below_alloc | apply pw_below_drewN | apply below_drew1) | exact HB.out)⟩⟩
            · rw [if_neg c28] at H
              have c28b0 : decide (50 < (l0.length : Int)) = false := decide_eq_false c28
              have c28b1 : decide (50 < l0.length) = false := decide_eq_false (by omega)
              clear c28
              (first | rw [c28b0] | (simp only [i64_w, i32_w]; rw [c28b0]) | skip)
              by_cases c29 : x5_1 > 1000000
              · rw [if_pos c29] at H
                have c29b0 : decide (1000000 < x5_1) = true := decide_eq_true c29
                clear c29
                have H' := Aside0.mk H
                clear H
                go_wp2
                go_meet
                case rel => exact ⟨_, (true), (by first | rfl | (simp; done) | (simp [*]; done)), H', ⟨by have := HK1.out; first | omega | exact Nat.le_refl _⟩, ⟨by repeat (first | (with_reducible first | exact HB.out | apply below_alloc | apply pw_below_drewN | apply below_drew1) | exact HB.out)⟩⟩
              · rw [if_neg c29] at H
                have c29b0 : decide (1000000 < x5_1) = false := decide_eq_false c29
                clear c29
                by_cases c30 : a1 < 1
                · rw [if_pos c30] at H
                  have c30b0 : decide (a1 < 1) = true := decide_eq_true c30
                  clear c30
                  have H' := Aside0.mk H
                  clear H
                  go_wp2
                  go_meet
                  case rel => exact ⟨_, (true), (by first | rfl | (simp; done) | (simp [*]; done)), H', ⟨by have := HK1.out; first | omega | exact Nat.le_refl _⟩, ⟨by repeat (first | (with_reducible first | exact HB.out | apply below_alloc | apply pw_below_drewN | apply below_drew1) | exact HB.out)⟩⟩
                · rw [if_neg c30] at H
                  have c30b0 : decide (a1 < 1) = false := decide_eq_false c30
                  clear c30
                  have H' := Aside0.mk H
                  clear H
                  go_wp2
                  go_meet
                  case rel => exact ⟨_, (decide (a1 > 1000000)), (by first | rfl | (simp; done) | (simp [*]; done)), H', ⟨by have := HK1.out; first | omega | exact Nat.le_refl _⟩, ⟨by repeat (first | (with_reducible first | exact HB.out | apply below_alloc | apply pw_below_drewN | apply below_drew1) | exact HB.out)⟩⟩
          case rest =>
            clear HC27
            try clear c1
            try clear p1
            try clear q1
            try clear hx1
            try clear c2
            try clear p2
            try clear c3
            try clear c4
            try clear c5
            try clear c6
            try clear c6b0
            try clear p6
            try clear c7
            try clear c7b0
            try clear c8
            try clear c8b0
            try clear c9
            try clear c9b0
            try clear c12
            try clear c12b0
            try clear c12b1
            try clear c15
            try clear c15b0
            try clear c15b1
            try clear p15
            try clear q15
            try clear hx15
            try clear c19
            try clear c28
            try clear c28b0
            try clear c28b1
            try clear c29
            try clear c29b0
            try clear c30
            try clear c30b0
            try clear hcz11_0
            try clear hcz11_1
            try clear hcz14_0
            try clear hcz14_1
            try clear hcz17_0
            try clear hcz17_1
            try clear hcz21_0
            try clear hcz21_1
            try clear hcz23_0
            try clear hcz23_1
            try clear hcz25_0
            try clear hcz25_1
            try clear hfz11_0
            try clear hfz11_1
            try clear hfz14_0
            try clear hfz14_1
            try clear hfz17_0
            try clear hfz17_1
            try clear hfz21_0
            try clear hfz21_1
            try clear hfz23_0
            try clear hfz23_1
            try clear hfz25_0
            try clear hfz25_1
            try clear hx154_0
            try clear hx154_1
            try clear p154
            try clear p2
            try clear q154
            obtain ⟨kq, x56_26, rfl, HA, HJ26, HB⟩ := hcut
            cases kq with
            | zero => exact absurd HA.out (by simp [laws_FnGenerated.j1])
            | succ kj26 =>
              have H := HA.out
              clear HA
              simp only [laws_FnGenerated.j1] at H
              by_cases c31 : x56_26 = true
              · subst c31
                have H1 : (some true) = some r := by rw [if_pos rfl] at H; exact H
                clear H
                have H := H1
                clear H1
                obtain rfl := Option.some.inj H
                go_wp2
                go_ret
                exact ⟨by first | rfl | (simp [errW_none, errW_some] <;> rfl) | (simp [*, errW_none, errW_some] <;> rfl), by repeat (first | (with_reducible first | exact HB.out | apply below_alloc | apply pw_below_drewN | apply below_drew1) | exact HB.out)⟩
              · replace c31 := Bool.eq_false_iff.mpr c31
                subst c31
                have H1 : ((impl_IsGenerated.f l0 a1).bind fun t157 => ((spec_IsGenerated.f kj26 l0 a1).bind fun t158 => (some (t157 == t158)))) = some r := by rw [if_neg (show ¬ (false = true) by decide)] at H; exact H
                clear H
                have H := H1
                clear H1
                replace H := Option.bind_eq_some_iff.mp H
                obtain ⟨t157, A320, H⟩ := H
                replace H : ((spec_IsGenerated.f kj26 l0 a1).bind fun t158 => (some (t157 == t158))) = some r := H
                have A32 := Aside0.mk A320
                clear A320
                replace H := Option.bind_eq_some_iff.mp H
                obtain ⟨t158, A330, H⟩ := H
                replace H : (some (t157 == t158)) = some r := H
                have A33 := Aside0.mk A330
                clear A330
                obtain rfl := Option.some.inj H
                go_wp2_with (first | ((with_reducible refine gate_callee (f := 13) rfl ?_); refine goesL_ (some 59) rfl rfl Try.func13 (by kernel_rfl) rfl #[.slice A0 l0.length c0, .int .i64 a1] rfl (by (try simp only [List.map_toArray, List.map_cons, List.map_nil]); first | done | rfl | (simp only [List.length_drop, List.length_take]; rfl)) ?_; (with_reducible refine (impl_IsGenerated.calls _ _ l0 a1 t157 _ ?side1 ?side2 A32.out).mono ?_); (case side1 => repeat (first | exact (Kd.C_below HR0.out HB.out) | (with_reducible refine Kd.C_alloc ?_ _) | (with_reducible refine Kd.C_drewN ?_ _) | (with_reducible refine Kd.C_drew ?_))); (case side2 => exact HC0.out); rintro e w34 ⟨rfl, hb⟩; refine ⟨_, rfl, ?_⟩; have n0_ := Aside0.mk (below_step (by repeat (first | (with_reducible first | exact HB.out | apply below_alloc | apply pw_below_drewN | apply below_drew1) | exact HB.out)) hb); clear HB; have HB := n0_; clear n0_; (try clear hb); (try clear hb2); (try clear hk); (try clear hi)) | ((with_reducible refine gate_callee (f := 14) rfl ?_); refine goesL_ (some 62) rfl rfl Try.func14 (by kernel_rfl) rfl #[.slice A0 l0.length c0, .int .i64 a1] rfl (by (try simp only [List.map_toArray, List.map_cons, List.map_nil]); first | done | rfl | (simp only [List.length_drop, List.length_take]; rfl)) ?_; (with_reducible refine (spec_IsGenerated.calls kj26 _ _ l0 a1 t158 _ ?side1 ?side2 A33.out).mono ?_); (case side1 => repeat (first | exact (Kd.C_below HR0.out HB.out) | (with_reducible refine Kd.C_alloc ?_ _) | (with_reducible refine Kd.C_drewN ?_ _) | (with_reducible refine Kd.C_drew ?_))); (case side2 => exact HC0.out); rintro e w35 ⟨rfl, hb⟩; refine ⟨_, rfl, ?_⟩; have n0_ := Aside0.mk (below_step (by repeat (first | (with_reducible first | exact HB.out | apply below_alloc | apply pw_below_drewN | apply below_drew1) | exact HB.out)) hb); clear HB; have HB := n0_; clear n0_; (try clear hb); (try clear hb2); (try clear hk); (try clear hi)))
                go_ret
                exact ⟨by first | rfl | (simp [errW_none, errW_some] <;> rfl) | (simp [*, errW_none, errW_some] <;> rfl), by repeat (first | (with_reducible first | exact HB.out | apply below_alloc | apply pw_below_drewN | apply below_drew1) | exact HB.out)⟩
  · replace c4 := Bool.eq_false_iff.mpr c4
    subst c4
    have H1 : (some true) = some r := by rw [if_neg (show ¬ (false = true) by decide)] at H; exact H
    clear H
    have H := H1
    clear H1
    obtain rfl := Option.some.inj H
    go_enter Try.func5, Try.ntmps5
    go_wp2_with (first | ((with_reducible refine gate_callee (f := 9) rfl ?_); refine goesL_ (some 9) rfl rfl Try.func9 (by kernel_rfl) rfl #[.slice A0 l0.length c0] rfl (by (try simp only [List.map_toArray, List.map_cons, List.map_nil]); first | done | rfl | (simp only [List.length_drop, List.length_take]; rfl)) ?_; (with_reducible refine (laws_zzFits2.calls k _ _ l0 false _ ?side1 ?side2 A3.out).mono ?_); (case side1 => repeat (first | exact HR0.out | (with_reducible refine Kd.C_alloc ?_ _) | (with_reducible refine Kd.C_drewN ?_ _) | (with_reducible refine Kd.C_drew ?_))); (case side2 => exact HC0.out); rintro e w36 ⟨rfl, hb⟩; refine ⟨_, rfl, ?_⟩; have n0_ := Aside0.mk (below_step (by repeat (first | (with_reducible first | exact HB.out | apply below_alloc | apply pw_below_drewN | apply below_drew1) | exact HB.out)) hb); clear HB; have HB := n0_; clear n0_; (try clear hb); (try clear hb2); (try clear hk); (try clear hi)))
    go_ret
    exact ⟨by first | rfl | (simp [errW_none, errW_some] <;> rfl) | (simp [*, errW_none, errW_some] <;> rfl), by repeat (first | (with_reducible first | exact HB.out | apply below_alloc | apply pw_below_drewN | apply below_drew1) | exact HB.out)⟩

/-! ### laws_zzFits1: function 15 -/
def laws_zzFits1.l0 : Nat → List ByteArray → Int → Int → Option (Bool)
  | 0, _, _, _ => none
  | k + 1, x8, x9, x10 => if x10 < x9 then (if 0 ≤ x10 then (if x10 < (x8.length : Int) then (if ((rdOf ByteArray.empty x8 x10).size : Int) > 2147483647 then (some false) else (laws_zzFits1.l0 k x8 x9 (wrap64 (x10 + 1)))) else (none)) else (none)) else (some true)
def laws_zzFits1.f (k : Nat) (l0 : List ByteArray) : Option (Bool) := if (l0.length : Int) > 2147483647 then (some false) else (laws_zzFits1.l0 k l0 (l0.length : Int) 0)
theorem laws_zzFits1.mono_l : ∀ k, (∀ y0 y1 y2, LeO (laws_zzFits1.l0 k y0 y1 y2) (laws_zzFits1.l0 (k + 1) y0 y1 y2))
  | 0 => fun _ _ _ r h => by simp [laws_zzFits1.l0] at h
  | k + 1 => by
    have ih0 := laws_zzFits1.mono_l k
    · intro y0 y1 y2
      unfold laws_zzFits1.l0
      repeat' first
      | (with_reducible exact ih0 _ _ _)
      | (with_reducible exact LeO.refl _)
      | (with_reducible exact LeO.none _)
      | (with_reducible refine LeO.ite ?_ ?_)
      | (with_reducible refine LeO.bind ?_ (fun _ => ?_))
      | exact ih0 _ _ _
      | exact LeO.none _
      | refine LeO.ite ?_ ?_
      | refine LeO.bind ?_ (fun _ => ?_)
theorem laws_zzFits1.mono : ∀ a0 k, LeO (laws_zzFits1.f k a0) (laws_zzFits1.f (k + 1) a0) := by
  intro a0 k
  have ih0 := laws_zzFits1.mono_l k
  unfold laws_zzFits1.f
  repeat' first
      | (with_reducible exact ih0 _ _ _)
      | (with_reducible exact LeO.refl _)
      | (with_reducible exact LeO.none _)
      | (with_reducible refine LeO.ite ?_ ?_)
      | (with_reducible refine LeO.bind ?_ (fun _ => ?_))
      | exact ih0 _ _ _
      | exact LeO.none _
      | refine LeO.ite ?_ ?_
      | refine LeO.bind ?_ (fun _ => ?_)
set_option maxHeartbeats 8000000 in
set_option maxRecDepth 100000 in
theorem laws_zzFits1.calls (k : Nat) (A0 : Option Addr) (c0 : Nat) (l0 : List ByteArray) (r : Bool) (w : World) (hr0 : Kd.C Kd.string w A0 l0.length l0) (hc0 : l0.length ≤ c0) (h : laws_zzFits1.f k l0 = some r) :
    Calls Try.prog 15 #[.slice A0 l0.length c0] w fun e w' => e = .returned (.bool r) ∧ Drawn0 w w' := by
  have HR0 := Aside0.mk hr0
  have HC0 := Aside0.mk hc0
  clear hr0 hc0
  have H : (if (l0.length : Int) > 2147483647 then (some false) else (laws_zzFits1.l0 k l0 (l0.length : Int) 0)) = some r := h
  clear h
  by_cases c2 : (l0.length : Int) > 2147483647
  · rw [if_pos c2] at H
    have c2b0 : decide (2147483647 < (l0.length : Int)) = true := decide_eq_true c2
    have c2b1 : decide (2147483647 < l0.length) = true := decide_eq_true (by omega)
    clear c2
    obtain rfl := Option.some.inj H
    go_enter Try.func15, Try.ntmps15
    go_wp2
    go_ret
    exact ⟨by first | rfl | (simp; done) | (simp [*]; done), by repeat (first | exact Drawn0.refl _ | apply Drawn0.step)⟩
  · rw [if_neg c2] at H
    have c2b0 : decide (2147483647 < (l0.length : Int)) = false := decide_eq_false c2
    have c2b1 : decide (2147483647 < l0.length) = false := decide_eq_false (by omega)
    clear c2
    have H' := Aside0.mk H
    clear H
    go_enter Try.func15, Try.ntmps15
    go_wp2
    go_loopg [10] k (fun kq v10 w' => ∃ (x10_1 : Int), v10 = .int .i64 x10_1 ∧ Aside0 (laws_zzFits1.l0 kq l0 (l0.length : Int) x10_1 = some r) ∧ Aside0 (kq ≤ k) ∧ Drawn0 w w')
    case atStart => exact ⟨(0), (by first | rfl | (simp; done) | (simp [*]; done)), H', ⟨Nat.le_refl _⟩, by repeat (first | exact Drawn0.refl _ | apply Drawn0.step)⟩
    case round =>
      clear H'
      try clear c1
      try clear c2
      try clear c2b0
      try clear c2b1
      try clear p2
      obtain ⟨x10_1, rfl, HA, HK1, ⟨m1, rfl⟩⟩ := hrel
      cases gk with
      | zero => exact absurd HA.out (by simp [laws_zzFits1.l0])
      | succ k1 =>
        have H := HA.out
        clear HA
        simp only [laws_zzFits1.l0] at H
        by_cases c3 : x10_1 < (l0.length : Int)
        · rw [if_pos c3] at H
          have c3b0 : decide (x10_1 < (l0.length : Int)) = true := decide_eq_true c3
          clear c3
          by_cases c4 : 0 ≤ x10_1
          · rw [if_pos c4] at H
            have c4b0 : decide (0 ≤ x10_1) = true := decide_eq_true c4
            clear c4
            by_cases c5 : x10_1 < (l0.length : Int)
            · rw [if_pos c5] at H
              have c5b0 : decide (x10_1 < (l0.length : Int)) = true := decide_eq_true c5
              clear c5
              by_cases c6 : ((rdOf ByteArray.empty l0 x10_1).size : Int) > 2147483647
              · rw [if_pos c6] at H
                have c6b0 : decide (2147483647 < ((rdOf ByteArray.empty l0 x10_1).size : Int)) = true := decide_eq_true c6
                have c6b1 : decide (2147483647 < (rdOf ByteArray.empty l0 x10_1).size) = true := decide_eq_true (by omega)
                clear c6
                obtain rfl := Option.some.inj H
                have p159 : 0 ≤ (x10_1 : Int) := of_decide_eq_true (by first | (with_reducible assumption) | assumption)
                have q159 : x10_1 < (l0.length : Int) := of_decide_eq_true (by first | (with_reducible assumption) | assumption)
                obtain ⟨ad159, e159, hx159_0⟩ := Kd.at_string HR0.out x10_1 p159 q159
                cases e159
                replace p159 := eq_true p159
                replace q159 := eq_true q159
                go_wp2
                go_ret
                exact ⟨by first | rfl | (simp; done) | (simp [*]; done), by repeat (first | exact Drawn0.refl _ | apply Drawn0.step)⟩
              · rw [if_neg c6] at H
                have c6b0 : decide (2147483647 < ((rdOf ByteArray.empty l0 x10_1).size : Int)) = false := decide_eq_false c6
                have c6b1 : decide (2147483647 < (rdOf ByteArray.empty l0 x10_1).size) = false := decide_eq_false (by omega)
                clear c6
                have H' := Aside0.mk H
                clear H
                have p159 : 0 ≤ (x10_1 : Int) := of_decide_eq_true (by first | (with_reducible assumption) | assumption)
                have q159 : x10_1 < (l0.length : Int) := of_decide_eq_true (by first | (with_reducible assumption) | assumption)
                obtain ⟨ad159, e159, hx159_0⟩ := Kd.at_string HR0.out x10_1 p159 q159
                cases e159
                replace p159 := eq_true p159
                replace q159 := eq_true q159
                go_wp2
                go_roundg k1
                case measure => have := HK1.out; omega
                case rel => exact ⟨(wrap64 (x10_1 + 1)), (by first | rfl | (simp; done) | (simp [*]; done)), H', ⟨by have := HK1.out; omega⟩, by repeat (first | exact Drawn0.refl _ | apply Drawn0.step)⟩
            · rw [if_neg c5] at H
              exact absurd H (by simp)
          · rw [if_neg c4] at H
            exact absurd H (by simp)
        · rw [if_neg c3] at H
          have c3b0 : decide (x10_1 < (l0.length : Int)) = false := decide_eq_false c3
          clear c3
          obtain rfl := Option.some.inj H
          go_wp2
          go_ret
          exact ⟨by first | rfl | (simp; done) | (simp [*]; done), by repeat (first | exact Drawn0.refl _ | apply Drawn0.step)⟩

end Go.Proofs.Yteaelkeiocogfaa.A
