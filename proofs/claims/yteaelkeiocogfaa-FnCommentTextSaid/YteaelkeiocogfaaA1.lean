-- Written by a program of this session (gprint.py) out of the kit's print of the translation. Not trusted: Lean checks it.
import Derived.Test.YteaelkeiocogfaaA0
import Derived.Test.YteaelkeiocogfaaGNum
import Derived.Test.YteaelkeiocogfaaGSpan
namespace Go.Proofs.Yteaelkeiocogfaa.A
open Go.RowKit Go.Proofs.YteaelkeiocogfaaW.PrintWords Go.Proofs.YteaelkeiocogfaaW.PrintLast Go.Proofs.YteaelkeiocogfaaW.PrintMore
attribute [local go_sem] max2_int min2_int max_two min_two max_three min_three max_four min_four   -- for this text's walks alone
set_option linter.unusedVariables false
set_option linter.unusedSimpArgs false

/-! ### laws_zzFits3: function 20 -/
def laws_zzFits3.f (a0_0 : Int) (a0_1 : ByteArray) : Option (Bool) := if (a0_1.size : Int) > 2147483647 then (some false) else (some true)
set_option maxHeartbeats 8000000 in
set_option maxRecDepth 100000 in
theorem laws_zzFits3.calls (a0_0 : Int) (a0_1 : ByteArray) (r : Bool) (w : World) (h : laws_zzFits3.f a0_0 a0_1 = some r) :
    Calls Try.prog 20 #[.agg #[.int .i64 a0_0, .string a0_1]] w fun e w' => e = .returned (.bool r) ∧ Below w.heap.size w w' := by
  have hu25 := Try.underlying25
  have HB := Aside0.mk (Below.refl w.heap.size w)
  have H : (if (a0_1.size : Int) > 2147483647 then (some false) else (some true)) = some r := h
  clear h
  by_cases c2 : (a0_1.size : Int) > 2147483647
  · rw [if_pos c2] at H
    have c2b0 : decide (2147483647 < (a0_1.size : Int)) = true := decide_eq_true c2
    have c2b1 : decide (2147483647 < a0_1.size) = true := decide_eq_true (by omega)
    clear c2
    obtain rfl := Option.some.inj H
    go_enter Try.func20, Try.ntmps20
    go_wp2_with (first | ((with_reducible refine gate_dst (N := 1) rfl ?_); refine box_event ?hg (N := 1) ?hd (cs := #[.int .i64 a0_0, .string a0_1]) (t := 25) ?hr ?_; (case hd => rfl); (case hg => rfl); (case hr => first | (go_simp; done) | (go_simp; rfl)); intro gb101 hg w3 hbox hb; have n0_ := Aside0.mk (below_step (by repeat (first | (with_reducible first | exact HB.out | apply below_alloc | apply pw_below_drewN | apply below_drew1) | exact HB.out)) hb); have n1_ := Aside0.mk (hbox); have n2_ := Aside0.mk ((by rw [hg]; exact (below_size (by repeat (first | (with_reducible first | exact HB.out | apply below_alloc | apply pw_below_drewN | apply below_drew1) | exact HB.out))) : w.heap.size ≤ gb101)); have n3_ := Aside0.mk ((by rw [hg]; exact (below_size (by repeat (first | (with_reducible first | exact HB.out | apply below_alloc | apply pw_below_drewN | apply below_drew1) | exact HB.out))) : w.heap.size ≤ gb101)); clear HB; have HB := n0_; have BK101 := n1_; have GW101 := n2_; have GE101 := n3_; clear n0_ n1_ n2_ n3_; clear hb hbox hg; have hcz4_0 : w3.cell? ⟨gb101, 0, none⟩ = some (.int .i64 a0_0) := (blk_cell BK101.out 0).trans rfl; have hcz4_1 : w3.cell? ⟨gb101, 1, none⟩ = some (.string a0_1) := (blk_cell BK101.out 1).trans rfl; have hfz4_0 := blk_frozen BK101.out 0; have hfz4_1 := blk_frozen BK101.out 1))
    go_ret
    exact ⟨by first | rfl | (simp [errW_none, errW_some] <;> rfl) | (simp [*, errW_none, errW_some] <;> rfl), by repeat (first | (with_reducible first | exact HB.out | apply below_alloc | apply pw_below_drewN | apply below_drew1 | refine below_set ?_ GE101.out) | exact HB.out)⟩
  · rw [if_neg c2] at H
    have c2b0 : decide (2147483647 < (a0_1.size : Int)) = false := decide_eq_false c2
    have c2b1 : decide (2147483647 < a0_1.size) = false := decide_eq_false (by omega)
    clear c2
    obtain rfl := Option.some.inj H
    go_enter Try.func20, Try.ntmps20
    go_wp2_with (first | ((with_reducible refine gate_dst (N := 1) rfl ?_); refine box_event ?hg (N := 1) ?hd (cs := #[.int .i64 a0_0, .string a0_1]) (t := 25) ?hr ?_; (case hd => rfl); (case hg => rfl); (case hr => first | (go_simp; done) | (go_simp; rfl)); intro gb101 hg w5 hbox hb; have n0_ := Aside0.mk (below_step (by repeat (first | (with_reducible first | exact HB.out | apply below_alloc | apply pw_below_drewN | apply below_drew1) | exact HB.out)) hb); have n1_ := Aside0.mk (hbox); have n2_ := Aside0.mk ((by rw [hg]; exact (below_size (by repeat (first | (with_reducible first | exact HB.out | apply below_alloc | apply pw_below_drewN | apply below_drew1) | exact HB.out))) : w.heap.size ≤ gb101)); have n3_ := Aside0.mk ((by rw [hg]; exact (below_size (by repeat (first | (with_reducible first | exact HB.out | apply below_alloc | apply pw_below_drewN | apply below_drew1) | exact HB.out))) : w.heap.size ≤ gb101)); clear HB; have HB := n0_; have BK101 := n1_; have GW101 := n2_; have GE101 := n3_; clear n0_ n1_ n2_ n3_; clear hb hbox hg; have hcz6_0 : w5.cell? ⟨gb101, 0, none⟩ = some (.int .i64 a0_0) := (blk_cell BK101.out 0).trans rfl; have hcz6_1 : w5.cell? ⟨gb101, 1, none⟩ = some (.string a0_1) := (blk_cell BK101.out 1).trans rfl; have hfz6_0 := blk_frozen BK101.out 0; have hfz6_1 := blk_frozen BK101.out 1))
    go_ret
    exact ⟨by first | rfl | (simp [errW_none, errW_some] <;> rfl) | (simp [*, errW_none, errW_some] <;> rfl), by repeat (first | (with_reducible first | exact HB.out | apply below_alloc | apply pw_below_drewN | apply below_drew1 | refine below_set ?_ GE101.out) | exact HB.out)⟩

/-! ### laws_zzFits2: function 9 -/
def laws_zzFits2.l0 : Nat → List (S25) → Int → Int → Option (Bool)
  | 0, _, _, _ => none
  | k + 1, x8, x9, x10 => if x10 < x9 then (if 0 ≤ x10 then (if x10 < (x8.length : Int) then ((laws_zzFits3.f ((rd_T25 x8 x10).f0) ((rd_T25 x8 x10).f1)).bind fun t104 => (if t104 = true then (laws_zzFits2.l0 k x8 x9 (wrap64 (x10 + 1))) else (some false))) else (none)) else (none)) else (some true)
def laws_zzFits2.f (k : Nat) (l0 : List (S25)) : Option (Bool) := if (l0.length : Int) > 2147483647 then (some false) else (laws_zzFits2.l0 k l0 (l0.length : Int) 0)
theorem laws_zzFits2.mono_l : ∀ k, (∀ y0 y1 y2, LeO (laws_zzFits2.l0 k y0 y1 y2) (laws_zzFits2.l0 (k + 1) y0 y1 y2))
  | 0 => fun _ _ _ r h => by simp [laws_zzFits2.l0] at h
  | k + 1 => by
    have ih0 := laws_zzFits2.mono_l k
    · intro y0 y1 y2
      unfold laws_zzFits2.l0
      repeat' first
      | (with_reducible exact ih0 _ _ _)
      | (with_reducible exact LeO.refl _)
      | (with_reducible exact LeO.none _)
      | (with_reducible refine LeO.ite ?_ ?_)
      | (with_reducible refine LeO.bind ?_ (fun _ => ?_))
      | exact ih0 _ _ _
      | exact LeO.none _
      | refine LeO.ite ?_ ?_
      | refine LeO.bind ?_ (fun _ => ?_)
theorem laws_zzFits2.mono : ∀ a0 k, LeO (laws_zzFits2.f k a0) (laws_zzFits2.f (k + 1) a0) := by
  intro a0 k
  have ih0 := laws_zzFits2.mono_l k
  unfold laws_zzFits2.f
  repeat' first
      | (with_reducible exact ih0 _ _ _)
      | (with_reducible exact LeO.refl _)
      | (with_reducible exact LeO.none _)
      | (with_reducible refine LeO.ite ?_ ?_)
      | (with_reducible refine LeO.bind ?_ (fun _ => ?_))
      | exact ih0 _ _ _
      | exact LeO.none _
      | refine LeO.ite ?_ ?_
      | refine LeO.bind ?_ (fun _ => ?_)
set_option maxHeartbeats 8000000 in
set_option maxRecDepth 100000 in
theorem laws_zzFits2.calls (k : Nat) (A0 : Option Addr) (c0 : Nat) (l0 : List (S25)) (r : Bool) (w : World) (hr0 : Kd.C k25 w A0 l0.length l0) (hc0 : l0.length ≤ c0) (h : laws_zzFits2.f k l0 = some r) :
    Calls Try.prog 9 #[.slice A0 l0.length c0] w fun e w' => e = .returned (.bool r) ∧ Below w.heap.size w w' := by
  have hu25 := Try.underlying25
  have HR0 := Aside0.mk hr0
  have HC0 := Aside0.mk hc0
  clear hr0 hc0
  have HB := Aside0.mk (Below.refl w.heap.size w)
  have H : (if (l0.length : Int) > 2147483647 then (some false) else (laws_zzFits2.l0 k l0 (l0.length : Int) 0)) = some r := h
  clear h
  by_cases c2 : (l0.length : Int) > 2147483647
  · rw [if_pos c2] at H
    have c2b0 : decide (2147483647 < (l0.length : Int)) = true := decide_eq_true c2
    have c2b1 : decide (2147483647 < l0.length) = true := decide_eq_true (by omega)
    clear c2
    obtain rfl := Option.some.inj H
    go_enter Try.func9, Try.ntmps9
    go_wp2
    go_ret
    exact ⟨by first | rfl | (simp [errW_none, errW_some] <;> rfl) | (simp [*, errW_none, errW_some] <;> rfl), by repeat (first | (with_reducible first | exact HB.out | apply below_alloc | apply pw_below_drewN | apply below_drew1) | exact HB.out)⟩
  · rw [if_neg c2] at H
    have c2b0 : decide (2147483647 < (l0.length : Int)) = false := decide_eq_false c2
    have c2b1 : decide (2147483647 < l0.length) = false := decide_eq_false (by omega)
    clear c2
    have H' := Aside0.mk H
    clear H
    go_enter Try.func9, Try.ntmps9
    go_wp2
    go_loopg [10] k (fun kq v10 w' => ∃ (x10_1 : Int), v10 = .int .i64 x10_1 ∧ Aside0 (laws_zzFits2.l0 kq l0 (l0.length : Int) x10_1 = some r) ∧ Aside0 (kq ≤ k) ∧ Aside0 (Below w.heap.size w w'))
    case atStart => exact ⟨(0), (by first | rfl | (simp; done) | (simp [*]; done)), H', ⟨Nat.le_refl _⟩, ⟨by repeat (first | (with_reducible first | exact HB.out | apply below_alloc | apply pw_below_drewN | apply below_drew1) | exact HB.out)⟩⟩
    case round =>
      clear H'
      try clear c2
      try clear c2b0
      try clear c2b1
      try clear p2
      obtain ⟨x10_1, rfl, HA, HK1, HB⟩ := hrel
      cases gk with
      | zero => exact absurd HA.out (by simp [laws_zzFits2.l0])
      | succ k1 =>
        have H := HA.out
        clear HA
        simp only [laws_zzFits2.l0] at H
        by_cases c3 : x10_1 < (l0.length : Int)
        · rw [if_pos c3] at H
          have c3b0 : decide (x10_1 < (l0.length : Int)) = true := decide_eq_true c3
          clear c3
          by_cases c4 : 0 ≤ x10_1
          · rw [if_pos c4] at H
            have c4b0 : decide (0 ≤ x10_1) = true := decide_eq_true c4
            clear c4
            by_cases c5 : x10_1 < (l0.length : Int)
            · rw [if_pos c5] at H
              have c5b0 : decide (x10_1 < (l0.length : Int)) = true := decide_eq_true c5
              clear c5
              replace H := Option.bind_eq_some_iff.mp H
              obtain ⟨t104, A60, H⟩ := H
              replace H : (if t104 = true then (laws_zzFits2.l0 k1 l0 (l0.length : Int) (wrap64 (x10_1 + 1))) else (some false)) = some r := H
              have A6 := Aside0.mk A60
              clear A60
              by_cases c7 : t104 = true
              · subst c7
                have H1 : (laws_zzFits2.l0 k1 l0 (l0.length : Int) (wrap64 (x10_1 + 1))) = some r := by rw [if_pos rfl] at H; exact H
                clear H
                have H := H1
                clear H1
                have H' := Aside0.mk H
                clear H
                have p102 : 0 ≤ (x10_1 : Int) := of_decide_eq_true (by first | (with_reducible assumption) | assumption)
                have q102 : x10_1 < (l0.length : Int) := of_decide_eq_true (by first | (with_reducible assumption) | assumption)
                obtain ⟨ad102, e102, hx102_0, hx102_1⟩ := at_T25 HR0.out x10_1 p102 q102
                cases e102
                replace hx102_0 := (HB.out.cell (World.block_lt_of_cell? w _ hx102_0)).trans hx102_0
                replace hx102_1 := (HB.out.cell (World.block_lt_of_cell? w _ hx102_1)).trans hx102_1
                replace p102 := eq_true p102
                replace q102 := eq_true q102
                go_wp2_with (first | ((with_reducible refine gate_dst (N := 4) rfl ?_); refine box_event ?hg (N := 4) ?hd (cs := #[.int .i64 0, .string (⟨#[]⟩ : ByteArray)]) (t := 25) ?hr ?_; (case hd => rfl); (case hg => rfl); (case hr => first | (go_simp; done) | (go_simp; rfl)); intro gb103 hg w8 hbox hb; have n0_ := Aside0.mk (below_step (by repeat (first | (with_reducible first | exact HB.out | apply below_alloc | apply pw_below_drewN | apply below_drew1) | exact HB.out)) hb); have n1_ := Aside0.mk (hbox); have n2_ := Aside0.mk ((by rw [hg]; exact (below_size (by repeat (first | (with_reducible first | exact HB.out | apply below_alloc | apply pw_below_drewN | apply below_drew1) | exact HB.out))) : w.heap.size ≤ gb103)); have n3_ := Aside0.mk ((by rw [hg]; exact (below_size (by repeat (first | (with_reducible first | exact HB.out | apply below_alloc | apply pw_below_drewN | apply below_drew1) | exact HB.out))) : w.heap.size ≤ gb103)); clear HB; have HB := n0_; have BK103 := n1_; have GW103 := n2_; have GE103 := n3_; clear n0_ n1_ n2_ n3_; clear hb hbox hg; have hcz9_0 : w8.cell? ⟨gb103, 0, none⟩ = some (.int .i64 0) := (blk_cell BK103.out 0).trans rfl; have hcz9_1 : w8.cell? ⟨gb103, 1, none⟩ = some (.string (⟨#[]⟩ : ByteArray)) := (blk_cell BK103.out 1).trans rfl; have hfz9_0 := blk_frozen BK103.out 0; have hfz9_1 := blk_frozen BK103.out 1) | ((with_reducible refine gate_callee (f := 20) rfl ?_); refine goesL_ (some 15) rfl rfl Try.func20 (by kernel_rfl) rfl #[.agg #[.int .i64 ((rd_T25 l0 x10_1).f0), .string ((rd_T25 l0 x10_1).f1)]] rfl (by (try simp only [List.map_toArray, List.map_cons, List.map_nil]); first | done | rfl | (simp only [List.length_drop, List.length_take]; rfl)) ?_; (with_reducible refine (laws_zzFits3.calls ((rd_T25 l0 x10_1).f0) ((rd_T25 l0 x10_1).f1) true _ A6.out).mono ?_); rintro e w10 ⟨rfl, hb⟩; refine ⟨_, rfl, ?_⟩; have n0_ := Aside0.mk (blk_below (g := gb103) (o := .cells #[.int .i64 ((rd_T25 l0 x10_1).f0), .string ((rd_T25 l0 x10_1).f1)] 25 (0, 0)) (by (with_reducible repeat (first | refine blk_drewN ?_ _ | refine blk_drew ?_ | refine blk_alloc ?_ _)); refine blk_put (cs := #[.int .i64 ((rd_T25 l0 x10_1).f0), .string (⟨#[]⟩ : ByteArray)]) ?_ 1 _ rfl; (with_reducible repeat (first | refine blk_drewN ?_ _ | refine blk_drew ?_ | refine blk_alloc ?_ _)); refine blk_put (cs := #[.int .i64 0, .string (⟨#[]⟩ : ByteArray)]) ?_ 0 _ rfl; (with_reducible repeat (first | refine blk_drewN ?_ _ | refine blk_drew ?_ | refine blk_alloc ?_ _)); exact BK103.out) hb); have n1_ := Aside0.mk (below_step (by repeat (first | (with_reducible first | exact HB.out | apply below_alloc | apply pw_below_drewN | apply below_drew1 | refine below_set ?_ GE103.out) | exact HB.out)) hb); clear BK103; clear HB; have BK103 := n0_; have HB := n1_; clear n0_ n1_; (try clear hb); (try clear hb2); (try clear hk); (try clear hi)))
                go_roundg k1
                case measure => have := HK1.out; omega
                case rel => exact ⟨(wrap64 (x10_1 + 1)), (by first | rfl | (simp; done) | (simp [*]; done)), H', ⟨by have := HK1.out; omega⟩, ⟨by repeat (first | (with_reducible first | exact HB.out | apply below_alloc | apply pw_below_drewN | apply below_drew1 | refine below_set ?_ GE103.out) | exact HB.out)⟩⟩
              · replace c7 := Bool.eq_false_iff.mpr c7
                subst c7
                have H1 : (some false) = some r := by rw [if_neg (show ¬ (false = true) by decide)] at H; exact H
                clear H
                have H := H1
                clear H1
                obtain rfl := Option.some.inj H
                have p102 : 0 ≤ (x10_1 : Int) := of_decide_eq_true (by first | (with_reducible assumption) | assumption)
                have q102 : x10_1 < (l0.length : Int) := of_decide_eq_true (by first | (with_reducible assumption) | assumption)
                obtain ⟨ad102, e102, hx102_0, hx102_1⟩ := at_T25 HR0.out x10_1 p102 q102
                cases e102
                replace hx102_0 := (HB.out.cell (World.block_lt_of_cell? w _ hx102_0)).trans hx102_0
                replace hx102_1 := (HB.out.cell (World.block_lt_of_cell? w _ hx102_1)).trans hx102_1
                replace p102 := eq_true p102
                replace q102 := eq_true q102
                go_wp2_with (first | ((with_reducible refine gate_dst (N := 4) rfl ?_); refine box_event ?hg (N := 4) ?hd (cs := #[.int .i64 0, .string (⟨#[]⟩ : ByteArray)]) (t := 25) ?hr ?_; (case hd => rfl); (case hg => rfl); (case hr => first | (go_simp; done) | (go_simp; rfl)); intro gb103 hg w11 hbox hb; have n0_ := Aside0.mk (below_step (by repeat (first | (with_reducible first | exact HB.out | apply below_alloc | apply pw_below_drewN | apply below_drew1) | exact HB.out)) hb); have n1_ := Aside0.mk (hbox); have n2_ := Aside0.mk ((by rw [hg]; exact (below_size (by repeat (first | (with_reducible first | exact HB.out | apply below_alloc | apply pw_below_drewN | apply below_drew1) | exact HB.out))) : w.heap.size ≤ gb103)); have n3_ := Aside0.mk ((by rw [hg]; exact (below_size (by repeat (first | (with_reducible first | exact HB.out | apply below_alloc | apply pw_below_drewN | apply below_drew1) | exact HB.out))) : w.heap.size ≤ gb103)); clear HB; have HB := n0_; have BK103 := n1_; have GW103 := n2_; have GE103 := n3_; clear n0_ n1_ n2_ n3_; clear hb hbox hg; have hcz12_0 : w11.cell? ⟨gb103, 0, none⟩ = some (.int .i64 0) := (blk_cell BK103.out 0).trans rfl; have hcz12_1 : w11.cell? ⟨gb103, 1, none⟩ = some (.string (⟨#[]⟩ : ByteArray)) := (blk_cell BK103.out 1).trans rfl; have hfz12_0 := blk_frozen BK103.out 0; have hfz12_1 := blk_frozen BK103.out 1) | ((with_reducible refine gate_callee (f := 20) rfl ?_); refine goesL_ (some 15) rfl rfl Try.func20 (by kernel_rfl) rfl #[.agg #[.int .i64 ((rd_T25 l0 x10_1).f0), .string ((rd_T25 l0 x10_1).f1)]] rfl (by (try simp only [List.map_toArray, List.map_cons, List.map_nil]); first | done | rfl | (simp only [List.length_drop, List.length_take]; rfl)) ?_; (with_reducible refine (laws_zzFits3.calls ((rd_T25 l0 x10_1).f0) ((rd_T25 l0 x10_1).f1) false _ A6.out).mono ?_); rintro e w13 ⟨rfl, hb⟩; refine ⟨_, rfl, ?_⟩; have n0_ := Aside0.mk (blk_below (g := gb103) (o := .cells #[.int .i64 ((rd_T25 l0 x10_1).f0), .string ((rd_T25 l0 x10_1).f1)] 25 (0, 0)) (by (with_reducible repeat (first | refine blk_drewN ?_ _ | refine blk_drew ?_ | refine blk_alloc ?_ _)); refine blk_put (cs := #[.int .i64 ((rd_T25 l0 x10_1).f0), .string (⟨#[]⟩ : ByteArray)]) ?_ 1 _ rfl; (with_reducible repeat (first | refine blk_drewN ?_ _ | refine blk_drew ?_ | refine blk_alloc ?_ _)); refine blk_put (cs := #[.int .i64 0, .string (⟨#[]⟩ : ByteArray)]) ?_ 0 _ rfl; (with_reducible repeat (first | refine blk_drewN ?_ _ | refine blk_drew ?_ | refine blk_alloc ?_ _)); exact BK103.out) hb); have n1_ := Aside0.mk (below_step (by repeat (first | (with_reducible first | exact HB.out | apply below_alloc | apply pw_below_drewN | apply below_drew1 | refine below_set ?_ GE103.out) | exact HB.out)) hb); clear BK103; clear HB; have BK103 := n0_; have HB := n1_; clear n0_ n1_; (try clear hb); (try clear hb2); (try clear hk); (try clear hi)))
                go_ret
                exact ⟨by first | rfl | (simp [errW_none, errW_some] <;> rfl) | (simp [*, errW_none, errW_some] <;> rfl), by repeat (first | (with_reducible first | exact HB.out | apply below_alloc | apply pw_below_drewN | apply below_drew1 | refine below_set ?_ GE103.out) | exact HB.out)⟩
            · rw [if_neg c5] at H
              exact absurd H (by simp)
          · rw [if_neg c4] at H
            exact absurd H (by simp)
        · rw [if_neg c3] at H
          have c3b0 : decide (x10_1 < (l0.length : Int)) = false := decide_eq_false c3
          clear c3
          obtain rfl := Option.some.inj H
          go_wp2
          go_ret
          exact ⟨by first | rfl | (simp [errW_none, errW_some] <;> rfl) | (simp [*, errW_none, errW_some] <;> rfl), by repeat (first | (with_reducible first | exact HB.out | apply below_alloc | apply pw_below_drewN | apply below_drew1) | exact HB.out)⟩

-- NOT PRINTED: function 21 (impl_groupOf)

/-- A state of type 74 at block g of W; what its slices lead to came in by w0. -/
def IsS74 (w0 W : World) (g : Nat) (f0 : Int) (f1 : ByteArray) : Prop := W.heap[g]? = some (.cells #[.int .i64 f0, .string f1] 74 (0, 0)) ∧ w0.heap.size ≤ g
theorem IsS74.grown {w0 W : World} {g : Nat} {f0 : Int} {f1 : ByteArray} {W1 : World} {row : Option Nat} (h : IsS74 w0 W g f0 f1) (hw : W.grownBy W1 row) (hne : some g ≠ row) : IsS74 w0 W1 g f0 f1 := by
  obtain ⟨hb, hg⟩ := h
  exact ⟨blk_grown hb hw hne, hg⟩
theorem IsS74.own_neN {w0 W : World} {g : Nat} {f0 : Int} {f1 : ByteArray} {α : Type} {d : Kd α} {e : Nat} {base : Nat} {ok : Nat → Prop} {v : Value} {xs : List α} (h : IsS74 w0 W g f0 f1) (ho : Kd.N d e W base ok v xs) (ht : e ≠ 74) : some g ≠ v.ownBlock := by
  obtain ⟨hb, hg⟩ := h
  exact Kd.N_ne ho hb ht
theorem IsS74.fresh {w0 W : World} {g : Nat} {f0 : Int} {f1 : ByteArray} (h : IsS74 w0 W g f0 f1) : ∀ k, W.heap.size ≤ k → k ≠ g := by
  obtain ⟨hb, hg⟩ := h
  exact Kd.freshB hb
theorem IsS74.kept {w0 W : World} {g : Nat} {f0 : Int} {f1 : ByteArray} {W1 : World} {S : Nat → Prop} (h : IsS74 w0 W g f0 f1) (hk : Kept W W1 S) (hne : ¬ S g) : IsS74 w0 W1 g f0 f1 := by
  obtain ⟨hb, hg⟩ := h
  exact ⟨blk_kept hb hk hne, hg⟩
theorem IsS74.below {w0 W : World} {g : Nat} {f0 : Int} {f1 : ByteArray} {W1 : World} (h : IsS74 w0 W g f0 f1) (hw : Below W.heap.size W W1) : IsS74 w0 W1 g f0 f1 := h.grown (grown_of_below hw none) (by simp)
theorem IsS74.alloc {w0 W : World} {g : Nat} {f0 : Int} {f1 : ByteArray} (h : IsS74 w0 W g f0 f1) (o : Obj) : IsS74 w0 (W.alloc o) g f0 f1 := h.below (below_alloc (Below.refl _ _) o)
theorem IsS74.drewN {w0 W : World} {g : Nat} {f0 : Int} {f1 : ByteArray} (h : IsS74 w0 W g f0 f1) (m : Nat) : IsS74 w0 (W.drewN m) g f0 f1 := h
theorem IsS74.drew {w0 W : World} {g : Nat} {f0 : Int} {f1 : ByteArray} (h : IsS74 w0 W g f0 f1) : IsS74 w0 W.drew g f0 f1 := h
theorem IsS74.at_ {w0 W : World} {g : Nat} {f0 : Int} {f1 : ByteArray} {w' : World} {m : Nat} (hq : W.drewN m = w') (h : IsS74 w0 W g f0 f1) : IsS74 w0 w' g f0 f1 := by subst hq; exact IsS74.drewN h m
theorem IsS74.apart {w0 W : World} {g : Nat} {f0 : Int} {f1 : ByteArray} {α : Type} {d : Kd α} {e : Nat} {base : Nat} {ok : Nat → Prop} {v : Value} {xs : List α} (h : IsS74 w0 W g f0 f1) (ho : d.R e W base ok v xs) (ht : ∀ q, q ∈ e :: d.E → q ≠ 74) : d.R e W base (fun k => ok k ∧ k ≠ g) v xs := by
  obtain ⟨hb, hg⟩ := h
  exact Kd.R_types ho hb ht
theorem IsS74.own_ne {w0 W : World} {g : Nat} {f0 : Int} {f1 : ByteArray} {α : Type} {d : Kd α} {e : Nat} {base : Nat} {ok : Nat → Prop} {v : Value} {xs : List α} (h : IsS74 w0 W g f0 f1) (ho : d.R e W base ok v xs) (ht : e ≠ 74) : some g ≠ v.ownBlock := by
  obtain ⟨hb, hg⟩ := h
  exact Kd.R_ne ho hb ht
theorem IsS74.apartQ {w0 W : World} {g : Nat} {f0 : Int} {f1 : ByteArray} {α : Type} {d : Kd α} {e : Nat} {base : Nat} {ok : Nat → Prop} {v : Value} {xs : List α} (h : IsS74 w0 W g f0 f1) (ho : d.Q e W base ok v xs) (ht : ∀ q, q ∈ e :: d.E → q ≠ 74) : d.Q e W base (fun k => ok k ∧ k ≠ g) v xs := by
  obtain ⟨hb, hg⟩ := h
  exact Kd.Q_types ho hb ht
theorem IsS74.own_neQ {w0 W : World} {g : Nat} {f0 : Int} {f1 : ByteArray} {α : Type} {d : Kd α} {e : Nat} {base : Nat} {ok : Nat → Prop} {v : Value} {xs : List α} (h : IsS74 w0 W g f0 f1) (ho : d.Q e W base ok v xs) (ht : e ≠ 74) : some g ≠ v.ownBlock := by
  obtain ⟨hb, hg⟩ := h
  exact Kd.Q_ne ho hb ht
theorem IsS74.apartS {w0 W : World} {g : Nat} {f0 : Int} {f1 : ByteArray} {α : Type} {d : Kd α} {e : Nat} {base : Nat} {ok : Nat → Prop} {v : Value} {xs : List α} (h : IsS74 w0 W g f0 f1) (ho : d.S e W base ok v xs) (ht : ∀ q, q ∈ e :: d.E → q ≠ 74) : d.S e W base (fun k => ok k ∧ k ≠ g) v xs := by
  obtain ⟨hb, hg⟩ := h
  exact Kd.S_types ho hb ht
theorem IsS74.own_neS {w0 W : World} {g : Nat} {f0 : Int} {f1 : ByteArray} {α : Type} {d : Kd α} {e : Nat} {base : Nat} {ok : Nat → Prop} {v : Value} {xs : List α} (h : IsS74 w0 W g f0 f1) (ho : d.S e W base ok v xs) (ht : e ≠ 74) : some g ≠ v.ownBlock := by
  obtain ⟨hb, hg⟩ := h
  exact Kd.S_ne ho hb ht
theorem IsS74.lt {w0 W : World} {g : Nat} {f0 : Int} {f1 : ByteArray} (h : IsS74 w0 W g f0 f1) : g < W.heap.size := by
  obtain ⟨hb, hg⟩ := h
  exact blk_lt hb
theorem IsS74.ge {w0 W : World} {g : Nat} {f0 : Int} {f1 : ByteArray} (h : IsS74 w0 W g f0 f1) : w0.heap.size ≤ g := by
  obtain ⟨hb, hg⟩ := h
  exact hg
theorem IsS74.ne_blk {w0 W : World} {g : Nat} {f0 : Int} {f1 : ByteArray} {a : Nat} {cs : Array Value} {t : TypeId} {fr : Nat × Nat} (h : IsS74 w0 W g f0 f1) (hb2 : W.heap[a]? = some (.cells cs t fr)) (ht : t ≠ 74) : g ≠ a := by
  obtain ⟨hb, hg⟩ := h
  rintro rfl
  rw [hb] at hb2
  injection hb2 with hb2
  injection hb2 with _ ht2
  exact ht ht2.symm
theorem IsS74.far {w0 W : World} {g : Nat} {f0 : Int} {f1 : ByteArray} {p : Addr} (h : IsS74 w0 W g f0 f1) (hne : g ≠ p.block) (u : Value) : IsS74 w0 (W.setCell p u) g f0 f1 := by
  obtain ⟨hb, hg⟩ := h
  exact ⟨blk_far hb hne u, hg⟩
theorem cellS74_0 {W : World} {g : Nat} {f0 : Int} {f1 : ByteArray} (h : W.heap[g]? = some (.cells #[.int .i64 f0, .string f1] 74 (0, 0))) : W.cell? ⟨g, 0, none⟩ = some (.int .i64 f0) := (blk_cell h 0).trans rfl
theorem IsS74.set_0 {w0 W : World} {g : Nat} {f0 : Int} {f1 : ByteArray} (h : IsS74 w0 W g f0 f1) (x : Int) : IsS74 w0 (W.setCell ⟨g, 0, none⟩ (.int .i64 x)) g x f1 := by
  obtain ⟨hb, hg⟩ := h
  exact ⟨by simpa using blk_set hb 0 (.int .i64 x), hg⟩
theorem cellS74_1 {W : World} {g : Nat} {f0 : Int} {f1 : ByteArray} (h : W.heap[g]? = some (.cells #[.int .i64 f0, .string f1] 74 (0, 0))) : W.cell? ⟨g, 1, none⟩ = some (.string f1) := (blk_cell h 1).trans rfl
theorem IsS74.set_1 {w0 W : World} {g : Nat} {f0 : Int} {f1 : ByteArray} (h : IsS74 w0 W g f0 f1) (x : ByteArray) : IsS74 w0 (W.setCell ⟨g, 1, none⟩ (.string x)) g f0 x := by
  obtain ⟨hb, hg⟩ := h
  exact ⟨by simpa using blk_set hb 1 (.string x), hg⟩
theorem IsS74.new (w0 W : World) (f0 : Int) (f1 : ByteArray) (hB : Below w0.heap.size w0 W) : IsS74 w0 (W.alloc (.cells #[.int .i64 f0, .string f1] 74)) W.heap.size f0 f1 := ⟨by simpa using heap_alloc_new W _, hB.size⟩

/-! ### goprinter_go_ast_Comment_Pos: function 35 -/
def goprinter_go_ast_Comment_Pos.f (s0_0 : Int) (s0_1 : ByteArray) : Option (Int × Int × ByteArray) := some (s0_0, s0_0, s0_1)
set_option maxHeartbeats 8000000 in
set_option maxRecDepth 100000 in
theorem goprinter_go_ast_Comment_Pos.calls (g : Nat) (s0_0 : Int) (s0_1 : ByteArray) (r1 : Int) (r2 : Int) (r3 : ByteArray) (w0 w : World) (hI : IsS74 w0 w g s0_0 s0_1) (hB : Below w0.heap.size w0 w) (h : goprinter_go_ast_Comment_Pos.f s0_0 s0_1 = some (r1, r2, r3)) :
    Calls Try.prog 35 #[.pointer (some ⟨g, 0, none⟩)] w fun e w' => e = .returned (.int .i64 r1) ∧ IsS74 w0 w' g r2 r3 ∧ Below w0.heap.size w0 w' ∧ KeepBut w w' g none := by
  have HI0 := Aside0.mk hI
  have HK := Aside0.mk (KeepBut.refl w g none)
  have HL := Aside0.mk hB.size
  clear hI
  have HW0 := Aside0.mk hB.size
  have HB := Aside0.mk hB
  clear hB
  have H : (some (s0_0, s0_0, s0_1)) = some (r1, r2, r3) := h
  clear h
  simp only [Option.some.injEq, Prod.mk.injEq] at H
  obtain ⟨rfl, rfl, rfl⟩ := H
  obtain ⟨HGz2, hgz2⟩ := HI0.out
  have hcz2_0 := cellS74_0 HGz2
  have hcz2_1 := cellS74_1 HGz2
  have hfz2_0 := blk_frozen HGz2 0
  have hfz2_1 := blk_frozen HGz2 1
  clear HGz2 hgz2
  go_enter Try.func35, Try.ntmps35
  go_wp2
  go_ret
  exact ⟨by first | rfl | (simp [errW_none, errW_some] <;> rfl) | (simp [*, errW_none, errW_some] <;> rfl), by repeat (first | (with_reducible first | exact HI0.out | apply IsS74.alloc | apply IsS74.drewN | apply IsS74.drew | apply IsS74.set_0 | apply IsS74.set_1) | exact HI0.out), by repeat (first | (with_reducible first | exact HB.out | apply below_alloc | apply pw_below_drewN | apply below_drew1 | refine below_set ?_ (IsS74.ge HI0.out)) | exact HB.out), by repeat (first | (with_reducible first | exact HK.out | apply KeepBut.set_ | apply keep_drewN | apply keep_drew | apply keep_alloc) | exact HK.out)⟩

-- NOT PRINTED: function 22 (goprinter_go_ast_CommentGroup_Pos)

/-! ### goprinter_go_ast_Comment_End: function 36 -/
def goprinter_go_ast_Comment_End.f (s0_0 : Int) (s0_1 : ByteArray) : Option (Int × Int × ByteArray) := some (wrap64 (s0_0 + (s0_1.size : Int)), s0_0, s0_1)
set_option maxHeartbeats 8000000 in
set_option maxRecDepth 100000 in
theorem goprinter_go_ast_Comment_End.calls (g : Nat) (s0_0 : Int) (s0_1 : ByteArray) (r1 : Int) (r2 : Int) (r3 : ByteArray) (w0 w : World) (hI : IsS74 w0 w g s0_0 s0_1) (hB : Below w0.heap.size w0 w) (h : goprinter_go_ast_Comment_End.f s0_0 s0_1 = some (r1, r2, r3)) :
    Calls Try.prog 36 #[.pointer (some ⟨g, 0, none⟩)] w fun e w' => e = .returned (.int .i64 r1) ∧ IsS74 w0 w' g r2 r3 ∧ Below w0.heap.size w0 w' ∧ KeepBut w w' g none := by
  have HI0 := Aside0.mk hI
  have HK := Aside0.mk (KeepBut.refl w g none)
  have HL := Aside0.mk hB.size
  clear hI
  have HW0 := Aside0.mk hB.size
  have HB := Aside0.mk hB
  clear hB
  have H : (some (wrap64 (s0_0 + (s0_1.size : Int)), s0_0, s0_1)) = some (r1, r2, r3) := h
  clear h
  simp only [Option.some.injEq, Prod.mk.injEq] at H
  obtain ⟨rfl, rfl, rfl⟩ := H
  obtain ⟨HGz2, hgz2⟩ := HI0.out
  have hcz2_0 := cellS74_0 HGz2
  have hcz2_1 := cellS74_1 HGz2
  have hfz2_0 := blk_frozen HGz2 0
  have hfz2_1 := blk_frozen HGz2 1
  clear HGz2 hgz2
  go_enter Try.func36, Try.ntmps36
  go_wp2
  repeat (go_quiet (fail); try go_wp2)
  go_ret
  exact ⟨by first | rfl | (simp [errW_none, errW_some] <;> rfl) | (simp [*, errW_none, errW_some] <;> rfl), by repeat (first | (with_reducible first | exact HI0.out | apply IsS74.alloc | apply IsS74.drewN | apply IsS74.drew | apply IsS74.set_0 | apply IsS74.set_1) | exact HI0.out), by repeat (first | (with_reducible first | exact HB.out | apply below_alloc | apply pw_below_drewN | apply below_drew1 | refine below_set ?_ (IsS74.ge HI0.out)) | exact HB.out), by repeat (first | (with_reducible first | exact HK.out | apply KeepBut.set_ | apply keep_drewN | apply keep_drew | apply keep_alloc) | exact HK.out)⟩

-- NOT PRINTED: function 23 (goprinter_go_ast_CommentGroup_End)

-- GIVEN: function 10 (impl_CommentSpan)

/-! ### laws_FnCommentSpan: function 3 -/
def laws_FnCommentSpan.l0 : Nat → List (S25) → List (S25) → Int → Int → Option (Bool)
  | 0, _, _, _, _ => none
  | k + 1, x0, x11, x12, x13 => if x13 < x12 then (if 0 ≤ x13 then (if x13 < (x11.length : Int) then (if ((rd_T25 x11 x13).f0) < 1 then (some true) else (if ((rd_T25 x11 x13).f0) > 1000000 then (some true) else (if (((rd_T25 x11 x13).f1).size : Int) > 1000 then (some true) else (laws_FnCommentSpan.l0 k x0 x11 x12 (wrap64 (x13 + 1)))))) else (none)) else (none)) else (if (x0.length : Int) = 0 then (some true) else (if (x0.length : Int) > 50 then (some true) else ((impl_CommentSpan.f x0).bind fun bt108 => (if 0 ≤ (wrap64 ((x0.length : Int) - 1)) then (if (wrap64 ((x0.length : Int) - 1)) < (x0.length : Int) then (if 0 < (x0.length : Int) then (if bt108.1 = ((rd_T25 x0 0).f0) then (some (bt108.2 == (wrap64 (((rd_T25 x0 (wrap64 ((x0.length : Int) - 1))).f0) + (((rd_T25 x0 (wrap64 ((x0.length : Int) - 1))).f1).size : Int))))) else (some false)) else (none)) else (none)) else (none)))))
def laws_FnCommentSpan.f (k : Nat) (l0 : List (S25)) : Option (Bool) := (laws_zzFits2.f k l0).bind fun t105 => (if t105 = true then (laws_FnCommentSpan.l0 k l0 l0 (l0.length : Int) 0) else (some true))
theorem laws_FnCommentSpan.mono_l : ∀ k, (∀ y0 y1 y2 y3, LeO (laws_FnCommentSpan.l0 k y0 y1 y2 y3) (laws_FnCommentSpan.l0 (k + 1) y0 y1 y2 y3))
  | 0 => fun _ _ _ _ r h => by simp [laws_FnCommentSpan.l0] at h
  | k + 1 => by
    have ih0 := laws_FnCommentSpan.mono_l k
    · intro y0 y1 y2 y3
      unfold laws_FnCommentSpan.l0
      repeat' first
      | (with_reducible exact ih0 _ _ _ _)
      | (with_reducible exact laws_zzFits2.mono _ _)
      | (with_reducible exact LeO.refl _)
      | (with_reducible exact LeO.none _)
      | (with_reducible refine LeO.ite ?_ ?_)
      | (with_reducible refine LeO.bind ?_ (fun _ => ?_))
      | exact ih0 _ _ _ _
      | exact laws_zzFits2.mono _ _
      | exact LeO.none _
      | refine LeO.ite ?_ ?_
      | refine LeO.bind ?_ (fun _ => ?_)
theorem laws_FnCommentSpan.mono : ∀ a0 k, LeO (laws_FnCommentSpan.f k a0) (laws_FnCommentSpan.f (k + 1) a0) := by
  intro a0 k
  have ih0 := laws_FnCommentSpan.mono_l k
  unfold laws_FnCommentSpan.f
  repeat' first
      | (with_reducible exact ih0 _ _ _ _)
      | (with_reducible exact laws_zzFits2.mono _ _)
      | (with_reducible exact LeO.refl _)
      | (with_reducible exact LeO.none _)
      | (with_reducible refine LeO.ite ?_ ?_)
      | (with_reducible refine LeO.bind ?_ (fun _ => ?_))
      | exact ih0 _ _ _ _
      | exact laws_zzFits2.mono _ _
      | exact LeO.none _
      | refine LeO.ite ?_ ?_
      | refine LeO.bind ?_ (fun _ => ?_)
set_option maxHeartbeats 8000000 in
set_option maxRecDepth 100000 in
theorem laws_FnCommentSpan.calls (k : Nat) (A0 : Option Addr) (c0 : Nat) (l0 : List (S25)) (r : Bool) (w : World) (hr0 : Kd.C k25 w A0 l0.length l0) (hc0 : l0.length ≤ c0) (h : laws_FnCommentSpan.f k l0 = some r) :
    Calls Try.prog 3 #[.slice A0 l0.length c0] w fun e w' => e = .returned (.bool r) ∧ Below w.heap.size w w' := by
  have hu25 := Try.underlying25
  have HR0 := Aside0.mk hr0
  have HC0 := Aside0.mk hc0
  clear hr0 hc0
  have HB := Aside0.mk (Below.refl w.heap.size w)
  have H : ((laws_zzFits2.f k l0).bind fun t105 => (if t105 = true then (laws_FnCommentSpan.l0 k l0 l0 (l0.length : Int) 0) else (some true))) = some r := h
  clear h
  replace H := Option.bind_eq_some_iff.mp H
  obtain ⟨t105, A20, H⟩ := H
  replace H : (if t105 = true then (laws_FnCommentSpan.l0 k l0 l0 (l0.length : Int) 0) else (some true)) = some r := H
  have A2 := Aside0.mk A20
  clear A20
  by_cases c3 : t105 = true
  · subst c3
    have H1 : (laws_FnCommentSpan.l0 k l0 l0 (l0.length : Int) 0) = some r := by rw [if_pos rfl] at H; exact H
    clear H
    have H := H1
    clear H1
    have H' := Aside0.mk H
    clear H
    go_enter Try.func3, Try.ntmps3
    go_wp2_with (first | ((with_reducible refine gate_callee (f := 9) rfl ?_); refine goesL_ (some 9) rfl rfl Try.func9 (by kernel_rfl) rfl #[.slice A0 l0.length c0] rfl (by (try simp only [List.map_toArray, List.map_cons, List.map_nil]); first | done | rfl | (simp only [List.length_drop, List.length_take]; rfl)) ?_; (with_reducible refine (laws_zzFits2.calls k _ _ l0 true _ ?side1 ?side2 A2.out).mono ?_); (case side1 => repeat (first | exact HR0.out | (with_reducible refine Kd.C_alloc ?_ _) | (with_reducible refine Kd.C_drewN ?_ _) | (with_reducible refine Kd.C_drew ?_))); (case side2 => exact HC0.out); rintro e w4 ⟨rfl, hb⟩; refine ⟨_, rfl, ?_⟩; have n0_ := Aside0.mk (below_step (by repeat (first | (with_reducible first | exact HB.out | apply below_alloc | apply pw_below_drewN | apply below_drew1) | exact HB.out)) hb); clear HB; have HB := n0_; clear n0_; (try clear hb); (try clear hb2); (try clear hk); (try clear hi)))
    go_loopg [13] k (fun kq v13 w' => ∃ (x13_1 : Int), v13 = .int .i64 x13_1 ∧ Aside0 (laws_FnCommentSpan.l0 kq l0 l0 (l0.length : Int) x13_1 = some r) ∧ Aside0 (kq ≤ k) ∧ Aside0 (Below w.heap.size w w'))
    case atStart => exact ⟨(0), (by first | rfl | (simp; done) | (simp [*]; done)), H', ⟨Nat.le_refl _⟩, ⟨by repeat (first | (with_reducible first | exact HB.out | apply below_alloc | apply pw_below_drewN | apply below_drew1) | exact HB.out)⟩⟩
    case round =>
      clear H'
      try clear p2
      try clear c3
      obtain ⟨x13_1, rfl, HA, HK1, HB⟩ := hrel
      cases gk with
      | zero => exact absurd HA.out (by simp [laws_FnCommentSpan.l0])
      | succ k1 =>
        have H := HA.out
        clear HA
        simp only [laws_FnCommentSpan.l0] at H
        by_cases c5 : x13_1 < (l0.length : Int)
        · rw [if_pos c5] at H
          have c5b0 : decide (x13_1 < (l0.length : Int)) = true := decide_eq_true c5
          clear c5
          by_cases c6 : 0 ≤ x13_1
          · rw [if_pos c6] at H
            have c6b0 : decide (0 ≤ x13_1) = true := decide_eq_true c6
            clear c6
            by_cases c7 : x13_1 < (l0.length : Int)
            · rw [if_pos c7] at H
              have c7b0 : decide (x13_1 < (l0.length : Int)) = true := decide_eq_true c7
              clear c7
              by_cases c8 : ((rd_T25 l0 x13_1).f0) < 1
              · rw [if_pos c8] at H
                have c8b0 : decide (((rd_T25 l0 x13_1).f0) < 1) = true := decide_eq_true c8
                clear c8
                obtain rfl := Option.some.inj H
                have p106 : 0 ≤ (x13_1 : Int) := of_decide_eq_true (by first | (with_reducible assumption) | assumption)
                have q106 : x13_1 < (l0.length : Int) := of_decide_eq_true (by first | (with_reducible assumption) | assumption)
                obtain ⟨ad106, e106, hx106_0, hx106_1⟩ := at_T25 HR0.out x13_1 p106 q106
                cases e106
                replace hx106_0 := (HB.out.cell (World.block_lt_of_cell? w _ hx106_0)).trans hx106_0
                replace hx106_1 := (HB.out.cell (World.block_lt_of_cell? w _ hx106_1)).trans hx106_1
                replace p106 := eq_true p106
                replace q106 := eq_true q106
                go_wp2_with (first | ((with_reducible refine gate_dst (N := 4) rfl ?_); (try (refine gate_guard (by rfl) ?_; dsimp only)); refine box_event ?hg (N := 4) ?hd (cs := #[.int .i64 0, .string (⟨#[]⟩ : ByteArray)]) (t := 25) ?hr ?_; (case hd => rfl); (case hg => rfl); (case hr => first | (go_simp; done) | (go_simp; rfl)); intro gb107 hg w9 hbox hb; have n0_ := Aside0.mk (below_step (by repeat (first | (with_reducible first | exact HB.out | apply below_alloc | apply pw_below_drewN | apply below_drew1) | exact HB.out)) hb); have n1_ := Aside0.mk (hbox); have n2_ := Aside0.mk ((by rw [hg]; exact (below_size (by repeat (first | (with_reducible first | exact HB.out | apply below_alloc | apply pw_below_drewN | apply below_drew1) | exact HB.out))) : w.heap.size ≤ gb107)); have n3_ := Aside0.mk ((by rw [hg]; exact (below_size (by repeat (first | (with_reducible first | exact HB.out | apply below_alloc | apply pw_below_drewN | apply below_drew1) | exact HB.out))) : w.heap.size ≤ gb107)); clear HB; have HB := n0_; have BK107 := n1_; have GW107 := n2_; have GE107 := n3_; clear n0_ n1_ n2_ n3_; clear hb hbox hg; have hcz10_0 : w9.cell? ⟨gb107, 0, none⟩ = some (.int .i64 0) := (blk_cell BK107.out 0).trans rfl; have hcz10_1 : w9.cell? ⟨gb107, 1, none⟩ = some (.string (⟨#[]⟩ : ByteArray)) := (blk_cell BK107.out 1).trans rfl; have hfz10_0 := blk_frozen BK107.out 0; have hfz10_1 := blk_frozen BK107.out 1))
                go_ret
                exact ⟨by first | rfl | (simp [errW_none, errW_some] <;> rfl) | (simp [*, errW_none, errW_some] <;> rfl), by repeat (first | (with_reducible first | exact HB.out | apply below_alloc | apply pw_below_drewN | apply below_drew1 | refine below_set ?_ GE107.out) | exact HB.out)⟩
              · rw [if_neg c8] at H
                have c8b0 : decide (((rd_T25 l0 x13_1).f0) < 1) = false := decide_eq_false c8
                clear c8
                by_cases c11 : ((rd_T25 l0 x13_1).f0) > 1000000
                · rw [if_pos c11] at H
                  have c11b0 : decide (1000000 < ((rd_T25 l0 x13_1).f0)) = true := decide_eq_true c11
                  clear c11
                  obtain rfl := Option.some.inj H
                  have p106 : 0 ≤ (x13_1 : Int) := of_decide_eq_true (by first | (with_reducible assumption) | assumption)
                  have q106 : x13_1 < (l0.length : Int) := of_decide_eq_true (by first | (with_reducible assumption) | assumption)
                  obtain ⟨ad106, e106, hx106_0, hx106_1⟩ := at_T25 HR0.out x13_1 p106 q106
                  cases e106
                  replace hx106_0 := (HB.out.cell (World.block_lt_of_cell? w _ hx106_0)).trans hx106_0
                  replace hx106_1 := (HB.out.cell (World.block_lt_of_cell? w _ hx106_1)).trans hx106_1
                  replace p106 := eq_true p106
                  replace q106 := eq_true q106
                  go_wp2_with (first | ((with_reducible refine gate_dst (N := 4) rfl ?_); (try (refine gate_guard (by rfl) ?_; dsimp only)); refine box_event ?hg (N := 4) ?hd (cs := #[.int .i64 0, .string (⟨#[]⟩ : ByteArray)]) (t := 25) ?hr ?_; (case hd => rfl); (case hg => rfl); (case hr => first | (go_simp; done) | (go_simp; rfl)); intro gb107 hg w12 hbox hb; have n0_ := Aside0.mk (below_step (by repeat (first | (with_reducible first | exact HB.out | apply below_alloc | apply pw_below_drewN | apply below_drew1) | exact HB.out)) hb); have n1_ := Aside0.mk (hbox); have n2_ := Aside0.mk ((by rw [hg]; exact (below_size (by repeat (first | (with_reducible first | exact HB.out | apply below_alloc | apply pw_below_drewN | apply below_drew1) | exact HB.out))) : w.heap.size ≤ gb107)); have n3_ := Aside0.mk ((by rw [hg]; exact (below_size (by repeat (first | (with_reducible first | exact HB.out | apply below_alloc | apply pw_below_drewN | apply below_drew1) | exact HB.out))) : w.heap.size ≤ gb107)); clear HB; have HB := n0_; have BK107 := n1_; have GW107 := n2_; have GE107 := n3_; clear n0_ n1_ n2_ n3_; clear hb hbox hg; have hcz13_0 : w12.cell? ⟨gb107, 0, none⟩ = some (.int .i64 0) := (blk_cell BK107.out 0).trans rfl; have hcz13_1 : w12.cell? ⟨gb107, 1, none⟩ = some (.string (⟨#[]⟩ : ByteArray)) := (blk_cell BK107.out 1).trans rfl; have hfz13_0 := blk_frozen BK107.out 0; have hfz13_1 := blk_frozen BK107.out 1))
                  go_ret
                  exact ⟨by first | rfl | (simp [errW_none, errW_some] <;> rfl) | (simp [*, errW_none, errW_some] <;> rfl), by repeat (first | (with_reducible first | exact HB.out | apply below_alloc | apply pw_below_drewN | apply below_drew1 | refine below_set ?_ GE107.out) | exact HB.out)⟩
                · rw [if_neg c11] at H
                  have c11b0 : decide (1000000 < ((rd_T25 l0 x13_1).f0)) = false := decide_eq_false c11
                  clear c11
                  by_cases c14 : (((rd_T25 l0 x13_1).f1).size : Int) > 1000
                  · rw [if_pos c14] at H
                    have c14b0 : decide (1000 < (((rd_T25 l0 x13_1).f1).size : Int)) = true := decide_eq_true c14
                    have c14b1 : decide (1000 < ((rd_T25 l0 x13_1).f1).size) = true := decide_eq_true (by omega)
                    clear c14
                    obtain rfl := Option.some.inj H
                    have p106 : 0 ≤ (x13_1 : Int) := of_decide_eq_true (by first | (with_reducible assumption) | assumption)
                    have q106 : x13_1 < (l0.length : Int) := of_decide_eq_true (by first | (with_reducible assumption) | assumption)
                    obtain ⟨ad106, e106, hx106_0, hx106_1⟩ := at_T25 HR0.out x13_1 p106 q106
                    cases e106
                    replace hx106_0 := (HB.out.cell (World.block_lt_of_cell? w _ hx106_0)).trans hx106_0
                    replace hx106_1 := (HB.out.cell (World.block_lt_of_cell? w _ hx106_1)).trans hx106_1
                    replace p106 := eq_true p106
                    replace q106 := eq_true q106
                    go_wp2_with (first | ((with_reducible refine gate_dst (N := 4) rfl ?_); (try (refine gate_guard (by rfl) ?_; dsimp only)); refine box_event ?hg (N := 4) ?hd (cs := #[.int .i64 0, .string (⟨#[]⟩ : ByteArray)]) (t := 25) ?hr ?_; (case hd => rfl); (case hg => rfl); (case hr => first | (go_simp; done) | (go_simp; rfl)); intro gb107 hg w15 hbox hb; have n0_ := Aside0.mk (below_step (by repeat (first | (with_reducible first | exact HB.out | apply below_alloc | apply pw_below_drewN | apply below_drew1) | exact HB.out)) hb); have n1_ := Aside0.mk (hbox); have n2_ := Aside0.mk ((by rw [hg]; exact (below_size (by repeat (first | (with_reducible first | exact HB.out | apply below_alloc | apply pw_below_drewN | apply below_drew1) | exact HB.out))) : w.heap.size ≤ gb107)); have n3_ := Aside0.mk ((by rw [hg]; exact (below_size (by repeat (first | (with_reducible first | exact HB.out | apply below_alloc | apply pw_below_drewN | apply below_drew1) | exact HB.out))) : w.heap.size ≤ gb107)); clear HB; have HB := n0_; have BK107 := n1_; have GW107 := n2_; have GE107 := n3_; clear n0_ n1_ n2_ n3_; clear hb hbox hg; have hcz16_0 : w15.cell? ⟨gb107, 0, none⟩ = some (.int .i64 0) := (blk_cell BK107.out 0).trans rfl; have hcz16_1 : w15.cell? ⟨gb107, 1, none⟩ = some (.string (⟨#[]⟩ : ByteArray)) := (blk_cell BK107.out 1).trans rfl; have hfz16_0 := blk_frozen BK107.out 0; have hfz16_1 := blk_frozen BK107.out 1))
                    go_ret
                    exact ⟨by first | rfl | (simp [errW_none, errW_some] <;> rfl) | (simp [*, errW_none, errW_some] <;> rfl), by repeat (first | (with_reducible first | exact HB.out | apply below_alloc | apply pw_below_drewN | apply below_drew1 | refine below_set ?_ GE107.out) | exact HB.out)⟩
                  · rw [if_neg c14] at H
                    have c14b0 : decide (1000 < (((rd_T25 l0 x13_1).f1).size : Int)) = false := decide_eq_false c14
                    have c14b1 : decide (1000 < ((rd_T25 l0 x13_1).f1).size) = false := decide_eq_false (by omega)
                    clear c14
                    have H' := Aside0.mk H
                    clear H
                    have p106 : 0 ≤ (x13_1 : Int) := of_decide_eq_true (by first | (with_reducible assumption) | assumption)
                    have q106 : x13_1 < (l0.length : Int) := of_decide_eq_true (by first | (with_reducible assumption) | assumption)
                    obtain ⟨ad106, e106, hx106_0, hx106_1⟩ := at_T25 HR0.out x13_1 p106 q106
                    cases e106
                    replace hx106_0 := (HB.out.cell (World.block_lt_of_cell? w _ hx106_0)).trans hx106_0
                    replace hx106_1 := (HB.out.cell (World.block_lt_of_cell? w _ hx106_1)).trans hx106_1
                    replace p106 := eq_true p106
                    replace q106 := eq_true q106
                    go_wp2_with (first | ((with_reducible refine gate_dst (N := 4) rfl ?_); (try (refine gate_guard (by rfl) ?_; dsimp only)); refine box_event ?hg (N := 4) ?hd (cs := #[.int .i64 0, .string (⟨#[]⟩ : ByteArray)]) (t := 25) ?hr ?_; (case hd => rfl); (case hg => rfl); (case hr => first | (go_simp; done) | (go_simp; rfl)); intro gb107 hg w17 hbox hb; have n0_ := Aside0.mk (below_step (by repeat (first | (with_reducible first | exact HB.out | apply below_alloc | apply pw_below_drewN | apply below_drew1) | exact HB.out)) hb); have n1_ := Aside0.mk (hbox); have n2_ := Aside0.mk ((by rw [hg]; exact (below_size (by repeat (first | (with_reducible first | exact HB.out | apply below_alloc | apply pw_below_drewN | apply below_drew1) | exact HB.out))) : w.heap.size ≤ gb107)); have n3_ := Aside0.mk ((by rw [hg]; exact (below_size (by repeat (first | (with_reducible first | exact HB.out | apply below_alloc | apply pw_below_drewN | apply below_drew1) | exact HB.out))) : w.heap.size ≤ gb107)); clear HB; have HB := n0_; have BK107 := n1_; have GW107 := n2_; have GE107 := n3_; clear n0_ n1_ n2_ n3_; clear hb hbox hg; have hcz18_0 : w17.cell? ⟨gb107, 0, none⟩ = some (.int .i64 0) := (blk_cell BK107.out 0).trans rfl; have hcz18_1 : w17.cell? ⟨gb107, 1, none⟩ = some (.string (⟨#[]⟩ : ByteArray)) := (blk_cell BK107.out 1).trans rfl; have hfz18_0 := blk_frozen BK107.out 0; have hfz18_1 := blk_frozen BK107.out 1))
                    go_roundg k1
                    case measure => have := HK1.out; omega
                    case rel => exact ⟨(wrap64 (x13_1 + 1)), (by first | rfl | (simp; done) | (simp [*]; done)), H', ⟨by have := HK1.out; omega⟩, ⟨by repeat (first | (with_reducible first | exact HB.out | apply below_alloc | apply pw_below_drewN | apply below_drew1 | refine below_set ?_ GE107.out) | exact HB.out)⟩⟩
            · rw [if_neg c7] at H
              exact absurd H (by simp)
          · rw [if_neg c6] at H
            exact absurd H (by simp)
        · rw [if_neg c5] at H
          have c5b0 : decide (x13_1 < (l0.length : Int)) = false := decide_eq_false c5
          clear c5
          by_cases c19 : (l0.length : Int) = 0
          · rw [if_pos c19] at H
            have c19b0 : ((l0.length : Int) == 0) = true := beq_iff_eq.mpr c19
            have c19b1 : ((l0.length : Int) != 0) = false := bne_eq_false_iff_eq.mpr c19
            clear c19
            obtain rfl := Option.some.inj H
            go_wp2
            go_ret
            exact ⟨by first | rfl | (simp [errW_none, errW_some] <;> rfl) | (simp [*, errW_none, errW_some] <;> rfl), by repeat (first | (with_reducible first | exact HB.out | apply below_alloc | apply pw_below_drewN | apply below_drew1) | exact HB.out)⟩
          · rw [if_neg c19] at H
            have c19b0 : ((l0.length : Int) == 0) = false := beq_eq_false_iff_ne.mpr c19
            have c19b1 : ((l0.length : Int) != 0) = true := bne_iff_ne.mpr c19
            have c19b2 : ¬ (l0 = []) := fun h_ => c19 (by rw [h_]; rfl)
            by_cases c20 : (l0.length : Int) > 50
            · rw [if_pos c20] at H
              have c20b0 : decide (50 < (l0.length : Int)) = true := decide_eq_true c20
              have c20b1 : decide (50 < l0.length) = true := decide_eq_true (by omega)
              clear c20
              obtain rfl := Option.some.inj H
              go_wp2
              go_ret
              exact ⟨by first | rfl | (simp [errW_none, errW_some] <;> rfl) | (simp [*, errW_none, errW_some] <;> rfl), by repeat (first | (with_reducible first | exact HB.out | apply below_alloc | apply pw_below_drewN | apply below_drew1) | exact HB.out)⟩
            · rw [if_neg c20] at H
              have c20b0 : decide (50 < (l0.length : Int)) = false := decide_eq_false c20
              have c20b1 : decide (50 < l0.length) = false := decide_eq_false (by omega)
              clear c20
              replace H := Option.bind_eq_some_iff.mp H
              obtain ⟨⟨t108, t109⟩, A210, H⟩ := H
              replace H : (if 0 ≤ (wrap64 ((l0.length : Int) - 1)) then (if (wrap64 ((l0.length : Int) - 1)) < (l0.length : Int) then (if 0 < (l0.length : Int) then (if t108 = ((rd_T25 l0 0).f0) then (some (t109 == (wrap64 (((rd_T25 l0 (wrap64 ((l0.length : Int) - 1))).f0) + (((rd_T25 l0 (wrap64 ((l0.length : Int) - 1))).f1).size : Int))))) else (some false)) else (none)) else (none)) else (none)) = some r := H
              have A21 := Aside0.mk A210
              clear A210
              obtain ⟨ji22, hji22⟩ : ∃ j_ : Int, (wrap64 ((l0.length : Int) - 1)) = j_ := ⟨_, rfl⟩
              replace H : (if 0 ≤ (ji22) then (if (ji22) < (l0.length : Int) then (if 0 < (l0.length : Int) then (if t108 = ((rd_T25 l0 0).f0) then (some (t109 == (wrap64 (((rd_T25 l0 (ji22)).f0) + (((rd_T25 l0 (ji22)).f1).size : Int))))) else (some false)) else (none)) else (none)) else (none)) = some r := by first | (rw [hji22] at H; exact H) | (simp only [hji22] at H ⊢; exact H)
              (try rw [hji22] at A21)
              have hji22w : (IntKind.i64.wrap ((l0.length : Int) - 1)) = ji22 := (i64_w _).trans hji22
              by_cases c23 : 0 ≤ (ji22)
              · rw [if_pos c23] at H
                have c23b0 : decide (0 ≤ (ji22)) = true := decide_eq_true c23
                clear c23
                by_cases c24 : (ji22) < (l0.length : Int)
                · rw [if_pos c24] at H
                  have c24b0 : decide ((ji22) < (l0.length : Int)) = true := decide_eq_true c24
                  clear c24
                  by_cases c25 : 0 < (l0.length : Int)
                  · rw [if_pos c25] at H
                    have c25b0 : decide (0 < (l0.length : Int)) = true := decide_eq_true c25
                    have c25b1 : decide (0 < l0.length) = true := decide_eq_true (by omega)
                    clear c25
                    by_cases c26 : t108 = ((rd_T25 l0 0).f0)
                    · rw [if_pos c26] at H
                      have c26b0 : (t108 == ((rd_T25 l0 0).f0)) = true := beq_iff_eq.mpr c26
                      have c26b1 : (t108 != ((rd_T25 l0 0).f0)) = false := bne_eq_false_iff_eq.mpr c26
                      clear c26
                      obtain rfl := Option.some.inj H
                      go_wp2_with (first | ((with_reducible refine gate_callee (f := 10) rfl ?_); refine goesL_ (some 42) rfl rfl Try.func10 (by kernel_rfl) rfl #[.slice A0 l0.length c0] rfl (by (try simp only [List.map_toArray, List.map_cons, List.map_nil]); first | done | rfl | (simp only [List.length_drop, List.length_take]; rfl)) ?_; (with_reducible refine (impl_CommentSpan.calls _ _ l0 t108 t109 _ ?side1 ?side2 A21.out).mono ?_); (case side1 => repeat (first | exact (Kd.C_below HR0.out HB.out) | (with_reducible refine Kd.C_alloc ?_ _) | (with_reducible refine Kd.C_drewN ?_ _) | (with_reducible refine Kd.C_drew ?_))); (case side2 => exact HC0.out); rintro e w27 ⟨rfl, hb⟩; refine ⟨_, rfl, ?_⟩; have n0_ := Aside0.mk (below_step (by repeat (first | (with_reducible first | exact HB.out | apply below_alloc | apply pw_below_drewN | apply below_drew1) | exact HB.out)) hb); clear HB; have HB := n0_; clear n0_; (try clear hb); (try clear hb2); (try clear hk); (try clear hi); have p110 : 0 ≤ ((ji22) : Int) := of_decide_eq_true (by first | (with_reducible assumption) | assumption); have q110 : (ji22) < (l0.length : Int) := of_decide_eq_true (by first | (with_reducible assumption) | assumption); obtain ⟨ad110, e110, hx110_0, hx110_1⟩ := at_T25 HR0.out (ji22) p110 q110; cases e110; replace hx110_0 := (HB.out.cell (World.block_lt_of_cell? w _ hx110_0)).trans hx110_0; replace hx110_1 := (HB.out.cell (World.block_lt_of_cell? w _ hx110_1)).trans hx110_1; replace p110 := eq_true p110; replace q110 := eq_true q110) | ((with_reducible refine gate_dst (N := 7) rfl ?_); (try (refine gate_guard (by rfl) ?_; dsimp only)); refine box_event ?hg (N := 7) ?hd (cs := #[.int .i64 0, .string (⟨#[]⟩ : ByteArray)]) (t := 25) ?hr ?_; (case hd => rfl); (case hg => rfl); (case hr => first | (go_simp; done) | (go_simp; rfl)); intro gb111 hg w28 hbox hb; have n0_ := Aside0.mk (below_step (by repeat (first | (with_reducible first | exact HB.out | apply below_alloc | apply pw_below_drewN | apply below_drew1) | exact HB.out)) hb); have n1_ := Aside0.mk (hbox); have n2_ := Aside0.mk ((by rw [hg]; exact (below_size (by repeat (first | (with_reducible first | exact HB.out | apply below_alloc | apply pw_below_drewN | apply below_drew1) | exact HB.out))) : w.heap.size ≤ gb111)); have n3_ := Aside0.mk ((by rw [hg]; exact (below_size (by repeat (first | (with_reducible first | exact HB.out | apply below_alloc | apply pw_below_drewN | apply below_drew1) | exact HB.out))) : w.heap.size ≤ gb111)); clear HB; have HB := n0_; have BK111 := n1_; have GW111 := n2_; have GE111 := n3_; clear n0_ n1_ n2_ n3_; clear hb hbox hg; have hcz29_0 : w28.cell? ⟨gb111, 0, none⟩ = some (.int .i64 0) := (blk_cell BK111.out 0).trans rfl; have hcz29_1 : w28.cell? ⟨gb111, 1, none⟩ = some (.string (⟨#[]⟩ : ByteArray)) := (blk_cell BK111.out 1).trans rfl; have hfz29_0 := blk_frozen BK111.out 0; have hfz29_1 := blk_frozen BK111.out 1; have p112 : 0 ≤ (0 : Int) := (by omega); have q112 : 0 < (l0.length : Int) := of_decide_eq_true (by first | (with_reducible assumption) | assumption); obtain ⟨ad112, e112, hx112_0, hx112_1⟩ := at_T25 HR0.out 0 p112 q112; obtain rfl : ad110 = ad112 := (by injection e112); have qi112 : (0 < l0.length) = True := eq_true (by omega); (try rw [show ((0 : Int)).toNat = 0 from rfl] at hx112_0); (try rw [show 0 * 2 = 0 from rfl] at hx112_0); (try rw [Addr.add_zero'] at hx112_0); (try rw [show ((0 : Int)).toNat = 0 from rfl] at hx112_1); (try rw [show 0 * 2 = 0 from rfl] at hx112_1); (try rw [Addr.add_zero'] at hx112_1); have hn112_0 : ad110.block ≠ gb111 := Nat.ne_of_lt (Nat.lt_of_lt_of_le (by have := World.block_lt_of_cell? _ _ hx112_0; first | rwa [add_block] at this | exact this) GW111.out); have hn112_1 : ad110.block ≠ gb111 := Nat.ne_of_lt (Nat.lt_of_lt_of_le (by have := World.block_lt_of_cell? _ _ hx112_0; first | rwa [add_block] at this | exact this) GW111.out); replace hx112_0 := (HB.out.cell (World.block_lt_of_cell? w _ hx112_0)).trans hx112_0; replace hx112_1 := (HB.out.cell (World.block_lt_of_cell? w _ hx112_1)).trans hx112_1; replace hx112_0 := (cell_far (p := ⟨gb111, 0, none⟩) (by first | (rw [add_block]; exact hn112_0) | (show (Addr.add _ _).block ≠ _; rw [add_block]; exact hn112_0) | exact hn112_0) (.int .i64 ((rd_T25 l0 (ji22)).f0))).trans hx112_0; replace hx112_1 := (cell_far (p := ⟨gb111, 0, none⟩) (by first | (rw [add_block]; exact hn112_0) | (show (Addr.add _ _).block ≠ _; rw [add_block]; exact hn112_0) | exact hn112_0) (.int .i64 ((rd_T25 l0 (ji22)).f0))).trans hx112_1; replace hx112_0 := (cell_far (p := ⟨gb111, 1, none⟩) (by first | (rw [add_block]; exact hn112_1) | (show (Addr.add _ _).block ≠ _; rw [add_block]; exact hn112_1) | exact hn112_1) (.string ((rd_T25 l0 (ji22)).f1))).trans hx112_0; replace hx112_1 := (cell_far (p := ⟨gb111, 1, none⟩) (by first | (rw [add_block]; exact hn112_1) | (show (Addr.add _ _).block ≠ _; rw [add_block]; exact hn112_1) | exact hn112_1) (.string ((rd_T25 l0 (ji22)).f1))).trans hx112_1; clear hn112_0; clear hn112_1; replace p112 := eq_true p112; replace q112 := eq_true q112))
                      go_ret
                      exact ⟨by first | rfl | (simp [errW_none, errW_some] <;> rfl) | (simp only [← hji22]; first | rfl | (simp [errW_none, errW_some] <;> rfl)) | (simp [*, errW_none, errW_some] <;> rfl), by repeat (first | (with_reducible first | exact HB.out | apply below_alloc | apply pw_below_drewN | apply below_drew1 | refine below_set ?_ GE111.out) | exact HB.out)⟩
                    · rw [if_neg c26] at H
                      have c26b0 : (t108 == ((rd_T25 l0 0).f0)) = false := beq_eq_false_iff_ne.mpr c26
                      have c26b1 : (t108 != ((rd_T25 l0 0).f0)) = true := bne_iff_ne.mpr c26
                      obtain rfl := Option.some.inj H
                      go_wp2_with (first | ((with_reducible refine gate_callee (f := 10) rfl ?_); refine goesL_ (some 42) rfl rfl Try.func10 (by kernel_rfl) rfl #[.slice A0 l0.length c0] rfl (by (try simp only [List.map_toArray, List.map_cons, List.map_nil]); first | done | rfl | (simp only [List.length_drop, List.length_take]; rfl)) ?_; (with_reducible refine (impl_CommentSpan.calls _ _ l0 t108 t109 _ ?side1 ?side2 A21.out).mono ?_); (case side1 => repeat (first | exact (Kd.C_below HR0.out HB.out) | (with_reducible refine Kd.C_alloc ?_ _) | (with_reducible refine Kd.C_drewN ?_ _) | (with_reducible refine Kd.C_drew ?_))); (case side2 => exact HC0.out); rintro e w30 ⟨rfl, hb⟩; refine ⟨_, rfl, ?_⟩; have n0_ := Aside0.mk (below_step (by repeat (first | (with_reducible first | exact HB.out | apply below_alloc | apply pw_below_drewN | apply below_drew1) | exact HB.out)) hb); clear HB; have HB := n0_; clear n0_; (try clear hb); (try clear hb2); (try clear hk); (try clear hi); have p110 : 0 ≤ ((ji22) : Int) := of_decide_eq_true (by first | (with_reducible assumption) | assumption); have q110 : (ji22) < (l0.length : Int) := of_decide_eq_true (by first | (with_reducible assumption) | assumption); obtain ⟨ad110, e110, hx110_0, hx110_1⟩ := at_T25 HR0.out (ji22) p110 q110; cases e110; replace hx110_0 := (HB.out.cell (World.block_lt_of_cell? w _ hx110_0)).trans hx110_0; replace hx110_1 := (HB.out.cell (World.block_lt_of_cell? w _ hx110_1)).trans hx110_1; replace p110 := eq_true p110; replace q110 := eq_true q110) | ((with_reducible refine gate_dst (N := 7) rfl ?_); (try (refine gate_guard (by rfl) ?_; dsimp only)); refine box_event ?hg (N := 7) ?hd (cs := #[.int .i64 0, .string (⟨#[]⟩ : ByteArray)]) (t := 25) ?hr ?_; (case hd => rfl); (case hg => rfl); (case hr => first | (go_simp; done) | (go_simp; rfl)); intro gb111 hg w31 hbox hb; have n0_ := Aside0.mk (below_step (by repeat (first | (with_reducible first | exact HB.out | apply below_alloc | apply pw_below_drewN | apply below_drew1) | exact HB.out)) hb); have n1_ := Aside0.mk (hbox); have n2_ := Aside0.mk ((by rw [hg]; exact (below_size (by repeat (first | (with_reducible first | exact HB.out | apply below_alloc | apply pw_below_drewN | apply below_drew1) | exact HB.out))) : w.heap.size ≤ gb111)); have n3_ := Aside0.mk ((by rw [hg]; exact (below_size (by repeat (first | (with_reducible first | exact HB.out | apply below_alloc | apply pw_below_drewN | apply below_drew1) | exact HB.out))) : w.heap.size ≤ gb111)); clear HB; have HB := n0_; have BK111 := n1_; have GW111 := n2_; have GE111 := n3_; clear n0_ n1_ n2_ n3_; clear hb hbox hg; have hcz32_0 : w31.cell? ⟨gb111, 0, none⟩ = some (.int .i64 0) := (blk_cell BK111.out 0).trans rfl; have hcz32_1 : w31.cell? ⟨gb111, 1, none⟩ = some (.string (⟨#[]⟩ : ByteArray)) := (blk_cell BK111.out 1).trans rfl; have hfz32_0 := blk_frozen BK111.out 0; have hfz32_1 := blk_frozen BK111.out 1; have p112 : 0 ≤ (0 : Int) := (by omega); have q112 : 0 < (l0.length : Int) := of_decide_eq_true (by first | (with_reducible assumption) | assumption); obtain ⟨ad112, e112, hx112_0, hx112_1⟩ := at_T25 HR0.out 0 p112 q112; obtain rfl : ad110 = ad112 := (by injection e112); have qi112 : (0 < l0.length) = True := eq_true (by omega); (try rw [show ((0 : Int)).toNat = 0 from rfl] at hx112_0); (try rw [show 0 * 2 = 0 from rfl] at hx112_0); (try rw [Addr.add_zero'] at hx112_0); (try rw [show ((0 : Int)).toNat = 0 from rfl] at hx112_1); (try rw [show 0 * 2 = 0 from rfl] at hx112_1); (try rw [Addr.add_zero'] at hx112_1); have hn112_0 : ad110.block ≠ gb111 := Nat.ne_of_lt (Nat.lt_of_lt_of_le (by have := World.block_lt_of_cell? _ _ hx112_0; first | rwa [add_block] at this | exact this) GW111.out); have hn112_1 : ad110.block ≠ gb111 := Nat.ne_of_lt (Nat.lt_of_lt_of_le (by have := World.block_lt_of_cell? _ _ hx112_0; first | rwa [add_block] at this | exact this) GW111.out); replace hx112_0 := (HB.out.cell (World.block_lt_of_cell? w _ hx112_0)).trans hx112_0; replace hx112_1 := (HB.out.cell (World.block_lt_of_cell? w _ hx112_1)).trans hx112_1; replace hx112_0 := (cell_far (p := ⟨gb111, 0, none⟩) (by first | (rw [add_block]; exact hn112_0) | (show (Addr.add _ _).block ≠ _; rw [add_block]; exact hn112_0) | exact hn112_0) (.int .i64 ((rd_T25 l0 (ji22)).f0))).trans hx112_0; replace hx112_1 := (cell_far (p := ⟨gb111, 0, none⟩) (by first | (rw [add_block]; exact hn112_0) | (show (Addr.add _ _).block ≠ _; rw [add_block]; exact hn112_0) | exact hn112_0) (.int .i64 ((rd_T25 l0 (ji22)).f0))).trans hx112_1; replace hx112_0 := (cell_far (p := ⟨gb111, 1, none⟩) (by first | (rw [add_block]; exact hn112_1) | (show (Addr.add _ _).block ≠ _; rw [add_block]; exact hn112_1) | exact hn112_1) (.string ((rd_T25 l0 (ji22)).f1))).trans hx112_0; replace hx112_1 := (cell_far (p := ⟨gb111, 1, none⟩) (by first | (rw [add_block]; exact hn112_1) | (show (Addr.add _ _).block ≠ _; rw [add_block]; exact hn112_1) | exact hn112_1) (.string ((rd_T25 l0 (ji22)).f1))).trans hx112_1; clear hn112_0; clear hn112_1; replace p112 := eq_true p112; replace q112 := eq_true q112))
                      go_ret
                      exact ⟨by first | rfl | (simp [errW_none, errW_some] <;> rfl) | (simp only [← hji22]; first | rfl | (simp [errW_none, errW_some] <;> rfl)) | (simp [*, errW_none, errW_some] <;> rfl), by repeat (first | (with_reducible first | exact HB.out | apply below_alloc | apply pw_below_drewN | apply below_drew1 | refine below_set ?_ GE111.out) | exact HB.out)⟩
                  · rw [if_neg c25] at H
                    exact absurd H (by simp)
                · rw [if_neg c24] at H
                  exact absurd H (by simp)
              · rw [if_neg c23] at H
                exact absurd H (by simp)
  · replace c3 := Bool.eq_false_iff.mpr c3
    subst c3
    have H1 : (some true) = some r := by rw [if_neg (show ¬ (false = true) by decide)] at H; exact H
    clear H
    have H := H1
    clear H1
    obtain rfl := Option.some.inj H
    go_enter Try.func3, Try.ntmps3
    go_wp2_with (first | ((with_reducible refine gate_callee (f := 9) rfl ?_); refine goesL_ (some 9) rfl rfl Try.func9 (by kernel_rfl) rfl #[.slice A0 l0.length c0] rfl (by (try simp only [List.map_toArray, List.map_cons, List.map_nil]); first | done | rfl | (simp only [List.length_drop, List.length_take]; rfl)) ?_; (with_reducible refine (laws_zzFits2.calls k _ _ l0 false _ ?side1 ?side2 A2.out).mono ?_); (case side1 => repeat (first | exact HR0.out | (with_reducible refine Kd.C_alloc ?_ _) | (with_reducible refine Kd.C_drewN ?_ _) | (with_reducible refine Kd.C_drew ?_))); (case side2 => exact HC0.out); rintro e w33 ⟨rfl, hb⟩; refine ⟨_, rfl, ?_⟩; have n0_ := Aside0.mk (below_step (by repeat (first | (with_reducible first | exact HB.out | apply below_alloc | apply pw_below_drewN | apply below_drew1) | exact HB.out)) hb); clear HB; have HB := n0_; clear n0_; (try clear hb); (try clear hb2); (try clear hk); (try clear hi)))
    go_ret
    exact ⟨by first | rfl | (simp [errW_none, errW_some] <;> rfl) | (simp [*, errW_none, errW_some] <;> rfl), by repeat (first | (with_reducible first | exact HB.out | apply below_alloc | apply pw_below_drewN | apply below_drew1) | exact HB.out)⟩

-- NOT PRINTED: function 24 (goprinter_go_ast_NewIdent)

-- NOT PRINTED: function 25 (goprinter_go_ast_FieldList_NumFields)

-- GIVEN: function 11 (impl_NumFields)

/-! ### laws_FnNumFields: function 4 -/
def laws_FnNumFields.l0 : Nat → List Int → Int → List Int → Int → Int → Option (Bool)
  | 0, _, _, _, _, _ => none
  | k + 1, x0, x3, x9, x10, x11 => if x11 < x10 then (if 0 ≤ x11 then (if x11 < (x9.length : Int) then (if (rd x9 x11) < 0 then (some true) else (if (rd x9 x11) > 20 then (some true) else (laws_FnNumFields.l0 k x0 (wrap64 (x3 + (mx (rd x9 x11) 1))) x9 x10 (wrap64 (x11 + 1))))) else (none)) else (none)) else (if (x0.length : Int) > 50 then (some true) else ((impl_NumFields.f x0).bind fun t114 => (some (t114 == x3))))
def laws_FnNumFields.f (k : Nat) (l0 : List Int) : Option (Bool) := if (l0.length : Int) > 2147483647 then (some true) else (laws_FnNumFields.l0 k l0 0 l0 (l0.length : Int) 0)
theorem laws_FnNumFields.mono_l : ∀ k, (∀ y0 y1 y2 y3 y4, LeO (laws_FnNumFields.l0 k y0 y1 y2 y3 y4) (laws_FnNumFields.l0 (k + 1) y0 y1 y2 y3 y4))
  | 0 => fun _ _ _ _ _ r h => by simp [laws_FnNumFields.l0] at h
  | k + 1 => by
    have ih0 := laws_FnNumFields.mono_l k
    · intro y0 y1 y2 y3 y4
      unfold laws_FnNumFields.l0
      repeat' first
      | (with_reducible exact ih0 _ _ _ _ _)
      | (with_reducible exact LeO.refl _)
      | (with_reducible exact LeO.none _)
      | (with_reducible refine LeO.ite ?_ ?_)
      | (with_reducible refine LeO.bind ?_ (fun _ => ?_))
      | exact ih0 _ _ _ _ _
      | exact LeO.none _
      | refine LeO.ite ?_ ?_
      | refine LeO.bind ?_ (fun _ => ?_)
theorem laws_FnNumFields.mono : ∀ a0 k, LeO (laws_FnNumFields.f k a0) (laws_FnNumFields.f (k + 1) a0) := by
  intro a0 k
  have ih0 := laws_FnNumFields.mono_l k
  unfold laws_FnNumFields.f
  repeat' first
      | (with_reducible exact ih0 _ _ _ _ _)
      | (with_reducible exact LeO.refl _)
      | (with_reducible exact LeO.none _)
      | (with_reducible refine LeO.ite ?_ ?_)
      | (with_reducible refine LeO.bind ?_ (fun _ => ?_))
      | exact ih0 _ _ _ _ _
      | exact LeO.none _
      | refine LeO.ite ?_ ?_
      | refine LeO.bind ?_ (fun _ => ?_)
set_option maxHeartbeats 8000000 in
set_option maxRecDepth 100000 in
theorem laws_FnNumFields.calls (k : Nat) (A0 : Option Addr) (c0 : Nat) (l0 : List Int) (r : Bool) (w : World) (hr0 : Kd.C (Kd.int .i64) w A0 l0.length l0) (hc0 : l0.length ≤ c0) (h : laws_FnNumFields.f k l0 = some r) :
    Calls Try.prog 4 #[.slice A0 l0.length c0] w fun e w' => e = .returned (.bool r) ∧ Below w.heap.size w w' := by
  have HR0 := Aside0.mk hr0
  have HC0 := Aside0.mk hc0
  clear hr0 hc0
  have HB := Aside0.mk (Below.refl w.heap.size w)
  have H : (if (l0.length : Int) > 2147483647 then (some true) else (laws_FnNumFields.l0 k l0 0 l0 (l0.length : Int) 0)) = some r := h
  clear h
  by_cases c2 : (l0.length : Int) > 2147483647
  · rw [if_pos c2] at H
    have c2b0 : decide (2147483647 < (l0.length : Int)) = true := decide_eq_true c2
    have c2b1 : decide (2147483647 < l0.length) = true := decide_eq_true (by omega)
    clear c2
    obtain rfl := Option.some.inj H
    go_enter Try.func4, Try.ntmps4
    go_wp2
    go_ret
    exact ⟨by first | rfl | (simp [errW_none, errW_some] <;> rfl) | (simp [*, errW_none, errW_some] <;> rfl), by repeat (first | (with_reducible first | exact HB.out | apply below_alloc | apply pw_below_drewN | apply below_drew1) | exact HB.out)⟩
  · rw [if_neg c2] at H
    have c2b0 : decide (2147483647 < (l0.length : Int)) = false := decide_eq_false c2
    have c2b1 : decide (2147483647 < l0.length) = false := decide_eq_false (by omega)
    clear c2
    have H' := Aside0.mk H
    clear H
    go_enter Try.func4, Try.ntmps4
    go_wp2
    go_loopg [3, 11] k (fun kq v3 v11 w' => ∃ (x3_1 : Int) (x11_1 : Int), v3 = .int .i64 x3_1 ∧ v11 = .int .i64 x11_1 ∧ Aside0 (laws_FnNumFields.l0 kq l0 x3_1 l0 (l0.length : Int) x11_1 = some r) ∧ Aside0 (kq ≤ k) ∧ Aside0 (Below w.heap.size w w'))
    case atStart => exact ⟨(0), (0), (by first | rfl | (simp; done) | (simp [*]; done)), (by first | rfl | (simp; done) | (simp [*]; done)), H', ⟨Nat.le_refl _⟩, ⟨by repeat (first | (with_reducible first | exact HB.out | apply below_alloc | apply pw_below_drewN | apply below_drew1) | exact HB.out)⟩⟩
    case round =>
      clear H'
      try clear c2
      try clear c2b0
      try clear c2b1
      try clear p2
      obtain ⟨x3_1, x11_1, rfl, rfl, HA, HK1, HB⟩ := hrel
      cases gk with
      | zero => exact absurd HA.out (by simp [laws_FnNumFields.l0])
      | succ k1 =>
        have H := HA.out
        clear HA
        simp only [laws_FnNumFields.l0] at H
        by_cases c3 : x11_1 < (l0.length : Int)
        · rw [if_pos c3] at H
          have c3b0 : decide (x11_1 < (l0.length : Int)) = true := decide_eq_true c3
          clear c3
          by_cases c4 : 0 ≤ x11_1
          · rw [if_pos c4] at H
            have c4b0 : decide (0 ≤ x11_1) = true := decide_eq_true c4
            clear c4
            by_cases c5 : x11_1 < (l0.length : Int)
            · rw [if_pos c5] at H
              have c5b0 : decide (x11_1 < (l0.length : Int)) = true := decide_eq_true c5
              clear c5
              by_cases c6 : (rd l0 x11_1) < 0
              · rw [if_pos c6] at H
                have c6b0 : decide ((rd l0 x11_1) < 0) = true := decide_eq_true c6
                clear c6
                obtain rfl := Option.some.inj H
                have p113 : 0 ≤ (x11_1 : Int) := of_decide_eq_true (by first | (with_reducible assumption) | assumption)
                have q113 : x11_1 < (l0.length : Int) := of_decide_eq_true (by first | (with_reducible assumption) | assumption)
                obtain ⟨ad113, e113, hx113_0⟩ := Kd.at_int HR0.out x11_1 p113 q113
                cases e113
                replace hx113_0 := (HB.out.cell (World.block_lt_of_cell? w _ hx113_0)).trans hx113_0
                replace p113 := eq_true p113
                replace q113 := eq_true q113
                go_wp2
                go_ret
                exact ⟨by first | rfl | (simp [errW_none, errW_some] <;> rfl) | (simp [*, errW_none, errW_some] <;> rfl), by repeat (first | (with_reducible first | exact HB.out | apply below_alloc | apply pw_below_drewN | apply below_drew1) | exact HB.out)⟩
              · rw [if_neg c6] at H
                have c6b0 : decide ((rd l0 x11_1) < 0) = false := decide_eq_false c6
                clear c6
                by_cases c7 : (rd l0 x11_1) > 20
                · rw [if_pos c7] at H
                  have c7b0 : decide (20 < (rd l0 x11_1)) = true := decide_eq_true c7
                  clear c7
                  obtain rfl := Option.some.inj H
                  have p113 : 0 ≤ (x11_1 : Int) := of_decide_eq_true (by first | (with_reducible assumption) | assumption)
                  have q113 : x11_1 < (l0.length : Int) := of_decide_eq_true (by first | (with_reducible assumption) | assumption)
                  obtain ⟨ad113, e113, hx113_0⟩ := Kd.at_int HR0.out x11_1 p113 q113
                  cases e113
                  replace hx113_0 := (HB.out.cell (World.block_lt_of_cell? w _ hx113_0)).trans hx113_0
                  replace p113 := eq_true p113
                  replace q113 := eq_true q113
                  go_wp2
                  go_ret
                  exact ⟨by first | rfl | (simp [errW_none, errW_some] <;> rfl) | (simp [*, errW_none, errW_some] <;> rfl), by repeat (first | (with_reducible first | exact HB.out | apply below_alloc | apply pw_below_drewN | apply below_drew1) | exact HB.out)⟩
                · rw [if_neg c7] at H
                  have c7b0 : decide (20 < (rd l0 x11_1)) = false := decide_eq_false c7
                  clear c7
                  obtain ⟨ji8, hji8⟩ : ∃ j_ : Int, (mx (rd l0 x11_1) 1) = j_ := ⟨_, rfl⟩
                  replace H : (laws_FnNumFields.l0 k1 l0 (wrap64 (x3_1 + (ji8))) l0 (l0.length : Int) (wrap64 (x11_1 + 1))) = some r := by first | (rw [hji8] at H; exact H) | (simp only [hji8] at H ⊢; exact H)
                  have hji8_ : (if (rd l0 x11_1) < 1 then 1 else (rd l0 x11_1)) = ji8 := hji8
                  have H' := Aside0.mk H
                  clear H
                  have p113 : 0 ≤ (x11_1 : Int) := of_decide_eq_true (by first | (with_reducible assumption) | assumption)
                  have q113 : x11_1 < (l0.length : Int) := of_decide_eq_true (by first | (with_reducible assumption) | assumption)
                  obtain ⟨ad113, e113, hx113_0⟩ := Kd.at_int HR0.out x11_1 p113 q113
                  cases e113
                  replace hx113_0 := (HB.out.cell (World.block_lt_of_cell? w _ hx113_0)).trans hx113_0
                  replace p113 := eq_true p113
                  replace q113 := eq_true q113
                  go_wp2
                  go_roundg k1
                  case measure => have := HK1.out; omega
                  case rel => exact ⟨(wrap64 (x3_1 + (ji8))), (wrap64 (x11_1 + 1)), (by first | rfl | (simp; done) | (simp only [← hji8] <;> (first | rfl | simp)) | (simp [*]; done)), (by first | rfl | (simp; done) | (simp [*]; done)), H', ⟨by have := HK1.out; omega⟩, ⟨by repeat (first | (with_reducible first | exact HB.out | apply below_alloc | apply pw_below_drewN | apply below_drew1) | exact HB.out)⟩⟩
            · rw [if_neg c5] at H
              exact absurd H (by simp)
          · rw [if_neg c4] at H
            exact absurd H (by simp)
        · rw [if_neg c3] at H
          have c3b0 : decide (x11_1 < (l0.length : Int)) = false := decide_eq_false c3
          clear c3
          by_cases c9 : (l0.length : Int) > 50
          · rw [if_pos c9] at H
            have c9b0 : decide (50 < (l0.length : Int)) = true := decide_eq_true c9
            have c9b1 : decide (50 < l0.length) = true := decide_eq_true (by omega)
            clear c9
            obtain rfl := Option.some.inj H
            go_wp2
            go_ret
            exact ⟨by first | rfl | (simp [errW_none, errW_some] <;> rfl) | (simp [*, errW_none, errW_some] <;> rfl), by repeat (first | (with_reducible first | exact HB.out | apply below_alloc | apply pw_below_drewN | apply below_drew1) | exact HB.out)⟩
          · rw [if_neg c9] at H
            have c9b0 : decide (50 < (l0.length : Int)) = false := decide_eq_false c9
            have c9b1 : decide (50 < l0.length) = false := decide_eq_false (by omega)
            clear c9
            replace H := Option.bind_eq_some_iff.mp H
            obtain ⟨t114, A100, H⟩ := H
            replace H : (some (t114 == x3_1)) = some r := H
            have A10 := Aside0.mk A100
            clear A100
            obtain rfl := Option.some.inj H
            go_wp2_with (first | (go_at_call 11; (with_reducible refine (impl_NumFields.calls _ _ l0 t114 _ ?side1 ?side2 A10.out).mono ?_); (case side1 => repeat (first | exact (Kd.C_below HR0.out HB.out) | (with_reducible refine Kd.C_alloc ?_ _) | (with_reducible refine Kd.C_drewN ?_ _) | (with_reducible refine Kd.C_drew ?_))); (case side2 => exact HC0.out); rintro e w11 ⟨rfl, hb⟩; have n0_ := Aside0.mk (below_step (by repeat (first | (with_reducible first | exact HB.out | apply below_alloc | apply pw_below_drewN | apply below_drew1) | exact HB.out)) hb); clear HB; have HB := n0_; clear n0_; (try clear hb); (try clear hb2); (try clear hk); (try clear hi)))
            go_ret
            exact ⟨by first | rfl | (simp [errW_none, errW_some] <;> rfl) | (simp [*, errW_none, errW_some] <;> rfl), by repeat (first | (with_reducible first | exact HB.out | apply below_alloc | apply pw_below_drewN | apply below_drew1) | exact HB.out)⟩

/-- THE ONE PURE STATEMENT of laws_FnNumFields: yours. -/
def laws_FnNumFields.Pure : Prop := ∀ (l0 : List Int), l0.length ≤ maxLen → l0.length * 8 ≤ 140737488351232 → (∀ x ∈ l0, (Lit.int .i64 x).wf = true) → ∃ k, laws_FnNumFields.f k l0 = some true
theorem laws_FnNumFields.walk (P : laws_FnNumFields.Pure) (a0 : Option Addr) (len0 cap0 : Nat) (z0 : List Int) (w : World) (w0 : (a0 = none ∧ len0 = 0 ∧ cap0 = 0 ∧ z0 = []) ∨ ∃ x, a0 = some x ∧ len0 ≤ cap0 ∧ cap0 ≤ maxLen ∧ z0.length = cap0 ∧ (∀ i, i < z0.length → w.cell? (x.add i) = some (.int .i64 (z0.getD i 0))) ∧ ∀ n ∈ z0, (Lit.int .i64 n).wf = true) (y0 : len0 * 8 ≤ 140737488351232) :
    Calls Try.prog 4 #[.slice a0 len0 cap0] w fun e w' => e = .returned (.bool true) ∧ Below w.heap.size w w' := by
  obtain ⟨l0, rfl, hr0, hm0, hw0, hc0⟩ := ReadsInt.ofRowC w0
  obtain ⟨k, h⟩ := P l0 hm0 y0 hw0
  refine (laws_FnNumFields.calls k _ _ l0 true w (Kd.C_of_reads (d := (0 : Int)) (h1 := fun _ => rfl) hr0) hc0 h).mono ?_
  rintro e w' ⟨rfl, hd⟩
  exact ⟨rfl, hd⟩

/-! ### spec_begins: function 37 -/
def spec_begins.f (a0 : ByteArray) (a1 : ByteArray) : Option (Bool) := if (a0.size : Int) ≥ (a1.size : Int) then (if 0 ≤ (a1.size : Int) then (if (a1.size : Int) ≤ (a0.size : Int) then (some ((a0.extract 0 ((a1.size : Int) : Int).toNat).toList == a1.toList)) else (none)) else (none)) else (some false)
set_option maxHeartbeats 8000000 in
set_option maxRecDepth 100000 in
theorem spec_begins.calls (a0 : ByteArray) (a1 : ByteArray) (r : Bool) (w : World) (h : spec_begins.f a0 a1 = some r) :
    Calls Try.prog 37 #[.string a0, .string a1] w fun e w' => e = .returned (.bool r) ∧ Drawn0 w w' := by
  have H : (if (a0.size : Int) ≥ (a1.size : Int) then (if 0 ≤ (a1.size : Int) then (if (a1.size : Int) ≤ (a0.size : Int) then (some ((a0.extract 0 ((a1.size : Int) : Int).toNat).toList == a1.toList)) else (none)) else (none)) else (some false)) = some r := h
  clear h
  by_cases c3 : (a0.size : Int) ≥ (a1.size : Int)
  · rw [if_pos c3] at H
    have c3b0 : decide ((a1.size : Int) ≤ (a0.size : Int)) = true := decide_eq_true c3
    have c3b1 : decide (a1.size ≤ a0.size) = true := decide_eq_true (Int.ofNat_le.mp c3)
    clear c3
    by_cases c4 : 0 ≤ (a1.size : Int)
    · rw [if_pos c4] at H
      have c4b0 := eq_true c4
      have c4b1 : decide (0 ≤ (a1.size : Int)) = true := decide_eq_true c4
      clear c4
      by_cases c5 : (a1.size : Int) ≤ (a0.size : Int)
      · rw [if_pos c5] at H
        have c5b0 := eq_true c5
        have c5b1 : decide ((a1.size : Int) ≤ (a0.size : Int)) = true := decide_eq_true c5
        clear c5
        obtain rfl := Option.some.inj H
        go_enter Try.func37, Try.ntmps37
        go_wp2
        go_ret
        exact ⟨by first | rfl | (simp; done) | (simp [*]; done), by repeat (first | exact Drawn0.refl _ | apply Drawn0.step)⟩
      · rw [if_neg c5] at H
        exact absurd H (by simp)
    · rw [if_neg c4] at H
      exact absurd H (by simp)
  · rw [if_neg c3] at H
    have c3b0 : decide ((a1.size : Int) ≤ (a0.size : Int)) = false := decide_eq_false c3
    have c3b1 : decide (a1.size ≤ a0.size) = false := decide_eq_false (fun h => c3 (Int.ofNat_le.mpr h))
    clear c3
    obtain rfl := Option.some.inj H
    go_enter Try.func37, Try.ntmps37
    go_wp2
    go_ret
    exact ⟨by first | rfl | (simp; done) | (simp [*]; done), by repeat (first | exact Drawn0.refl _ | apply Drawn0.step)⟩

/-! ### spec_lineEnd: function 38 -/
def spec_lineEnd.l0 : Nat → ByteArray → Int → Int → Option (Int)
  | 0, _, _, _ => none
  | k + 1, x0, x5, x6 => if x6 < x5 then (if 0 ≤ x6 then (if x6 < (x0.size : Int) then (if (bt x0 x6) = 10 then (some x6) else (spec_lineEnd.l0 k x0 x5 (wrap64 (x6 + 1)))) else (none)) else (none)) else (some (x0.size : Int))
def spec_lineEnd.f (k : Nat) (a0 : ByteArray) : Option (Int) := spec_lineEnd.l0 k a0 (a0.size : Int) 0
theorem spec_lineEnd.mono_l : ∀ k, (∀ y0 y1 y2, LeO (spec_lineEnd.l0 k y0 y1 y2) (spec_lineEnd.l0 (k + 1) y0 y1 y2))
  | 0 => fun _ _ _ r h => by simp [spec_lineEnd.l0] at h
  | k + 1 => by
    have ih0 := spec_lineEnd.mono_l k
    · intro y0 y1 y2
      unfold spec_lineEnd.l0
      repeat' first
      | (with_reducible exact ih0 _ _ _)
      | (with_reducible exact LeO.refl _)
      | (with_reducible exact LeO.none _)
      | (with_reducible refine LeO.ite ?_ ?_)
      | (with_reducible refine LeO.bind ?_ (fun _ => ?_))
      | exact ih0 _ _ _
      | exact LeO.none _
      | refine LeO.ite ?_ ?_
      | refine LeO.bind ?_ (fun _ => ?_)
theorem spec_lineEnd.mono : ∀ a0 k, LeO (spec_lineEnd.f k a0) (spec_lineEnd.f (k + 1) a0) := by
  intro a0 k
  have ih0 := spec_lineEnd.mono_l k
  unfold spec_lineEnd.f
  repeat' first
      | (with_reducible exact ih0 _ _ _)
      | (with_reducible exact LeO.refl _)
      | (with_reducible exact LeO.none _)
      | (with_reducible refine LeO.ite ?_ ?_)
      | (with_reducible refine LeO.bind ?_ (fun _ => ?_))
      | exact ih0 _ _ _
      | exact LeO.none _
      | refine LeO.ite ?_ ?_
      | refine LeO.bind ?_ (fun _ => ?_)
set_option maxHeartbeats 8000000 in
set_option maxRecDepth 100000 in
theorem spec_lineEnd.calls (k : Nat) (a0 : ByteArray) (r : Int) (w : World) (h : spec_lineEnd.f k a0 = some r) :
    Calls Try.prog 38 #[.string a0] w fun e w' => e = .returned (.int .i64 r) ∧ Drawn0 w w' := by
  have H : (spec_lineEnd.l0 k a0 (a0.size : Int) 0) = some r := h
  clear h
  have H' := Aside0.mk H
  clear H
  go_enter Try.func38, Try.ntmps38
  go_wp2
  go_loopg [6] k (fun kq v6 w' => ∃ (x6_1 : Int), v6 = .int .i64 x6_1 ∧ Aside0 (spec_lineEnd.l0 kq a0 (a0.size : Int) x6_1 = some r) ∧ Aside0 (kq ≤ k) ∧ Drawn0 w w')
  case atStart => exact ⟨(0), (by first | rfl | (simp; done) | (simp [*]; done)), H', ⟨Nat.le_refl _⟩, by repeat (first | exact Drawn0.refl _ | apply Drawn0.step)⟩
  case round =>
    clear H'
    obtain ⟨x6_1, rfl, HA, HK1, ⟨m1, rfl⟩⟩ := hrel
    cases gk with
    | zero => exact absurd HA.out (by simp [spec_lineEnd.l0])
    | succ k1 =>
      have H := HA.out
      clear HA
      simp only [spec_lineEnd.l0] at H
      by_cases c2 : x6_1 < (a0.size : Int)
      · rw [if_pos c2] at H
        have c2b0 : decide (x6_1 < (a0.size : Int)) = true := decide_eq_true c2
        clear c2
        by_cases c3 : 0 ≤ x6_1
        · rw [if_pos c3] at H
          have c3b0 : decide (0 ≤ x6_1) = true := decide_eq_true c3
          clear c3
          by_cases c4 : x6_1 < (a0.size : Int)
          · rw [if_pos c4] at H
            have c4b0 : decide (x6_1 < (a0.size : Int)) = true := decide_eq_true c4
            clear c4
            by_cases c6 : (bt a0 x6_1) = 10
            · rw [if_pos c6] at H
              have c6b0 : ((bt a0 x6_1) == 10) = true := beq_iff_eq.mpr c6
              have c6b1 : ((bt a0 x6_1) != 10) = false := bne_eq_false_iff_eq.mpr c6
              clear c6
              obtain rfl := Option.some.inj H
              have p5 : 0 ≤ (x6_1 : Int) := of_decide_eq_true (by first | (with_reducible assumption) | assumption)
              have q5 : x6_1 < (a0.size : Int) := of_decide_eq_true (by first | (with_reducible assumption) | assumption)
              have hx5 := bt_at a0 x6_1
              replace p5 := eq_true p5
              replace q5 := eq_true q5
              go_wp2
              go_ret
              exact ⟨by first | rfl | (simp; done) | (simp [*]; done), by repeat (first | exact Drawn0.refl _ | apply Drawn0.step)⟩
            · rw [if_neg c6] at H
              have c6b0 : ((bt a0 x6_1) == 10) = false := beq_eq_false_iff_ne.mpr c6
              have c6b1 : ((bt a0 x6_1) != 10) = true := bne_iff_ne.mpr c6
              have H' := Aside0.mk H
              clear H
              have p5 : 0 ≤ (x6_1 : Int) := of_decide_eq_true (by first | (with_reducible assumption) | assumption)
              have q5 : x6_1 < (a0.size : Int) := of_decide_eq_true (by first | (with_reducible assumption) | assumption)
              have hx5 := bt_at a0 x6_1
              replace p5 := eq_true p5
              replace q5 := eq_true q5
              go_wp2
              go_roundg k1
              case measure => have := HK1.out; omega
              case rel => exact ⟨(wrap64 (x6_1 + 1)), (by first | rfl | (simp; done) | (simp [*]; done)), H', ⟨by have := HK1.out; omega⟩, by repeat (first | exact Drawn0.refl _ | apply Drawn0.step)⟩
          · rw [if_neg c4] at H
            exact absurd H (by simp)
        · rw [if_neg c3] at H
          exact absurd H (by simp)
      · rw [if_neg c2] at H
        have c2b0 : decide (x6_1 < (a0.size : Int)) = false := decide_eq_false c2
        clear c2
        obtain rfl := Option.some.inj H
        go_wp2
        go_ret
        exact ⟨by first | rfl | (simp; done) | (simp [*]; done), by repeat (first | exact Drawn0.refl _ | apply Drawn0.step)⟩

end Go.Proofs.Yteaelkeiocogfaa.A
