-- Written by a program of this session (gprint.py) out of the kit's print of the translation. Not trusted: Lean checks it.
import Derived.Test.YtbojpbfckgjgbaaGreatA0
namespace Go.Proofs.YtbojpbfckgjgbaaGreat.A
open Go.RowKit Go.Proofs.YtbojpbfckgjgbaaGreatW.PrintWords Go.Proofs.YtbojpbfckgjgbaaGreatW.PrintLast Go.Proofs.YtbojpbfckgjgbaaGreatW.PrintMore
attribute [local go_sem] max2_int min2_int max_two min_two max_three min_three max_four min_four   -- for this text's walks alone
set_option linter.unusedVariables false
set_option linter.unusedSimpArgs false

/-! ### laws_zzFits9: function 4 -/
def laws_zzFits9.f (a0_0 : ByteArray) (a0_1 : ByteArray) (l0_2 : List Int) (l0_3 : List (S25)) : Option (Bool) := if (a0_0.size : Int) > 2147483647 then (some false) else (if (a0_1.size : Int) > 2147483647 then (some false) else (if (l0_2.length : Int) > 2147483647 then (some false) else (if (l0_3.length : Int) > 2147483647 then (some false) else (some true))))
set_option maxHeartbeats 8000000 in
set_option maxRecDepth 100000 in
theorem laws_zzFits9.calls (a0_0 : ByteArray) (a0_1 : ByteArray) (A0_2 : Option Addr) (c0_2 : Nat) (l0_2 : List Int) (A0_3 : Option Addr) (c0_3 : Nat) (l0_3 : List (S25)) (r : Bool) (w : World) (hr0_2 : Kd.C (Kd.int .i64) w A0_2 l0_2.length l0_2) (hc0_2 : l0_2.length ≤ c0_2) (hr0_3 : Kd.C k25 w A0_3 l0_3.length l0_3) (hc0_3 : l0_3.length ≤ c0_3) (h : laws_zzFits9.f a0_0 a0_1 l0_2 l0_3 = some r) :
    Calls Tryz.prog 4 #[.agg #[.string a0_0, .string a0_1, .slice A0_2 l0_2.length c0_2, .slice A0_3 l0_3.length c0_3]] w fun e w' => e = .returned (.bool r) ∧ Below w.heap.size w w' := by
  have hu25 := Tryz.underlying25
  have HR0_2 := Aside0.mk hr0_2
  have HC0_2 := Aside0.mk hc0_2
  clear hr0_2 hc0_2
  have HR0_3 := Aside0.mk hr0_3
  have HC0_3 := Aside0.mk hc0_3
  clear hr0_3 hc0_3
  have HB := Aside0.mk (Below.refl w.heap.size w)
  have H : (if (a0_0.size : Int) > 2147483647 then (some false) else (if (a0_1.size : Int) > 2147483647 then (some false) else (if (l0_2.length : Int) > 2147483647 then (some false) else (if (l0_3.length : Int) > 2147483647 then (some false) else (some true))))) = some r := h
  clear h
  by_cases c2 : (a0_0.size : Int) > 2147483647
  · rw [if_pos c2] at H
    have c2b0 : decide (2147483647 < (a0_0.size : Int)) = true := decide_eq_true c2
    have c2b1 : decide (2147483647 < a0_0.size) = true := decide_eq_true (by omega)
    clear c2
    obtain rfl := Option.some.inj H
    go_enter Tryz.func4, Tryz.ntmps4
    go_wp2_with (first | ((with_reducible refine gate_dst (N := 1) rfl ?_); refine box_event ?hg (N := 1) ?hd (cs := #[.string a0_0, .string a0_1, .slice A0_2 l0_2.length c0_2, .slice A0_3 l0_3.length c0_3]) (t := 25) ?hr ?_; (case hd => rfl); (case hg => rfl); (case hr => first | (go_simp; done) | (go_simp; rfl)); intro gb101 hg w3 hbox hb; have n0_ := Aside0.mk (below_step (by repeat (first | (with_reducible first | exact HB.out | apply below_alloc | apply pw_below_drewN | apply below_drew1) | exact HB.out)) hb); have n1_ := Aside0.mk (hbox); have n2_ := Aside0.mk ((by rw [hg]; exact (below_size (by repeat (first | (with_reducible first | exact HB.out | apply below_alloc | apply pw_below_drewN | apply below_drew1) | exact HB.out))) : w.heap.size ≤ gb101)); have n3_ := Aside0.mk ((by rw [hg]; exact (below_size (by repeat (first | (with_reducible first | exact HB.out | apply below_alloc | apply pw_below_drewN | apply below_drew1) | exact HB.out))) : w.heap.size ≤ gb101)); clear HB; have HB := n0_; have BK101 := n1_; have GW101 := n2_; have GE101 := n3_; clear n0_ n1_ n2_ n3_; clear hb hbox hg; have hcz4_0 : w3.cell? ⟨gb101, 0, none⟩ = some (.string a0_0) := (blk_cell BK101.out 0).trans rfl; have hcz4_1 : w3.cell? ⟨gb101, 1, none⟩ = some (.string a0_1) := (blk_cell BK101.out 1).trans rfl; have hcz4_2 : w3.cell? ⟨gb101, 2, none⟩ = some (.slice A0_2 l0_2.length c0_2) := (blk_cell BK101.out 2).trans rfl; have hcz4_3 : w3.cell? ⟨gb101, 3, none⟩ = some (.slice A0_3 l0_3.length c0_3) := (blk_cell BK101.out 3).trans rfl; have hfz4_0 := blk_frozen BK101.out 0; have hfz4_1 := blk_frozen BK101.out 1; have hfz4_2 := blk_frozen BK101.out 2; have hfz4_3 := blk_frozen BK101.out 3))
    go_ret
    exact ⟨by first | rfl | (simp [errW_none, errW_some] <;> rfl) | (simp [*, errW_none, errW_some] <;> rfl), by repeat (first | (with_reducible first | exact HB.out | apply below_alloc | apply pw_below_drewN | apply below_drew1 | refine below_set ?_ GE101.out) | exact HB.out)⟩
  · rw [if_neg c2] at H
    have c2b0 : decide (2147483647 < (a0_0.size : Int)) = false := decide_eq_false c2
    have c2b1 : decide (2147483647 < a0_0.size) = false := decide_eq_false (by omega)
    clear c2
    by_cases c5 : (a0_1.size : Int) > 2147483647
    · rw [if_pos c5] at H
      have c5b0 : decide (2147483647 < (a0_1.size : Int)) = true := decide_eq_true c5
      have c5b1 : decide (2147483647 < a0_1.size) = true := decide_eq_true (by omega)
      clear c5
      obtain rfl := Option.some.inj H
      go_enter Tryz.func4, Tryz.ntmps4
      go_wp2_with (first | ((with_reducible refine gate_dst (N := 1) rfl ?_); refine box_event ?hg (N := 1) ?hd (cs := #[.string a0_0, .string a0_1, .slice A0_2 l0_2.length c0_2, .slice A0_3 l0_3.length c0_3]) (t := 25) ?hr ?_; (case hd => rfl); (case hg => rfl); (case hr => first | (go_simp; done) | (go_simp; rfl)); intro gb101 hg w6 hbox hb; have n0_ := Aside0.mk (below_step (by repeat (first | (with_reducible first | exact HB.out | apply below_alloc | apply pw_below_drewN | apply below_drew1) | exact HB.out)) hb); have n1_ := Aside0.mk (hbox); have n2_ := Aside0.mk ((by rw [hg]; exact (below_size (by repeat (first | (with_reducible first | exact HB.out | apply below_alloc | apply pw_below_drewN | apply below_drew1) | exact HB.out))) : w.heap.size ≤ gb101)); have n3_ := Aside0.mk ((by rw [hg]; exact (below_size (by repeat (first | (with_reducible first | exact HB.out | apply below_alloc | apply pw_below_drewN | apply below_drew1) | exact HB.out))) : w.heap.size ≤ gb101)); clear HB; have HB := n0_; have BK101 := n1_; have GW101 := n2_; have GE101 := n3_; clear n0_ n1_ n2_ n3_; clear hb hbox hg; have hcz7_0 : w6.cell? ⟨gb101, 0, none⟩ = some (.string a0_0) := (blk_cell BK101.out 0).trans rfl; have hcz7_1 : w6.cell? ⟨gb101, 1, none⟩ = some (.string a0_1) := (blk_cell BK101.out 1).trans rfl; have hcz7_2 : w6.cell? ⟨gb101, 2, none⟩ = some (.slice A0_2 l0_2.length c0_2) := (blk_cell BK101.out 2).trans rfl; have hcz7_3 : w6.cell? ⟨gb101, 3, none⟩ = some (.slice A0_3 l0_3.length c0_3) := (blk_cell BK101.out 3).trans rfl; have hfz7_0 := blk_frozen BK101.out 0; have hfz7_1 := blk_frozen BK101.out 1; have hfz7_2 := blk_frozen BK101.out 2; have hfz7_3 := blk_frozen BK101.out 3))
      go_ret
      exact ⟨by first | rfl | (simp [errW_none, errW_some] <;> rfl) | (simp [*, errW_none, errW_some] <;> rfl), by repeat (first | (with_reducible first | exact HB.out | apply below_alloc | apply pw_below_drewN | apply below_drew1 | refine below_set ?_ GE101.out) | exact HB.out)⟩
    · rw [if_neg c5] at H
      have c5b0 : decide (2147483647 < (a0_1.size : Int)) = false := decide_eq_false c5
      have c5b1 : decide (2147483647 < a0_1.size) = false := decide_eq_false (by omega)
      clear c5
      by_cases c8 : (l0_2.length : Int) > 2147483647
      · rw [if_pos c8] at H
        have c8b0 : decide (2147483647 < (l0_2.length : Int)) = true := decide_eq_true c8
        have c8b1 : decide (2147483647 < l0_2.length) = true := decide_eq_true (by omega)
        clear c8
        obtain rfl := Option.some.inj H
        go_enter Tryz.func4, Tryz.ntmps4
        go_wp2_with (first | ((with_reducible refine gate_dst (N := 1) rfl ?_); refine box_event ?hg (N := 1) ?hd (cs := #[.string a0_0, .string a0_1, .slice A0_2 l0_2.length c0_2, .slice A0_3 l0_3.length c0_3]) (t := 25) ?hr ?_; (case hd => rfl); (case hg => rfl); (case hr => first | (go_simp; done) | (go_simp; rfl)); intro gb101 hg w9 hbox hb; have n0_ := Aside0.mk (below_step (by repeat (first | (with_reducible first | exact HB.out | apply below_alloc | apply pw_below_drewN | apply below_drew1) | exact HB.out)) hb); have n1_ := Aside0.mk (hbox); have n2_ := Aside0.mk ((by rw [hg]; exact (below_size (by repeat (first | (with_reducible first | exact HB.out | apply below_alloc | apply pw_below_drewN | apply below_drew1) | exact HB.out))) : w.heap.size ≤ gb101)); have n3_ := Aside0.mk ((by rw [hg]; exact (below_size (by repeat (first | (with_reducible first | exact HB.out | apply below_alloc | apply pw_below_drewN | apply below_drew1) | exact HB.out))) : w.heap.size ≤ gb101)); clear HB; have HB := n0_; have BK101 := n1_; have GW101 := n2_; have GE101 := n3_; clear n0_ n1_ n2_ n3_; clear hb hbox hg; have hcz10_0 : w9.cell? ⟨gb101, 0, none⟩ = some (.string a0_0) := (blk_cell BK101.out 0).trans rfl; have hcz10_1 : w9.cell? ⟨gb101, 1, none⟩ = some (.string a0_1) := (blk_cell BK101.out 1).trans rfl; have hcz10_2 : w9.cell? ⟨gb101, 2, none⟩ = some (.slice A0_2 l0_2.length c0_2) := (blk_cell BK101.out 2).trans rfl; have hcz10_3 : w9.cell? ⟨gb101, 3, none⟩ = some (.slice A0_3 l0_3.length c0_3) := (blk_cell BK101.out 3).trans rfl; have hfz10_0 := blk_frozen BK101.out 0; have hfz10_1 := blk_frozen BK101.out 1; have hfz10_2 := blk_frozen BK101.out 2; have hfz10_3 := blk_frozen BK101.out 3))
        go_ret
        exact ⟨by first | rfl | (simp [errW_none, errW_some] <;> rfl) | (simp [*, errW_none, errW_some] <;> rfl), by repeat (first | (with_reducible first | exact HB.out | apply below_alloc | apply pw_below_drewN | apply below_drew1 | refine below_set ?_ GE101.out) | exact HB.out)⟩
      · rw [if_neg c8] at H
        have c8b0 : decide (2147483647 < (l0_2.length : Int)) = false := decide_eq_false c8
        have c8b1 : decide (2147483647 < l0_2.length) = false := decide_eq_false (by omega)
        clear c8
        by_cases c11 : (l0_3.length : Int) > 2147483647
        · rw [if_pos c11] at H
          have c11b0 : decide (2147483647 < (l0_3.length : Int)) = true := decide_eq_true c11
          have c11b1 : decide (2147483647 < l0_3.length) = true := decide_eq_true (by omega)
          clear c11
          obtain rfl := Option.some.inj H
          go_enter Tryz.func4, Tryz.ntmps4
          go_wp2_with (first | ((with_reducible refine gate_dst (N := 1) rfl ?_); refine box_event ?hg (N := 1) ?hd (cs := #[.string a0_0, .string a0_1, .slice A0_2 l0_2.length c0_2, .slice A0_3 l0_3.length c0_3]) (t := 25) ?hr ?_; (case hd => rfl); (case hg => rfl); (case hr => first | (go_simp; done) | (go_simp; rfl)); intro gb101 hg w12 hbox hb; have n0_ := Aside0.mk (below_step (by repeat (first | (with_reducible first | exact HB.out | apply below_alloc | apply pw_below_drewN | apply below_drew1) | exact HB.out)) hb); have n1_ := Aside0.mk (hbox); have n2_ := Aside0.mk ((by rw [hg]; exact (below_size (by repeat (first | (with_reducible first | exact HB.out | apply below_alloc | apply pw_below_drewN | apply below_drew1) | exact HB.out))) : w.heap.size ≤ gb101)); have n3_ := Aside0.mk ((by rw [hg]; exact (below_size (by repeat (first | (with_reducible first | exact HB.out | apply below_alloc | apply pw_below_drewN | apply below_drew1) | exact HB.out))) : w.heap.size ≤ gb101)); clear HB; have HB := n0_; have BK101 := n1_; have GW101 := n2_; have GE101 := n3_; clear n0_ n1_ n2_ n3_; clear hb hbox hg; have hcz13_0 : w12.cell? ⟨gb101, 0, none⟩ = some (.string a0_0) := (blk_cell BK101.out 0).trans rfl; have hcz13_1 : w12.cell? ⟨gb101, 1, none⟩ = some (.string a0_1) := (blk_cell BK101.out 1).trans rfl; have hcz13_2 : w12.cell? ⟨gb101, 2, none⟩ = some (.slice A0_2 l0_2.length c0_2) := (blk_cell BK101.out 2).trans rfl; have hcz13_3 : w12.cell? ⟨gb101, 3, none⟩ = some (.slice A0_3 l0_3.length c0_3) := (blk_cell BK101.out 3).trans rfl; have hfz13_0 := blk_frozen BK101.out 0; have hfz13_1 := blk_frozen BK101.out 1; have hfz13_2 := blk_frozen BK101.out 2; have hfz13_3 := blk_frozen BK101.out 3))
          go_ret
          exact ⟨by first | rfl | (simp [errW_none, errW_some] <;> rfl) | (simp [*, errW_none, errW_some] <;> rfl), by repeat (first | (with_reducible first | exact HB.out | apply below_alloc | apply pw_below_drewN | apply below_drew1 | refine below_set ?_ GE101.out) | exact HB.out)⟩
        · rw [if_neg c11] at H
          have c11b0 : decide (2147483647 < (l0_3.length : Int)) = false := decide_eq_false c11
          have c11b1 : decide (2147483647 < l0_3.length) = false := decide_eq_false (by omega)
          clear c11
          obtain rfl := Option.some.inj H
          go_enter Tryz.func4, Tryz.ntmps4
          go_wp2_with (first | ((with_reducible refine gate_dst (N := 1) rfl ?_); refine box_event ?hg (N := 1) ?hd (cs := #[.string a0_0, .string a0_1, .slice A0_2 l0_2.length c0_2, .slice A0_3 l0_3.length c0_3]) (t := 25) ?hr ?_; (case hd => rfl); (case hg => rfl); (case hr => first | (go_simp; done) | (go_simp; rfl)); intro gb101 hg w14 hbox hb; have n0_ := Aside0.mk (below_step (by repeat (first | (with_reducible first | exact HB.out | apply below_alloc | apply pw_below_drewN | apply below_drew1) | exact HB.out)) hb); have n1_ := Aside0.mk (hbox); have n2_ := Aside0.mk ((by rw [hg]; exact (below_size (by repeat (first | (with_reducible first | exact HB.out | apply below_alloc | apply pw_below_drewN | apply below_drew1) | exact HB.out))) : w.heap.size ≤ gb101)); have n3_ := Aside0.mk ((by rw [hg]; exact (below_size (by repeat (first | (with_reducible first | exact HB.out | apply below_alloc | apply pw_below_drewN | apply below_drew1) | exact HB.out))) : w.heap.size ≤ gb101)); clear HB; have HB := n0_; have BK101 := n1_; have GW101 := n2_; have GE101 := n3_; clear n0_ n1_ n2_ n3_; clear hb hbox hg; have hcz15_0 : w14.cell? ⟨gb101, 0, none⟩ = some (.string a0_0) := (blk_cell BK101.out 0).trans rfl; have hcz15_1 : w14.cell? ⟨gb101, 1, none⟩ = some (.string a0_1) := (blk_cell BK101.out 1).trans rfl; have hcz15_2 : w14.cell? ⟨gb101, 2, none⟩ = some (.slice A0_2 l0_2.length c0_2) := (blk_cell BK101.out 2).trans rfl; have hcz15_3 : w14.cell? ⟨gb101, 3, none⟩ = some (.slice A0_3 l0_3.length c0_3) := (blk_cell BK101.out 3).trans rfl; have hfz15_0 := blk_frozen BK101.out 0; have hfz15_1 := blk_frozen BK101.out 1; have hfz15_2 := blk_frozen BK101.out 2; have hfz15_3 := blk_frozen BK101.out 3))
          go_ret
          exact ⟨by first | rfl | (simp [errW_none, errW_some] <;> rfl) | (simp [*, errW_none, errW_some] <;> rfl), by repeat (first | (with_reducible first | exact HB.out | apply below_alloc | apply pw_below_drewN | apply below_drew1 | refine below_set ?_ GE101.out) | exact HB.out)⟩

end Go.Proofs.YtbojpbfckgjgbaaGreat.A
