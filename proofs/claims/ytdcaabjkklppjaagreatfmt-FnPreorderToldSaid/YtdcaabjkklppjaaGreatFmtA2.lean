-- Written by a program of this session (gprint.py) out of the kit's print of the translation. Not trusted: Lean checks it.
import Derived.Test.YtdcaabjkklppjaaGreatFmtA0
namespace Go.Proofs.YtdcaabjkklppjaaGreatFmt.A
open Go.RowKit Go.Proofs.YtdcaabjkklppjaaGreatFmtW.PrintWords Go.Proofs.YtdcaabjkklppjaaGreatFmtW.PrintLast Go.Proofs.YtdcaabjkklppjaaGreatFmtW.PrintMore
attribute [local go_sem] max2_int min2_int max_two min_two max_three min_three max_four min_four   -- for this text's walks alone
set_option linter.unusedVariables false
set_option linter.unusedSimpArgs false

/-! ### laws_zzFits10: function 9 -/
def laws_zzFits10.f (a0_0 : ByteArray) (a0_1 : ByteArray) (l0_2 : List (S24)) : Option (Bool) := if (a0_0.size : Int) > 2147483647 then (some false) else (if (a0_1.size : Int) > 2147483647 then (some false) else (if (l0_2.length : Int) > 2147483647 then (some false) else (some true)))
set_option maxHeartbeats 8000000 in
set_option maxRecDepth 100000 in
theorem laws_zzFits10.calls (a0_0 : ByteArray) (a0_1 : ByteArray) (A0_2 : Option Addr) (c0_2 : Nat) (l0_2 : List (S24)) (r : Bool) (w : World) (hr0_2 : Kd.C k24 w A0_2 l0_2.length l0_2) (hc0_2 : l0_2.length ≤ c0_2) (h : laws_zzFits10.f a0_0 a0_1 l0_2 = some r) :
    Calls Tryz.prog 9 #[.agg #[.string a0_0, .string a0_1, .slice A0_2 l0_2.length c0_2]] w fun e w' => e = .returned (.bool r) ∧ Below w.heap.size w w' := by
  have hu24 := Tryz.underlying24
  have HR0_2 := Aside0.mk hr0_2
  have HC0_2 := Aside0.mk hc0_2
  clear hr0_2 hc0_2
  have HB := Aside0.mk (Below.refl w.heap.size w)
  have H : (if (a0_0.size : Int) > 2147483647 then (some false) else (if (a0_1.size : Int) > 2147483647 then (some false) else (if (l0_2.length : Int) > 2147483647 then (some false) else (some true)))) = some r := h
  clear h
  by_cases c2 : (a0_0.size : Int) > 2147483647
  · rw [if_pos c2] at H
    have c2b0 : decide (2147483647 < (a0_0.size : Int)) = true := decide_eq_true c2
    have c2b1 : decide (2147483647 < a0_0.size) = true := decide_eq_true (by omega)
    clear c2
    obtain rfl := Option.some.inj H
    go_enter Tryz.func9, Tryz.ntmps9
    go_wp2_with (first | ((with_reducible refine gate_dst (N := 1) rfl ?_); refine box_event ?hg (N := 1) ?hd (cs := #[.string a0_0, .string a0_1, .slice A0_2 l0_2.length c0_2]) (t := 24) ?hr ?_; (case hd => rfl); (case hg => rfl); (case hr => first | (go_simp; done) | (go_simp; rfl)); intro gb101 hg w3 hbox hb; have n0_ := Aside0.mk (below_step (by repeat (first | (with_reducible first | exact HB.out | apply below_alloc | apply pw_below_drewN | apply below_drew1) | exact HB.out)) hb); have n1_ := Aside0.mk (hbox); have n2_ := Aside0.mk ((by rw [hg]; exact (below_size (by repeat (first | (with_reducible first | exact HB.out | apply below_alloc | apply pw_below_drewN | apply below_drew1) | exact HB.out))) : w.heap.size ≤ gb101)); have n3_ := Aside0.mk ((by rw [hg]; exact (below_size (by repeat (first | (with_reducible first | exact HB.out | apply below_alloc | apply pw_below_drewN | apply below_drew1) | exact HB.out))) : w.heap.size ≤ gb101)); clear HB; have HB := n0_; have BK101 := n1_; have GW101 := n2_; have GE101 := n3_; clear n0_ n1_ n2_ n3_; clear hb hbox hg; have hcz4_0 : w3.cell? ⟨gb101, 0, none⟩ = some (.string a0_0) := (blk_cell BK101.out 0).trans rfl; have hcz4_1 : w3.cell? ⟨gb101, 1, none⟩ = some (.string a0_1) := (blk_cell BK101.out 1).trans rfl; have hcz4_2 : w3.cell? ⟨gb101, 2, none⟩ = some (.slice A0_2 l0_2.length c0_2) := (blk_cell BK101.out 2).trans rfl; have hfz4_0 := blk_frozen BK101.out 0; have hfz4_1 := blk_frozen BK101.out 1; have hfz4_2 := blk_frozen BK101.out 2))
    go_ret
    exact ⟨by first | rfl | (simp [errW_none, errW_some] <;> rfl) | (simp [*, errW_none, errW_some] <;> rfl), by repeat (first | (with_reducible first | exact HB.out | apply below_alloc | apply pw_below_drewN | apply below_drew1 | refine below_set ?_ GE101.out) | exact HB.out)⟩
  · rw [if_neg c2] at H
    have c2b0 : decide (2147483647 < (a0_0.size : Int)) = false := decide_eq_false c2
    have c2b1 : decide (2147483647 < a0_0.size) = false := decide_eq_false (by omega)
    clear c2
    by_cases c5 : (a0_1.size : Int) > 2147483647
    · rw [if_pos c5] at H
      have c5b0 : decide (2147483647 < (a0_1.size : Int)) = true := decide_eq_true c5
      have c5b1 : decide (2147483647 < a0_1.size) = true := decide_eq_true (by omega)
      clear c5
      obtain rfl := Option.some.inj H
      go_enter Tryz.func9, Tryz.ntmps9
      go_wp2_with (first | ((with_reducible refine gate_dst (N := 1) rfl ?_); refine box_event ?hg (N := 1) ?hd (cs := #[.string a0_0, .string a0_1, .slice A0_2 l0_2.length c0_2]) (t := 24) ?hr ?_; (case hd => rfl); (case hg => rfl); (case hr => first | (go_simp; done) | (go_simp; rfl)); intro gb101 hg w6 hbox hb; have n0_ := Aside0.mk (below_step (by repeat (first | (with_reducible first | exact HB.out | apply below_alloc | apply pw_below_drewN | apply below_drew1) | exact HB.out)) hb); have n1_ := Aside0.mk (hbox); have n2_ := Aside0.mk ((by rw [hg]; exact (below_size (by repeat (first | (with_reducible first | exact HB.out | apply below_alloc | apply pw_below_drewN | apply below_drew1) | exact HB.out))) : w.heap.size ≤ gb101)); have n3_ := Aside0.mk ((by rw [hg]; exact (below_size (by repeat (first | (with_reducible first | exact HB.out | apply below_alloc | apply pw_below_drewN | apply below_drew1) | exact HB.out))) : w.heap.size ≤ gb101)); clear HB; have HB := n0_; have BK101 := n1_; have GW101 := n2_; have GE101 := n3_; clear n0_ n1_ n2_ n3_; clear hb hbox hg; have hcz7_0 : w6.cell? ⟨gb101, 0, none⟩ = some (.string a0_0) := (blk_cell BK101.out 0).trans rfl; have hcz7_1 : w6.cell? ⟨gb101, 1, none⟩ = some (.string a0_1) := (blk_cell BK101.out 1).trans rfl; have hcz7_2 : w6.cell? ⟨gb101, 2, none⟩ = some (.slice A0_2 l0_2.length c0_2) := (blk_cell BK101.out 2).trans rfl; have hfz7_0 := blk_frozen BK101.out 0; have hfz7_1 := blk_frozen BK101.out 1; have hfz7_2 := blk_frozen BK101.out 2))
      go_ret
      exact ⟨by first | rfl | (simp [errW_none, errW_some] <;> rfl) | (simp [*, errW_none, errW_some] <;> rfl), by repeat (first | (with_reducible first | exact HB.out | apply below_alloc | apply pw_below_drewN | apply below_drew1 | refine below_set ?_ GE101.out) | exact HB.out)⟩
    · rw [if_neg c5] at H
      have c5b0 : decide (2147483647 < (a0_1.size : Int)) = false := decide_eq_false c5
      have c5b1 : decide (2147483647 < a0_1.size) = false := decide_eq_false (by omega)
      clear c5
      by_cases c8 : (l0_2.length : Int) > 2147483647
      · rw [if_pos c8] at H
        have c8b0 : decide (2147483647 < (l0_2.length : Int)) = true := decide_eq_true c8
        have c8b1 : decide (2147483647 < l0_2.length) = true := decide_eq_true (by omega)
        clear c8
        obtain rfl := Option.some.inj H
        go_enter Tryz.func9, Tryz.ntmps9
        go_wp2_with (first | ((with_reducible refine gate_dst (N := 1) rfl ?_); refine box_event ?hg (N := 1) ?hd (cs := #[.string a0_0, .string a0_1, .slice A0_2 l0_2.length c0_2]) (t := 24) ?hr ?_; (case hd => rfl); (case hg => rfl); (case hr => first | (go_simp; done) | (go_simp; rfl)); intro gb101 hg w9 hbox hb; have n0_ := Aside0.mk (below_step (by repeat (first | (with_reducible first | exact HB.out | apply below_alloc | apply pw_below_drewN | apply below_drew1) | exact HB.out)) hb); have n1_ := Aside0.mk (hbox); have n2_ := Aside0.mk ((by rw [hg]; exact (below_size (by repeat (first | (with_reducible first | exact HB.out | apply below_alloc | apply pw_below_drewN | apply below_drew1) | exact HB.out))) : w.heap.size ≤ gb101)); have n3_ := Aside0.mk ((by rw [hg]; exact (below_size (by repeat (first | (with_reducible first | exact HB.out | apply below_alloc | apply pw_below_drewN | apply below_drew1) | exact HB.out))) : w.heap.size ≤ gb101)); clear HB; have HB := n0_; have BK101 := n1_; have GW101 := n2_; have GE101 := n3_; clear n0_ n1_ n2_ n3_; clear hb hbox hg; have hcz10_0 : w9.cell? ⟨gb101, 0, none⟩ = some (.string a0_0) := (blk_cell BK101.out 0).trans rfl; have hcz10_1 : w9.cell? ⟨gb101, 1, none⟩ = some (.string a0_1) := (blk_cell BK101.out 1).trans rfl; have hcz10_2 : w9.cell? ⟨gb101, 2, none⟩ = some (.slice A0_2 l0_2.length c0_2) := (blk_cell BK101.out 2).trans rfl; have hfz10_0 := blk_frozen BK101.out 0; have hfz10_1 := blk_frozen BK101.out 1; have hfz10_2 := blk_frozen BK101.out 2))
        go_ret
        exact ⟨by first | rfl | (simp [errW_none, errW_some] <;> rfl) | (simp [*, errW_none, errW_some] <;> rfl), by repeat (first | (with_reducible first | exact HB.out | apply below_alloc | apply pw_below_drewN | apply below_drew1 | refine below_set ?_ GE101.out) | exact HB.out)⟩
      · rw [if_neg c8] at H
        have c8b0 : decide (2147483647 < (l0_2.length : Int)) = false := decide_eq_false c8
        have c8b1 : decide (2147483647 < l0_2.length) = false := decide_eq_false (by omega)
        clear c8
        obtain rfl := Option.some.inj H
        go_enter Tryz.func9, Tryz.ntmps9
        go_wp2_with (first | ((with_reducible refine gate_dst (N := 1) rfl ?_); refine box_event ?hg (N := 1) ?hd (cs := #[.string a0_0, .string a0_1, .slice A0_2 l0_2.length c0_2]) (t := 24) ?hr ?_; (case hd => rfl); (case hg => rfl); (case hr => first | (go_simp; done) | (go_simp; rfl)); intro gb101 hg w11 hbox hb; have n0_ := Aside0.mk (below_step (by repeat (first | (with_reducible first | exact HB.out | apply below_alloc | apply pw_below_drewN | apply below_drew1) | exact HB.out)) hb); have n1_ := Aside0.mk (hbox); have n2_ := Aside0.mk ((by rw [hg]; exact (below_size (by repeat (first | (with_reducible first | exact HB.out | apply below_alloc | apply pw_below_drewN | apply below_drew1) | exact HB.out))) : w.heap.size ≤ gb101)); have n3_ := Aside0.mk ((by rw [hg]; exact (below_size (by repeat (first | (with_reducible first | exact HB.out | apply below_alloc | apply pw_below_drewN | apply below_drew1) | exact HB.out))) : w.heap.size ≤ gb101)); clear HB; have HB := n0_; have BK101 := n1_; have GW101 := n2_; have GE101 := n3_; clear n0_ n1_ n2_ n3_; clear hb hbox hg; have hcz12_0 : w11.cell? ⟨gb101, 0, none⟩ = some (.string a0_0) := (blk_cell BK101.out 0).trans rfl; have hcz12_1 : w11.cell? ⟨gb101, 1, none⟩ = some (.string a0_1) := (blk_cell BK101.out 1).trans rfl; have hcz12_2 : w11.cell? ⟨gb101, 2, none⟩ = some (.slice A0_2 l0_2.length c0_2) := (blk_cell BK101.out 2).trans rfl; have hfz12_0 := blk_frozen BK101.out 0; have hfz12_1 := blk_frozen BK101.out 1; have hfz12_2 := blk_frozen BK101.out 2))
        go_ret
        exact ⟨by first | rfl | (simp [errW_none, errW_some] <;> rfl) | (simp [*, errW_none, errW_some] <;> rfl), by repeat (first | (with_reducible first | exact HB.out | apply below_alloc | apply pw_below_drewN | apply below_drew1 | refine below_set ?_ GE101.out) | exact HB.out)⟩

/-! ### spec_fewNodes: function 19 -/
mutual
def spec_fewNodes.l0 : Nat → Int → Int → Int → ByteArray → ByteArray → List (S24) → Option (Int)
  | 0, _, _, _, _, _, _ => none
  | k + 1, x1, x2, x7, x103000, x103001, x103002 => if x7 < (x103002.length : Int) then (if x2 ≥ 0 then (if 0 ≤ x7 then ((spec_fewNodes.f k ((rd_T24 x103002 x7).f0) ((rd_T24 x103002 x7).f1) ((rd_T24 x103002 x7).f2) (wrap64 (x1 - 1)) x2).bind fun t104 => (spec_fewNodes.l0 k x1 t104 (wrap64 (x7 + 1)) x103000 x103001 x103002)) else (none)) else (some x2)) else (some x2)
def spec_fewNodes.f : Nat → ByteArray → ByteArray → List (S24) → Int → Int → Option (Int)
  | 0, _, _, _, _, _ => none
  | k + 1, a0_0, a0_1, l0_2, a1, a2 => if a1 < 1 then (some (-1)) else (spec_fewNodes.l0 k a1 (wrap64 (a2 - 1)) 0 a0_0 a0_1 l0_2)
end
theorem spec_fewNodes.mono_l : ∀ k, (∀ y0 y1 y2 y3 y4, LeO (spec_fewNodes.f k y0 y1 y2 y3 y4) (spec_fewNodes.f (k + 1) y0 y1 y2 y3 y4)) ∧ (∀ y0 y1 y2 y3 y4 y5, LeO (spec_fewNodes.l0 k y0 y1 y2 y3 y4 y5) (spec_fewNodes.l0 (k + 1) y0 y1 y2 y3 y4 y5))
  | 0 => ⟨fun _ _ _ _ _ r h => by simp [spec_fewNodes.f] at h, fun _ _ _ _ _ _ r h => by simp [spec_fewNodes.l0] at h⟩
  | k + 1 => by
    obtain ⟨ih0, ih1⟩ := spec_fewNodes.mono_l k
    refine ⟨?_, ?_⟩
    · intro y0 y1 y2 y3 y4
      unfold spec_fewNodes.f
      repeat' first
      | (with_reducible exact ih0 _ _ _ _ _)
      | (with_reducible exact ih1 _ _ _ _ _ _)
      | (with_reducible exact LeO.refl _)
      | (with_reducible exact LeO.none _)
      | (with_reducible refine LeO.ite ?_ ?_)
      | (with_reducible refine LeO.bind ?_ (fun _ => ?_))
      | exact ih0 _ _ _ _ _
      | exact ih1 _ _ _ _ _ _
      | exact LeO.none _
      | refine LeO.ite ?_ ?_
      | refine LeO.bind ?_ (fun _ => ?_)
    · intro y0 y1 y2 y3 y4 y5
      unfold spec_fewNodes.l0
      repeat' first
      | (with_reducible exact ih0 _ _ _ _ _)
      | (with_reducible exact ih1 _ _ _ _ _ _)
      | (with_reducible exact LeO.refl _)
      | (with_reducible exact LeO.none _)
      | (with_reducible refine LeO.ite ?_ ?_)
      | (with_reducible refine LeO.bind ?_ (fun _ => ?_))
      | exact ih0 _ _ _ _ _
      | exact ih1 _ _ _ _ _ _
      | exact LeO.none _
      | refine LeO.ite ?_ ?_
      | refine LeO.bind ?_ (fun _ => ?_)
theorem spec_fewNodes.mono : ∀ a0 a1 a2 a3 a4 k, LeO (spec_fewNodes.f k a0 a1 a2 a3 a4) (spec_fewNodes.f (k + 1) a0 a1 a2 a3 a4) := by
  intro a0 a1 a2 a3 a4 k
  obtain ⟨ih0, ih1⟩ := spec_fewNodes.mono_l k
  exact ih0 a0 a1 a2 a3 a4
set_option maxHeartbeats 8000000 in
set_option maxRecDepth 100000 in
theorem spec_fewNodes.calls (k : Nat) : ∀ (a0_0 : ByteArray) (a0_1 : ByteArray) (A0_2 : Option Addr) (c0_2 : Nat) (l0_2 : List (S24)) (a1 : Int) (a2 : Int) (r : Int) (w : World) (hr0_2 : Kd.C k24 w A0_2 l0_2.length l0_2) (hc0_2 : l0_2.length ≤ c0_2) (h : spec_fewNodes.f k a0_0 a0_1 l0_2 a1 a2 = some r),
    Calls Tryz.prog 19 #[.agg #[.string a0_0, .string a0_1, .slice A0_2 l0_2.length c0_2], .int .i64 a1, .int .i64 a2] w fun e w' => e = .returned (.int .i64 r) ∧ Below w.heap.size w w' := by
  induction k using Nat.strongRecOn with
  | _ k ih =>
  intro a0_0 a0_1 A0_2 c0_2 l0_2 a1 a2 r w hr0_2 hc0_2 h
  cases k with
  | zero => exact absurd h (by simp [spec_fewNodes.f])
  | succ k =>
  simp only [spec_fewNodes.f] at h
  have hu24 := Tryz.underlying24
  have HR0_2 := Aside0.mk hr0_2
  have HC0_2 := Aside0.mk hc0_2
  clear hr0_2 hc0_2
  have HB := Aside0.mk (Below.refl w.heap.size w)
  have H : (if a1 < 1 then (some (-1)) else (spec_fewNodes.l0 k a1 (wrap64 (a2 - 1)) 0 a0_0 a0_1 l0_2)) = some r := h
  clear h
  by_cases c4 : a1 < 1
  · rw [if_pos c4] at H
    have c4b0 : decide (a1 < 1) = true := decide_eq_true c4
    clear c4
    obtain rfl := Option.some.inj H
    go_enter Tryz.func19, Tryz.ntmps19
    go_wp2_with (first | ((with_reducible refine gate_dst (N := 3) rfl ?_); refine box_event ?hg (N := 3) ?hd (cs := #[.string a0_0, .string a0_1, .slice A0_2 l0_2.length c0_2]) (t := 24) ?hr ?_; (case hd => rfl); (case hg => rfl); (case hr => first | (go_simp; done) | (go_simp; rfl)); intro gb102 hg w5 hbox hb; have n0_ := Aside0.mk (below_step (by repeat (first | (with_reducible first | exact HB.out | apply below_alloc | apply pw_below_drewN | apply below_drew1) | exact HB.out)) hb); have n1_ := Aside0.mk (hbox); have n2_ := Aside0.mk ((by rw [hg]; exact (below_size (by repeat (first | (with_reducible first | exact HB.out | apply below_alloc | apply pw_below_drewN | apply below_drew1) | exact HB.out))) : w.heap.size ≤ gb102)); have n3_ := Aside0.mk ((by rw [hg]; exact (below_size (by repeat (first | (with_reducible first | exact HB.out | apply below_alloc | apply pw_below_drewN | apply below_drew1) | exact HB.out))) : w.heap.size ≤ gb102)); clear HB; have HB := n0_; have BK102 := n1_; have GW102 := n2_; have GE102 := n3_; clear n0_ n1_ n2_ n3_; clear hb hbox hg))
    go_ret
    exact ⟨by first | rfl | (simp [errW_none, errW_some] <;> rfl) | (simp [*, errW_none, errW_some] <;> rfl), by repeat (first | (with_reducible first | exact HB.out | apply below_alloc | apply pw_below_drewN | apply below_drew1 | refine below_set ?_ GE102.out) | exact HB.out)⟩
  · rw [if_neg c4] at H
    have c4b0 : decide (a1 < 1) = false := decide_eq_false c4
    clear c4
    have H' := Aside0.mk H
    clear H
    go_enter Tryz.func19, Tryz.ntmps19
    go_wp2_with (first | ((with_reducible refine gate_dst (N := 3) rfl ?_); refine box_event ?hg (N := 3) ?hd (cs := #[.string a0_0, .string a0_1, .slice A0_2 l0_2.length c0_2]) (t := 24) ?hr ?_; (case hd => rfl); (case hg => rfl); (case hr => first | (go_simp; done) | (go_simp; rfl)); intro gb102 hg w6 hbox hb; have n0_ := Aside0.mk (below_step (by repeat (first | (with_reducible first | exact HB.out | apply below_alloc | apply pw_below_drewN | apply below_drew1) | exact HB.out)) hb); have n1_ := Aside0.mk (hbox); have n2_ := Aside0.mk ((by rw [hg]; exact (below_size (by repeat (first | (with_reducible first | exact HB.out | apply below_alloc | apply pw_below_drewN | apply below_drew1) | exact HB.out))) : w.heap.size ≤ gb102)); have n3_ := Aside0.mk ((by rw [hg]; exact (below_size (by repeat (first | (with_reducible first | exact HB.out | apply below_alloc | apply pw_below_drewN | apply below_drew1) | exact HB.out))) : w.heap.size ≤ gb102)); clear HB; have HB := n0_; have BK102 := n1_; have GW102 := n2_; have GE102 := n3_; clear n0_ n1_ n2_ n3_; clear hb hbox hg))
    go_loopg [2, 7] k (fun kq v2 v7 w' => ∃ (x2_1 : Int) (x7_1 : Int), v2 = .int .i64 x2_1 ∧ v7 = .int .i64 x7_1 ∧ Aside0 (spec_fewNodes.l0 kq a1 x2_1 x7_1 a0_0 a0_1 l0_2 = some r) ∧ Aside0 (kq ≤ k) ∧ Aside0 (w'.heap[gb102]? = some (.cells #[.string a0_0, .string a0_1, (.slice A0_2 l0_2.length c0_2)] 24 (0, 0))) ∧ Aside0 (Below w.heap.size w w'))
    case atStart => exact ⟨(wrap64 (a2 - 1)), (0), (by first | rfl | (simp; done) | (simp [*]; done)), (by first | rfl | (simp; done) | (simp [*]; done)), H', ⟨Nat.le_refl _⟩, ⟨by (with_reducible repeat (first | refine blk_drewN ?_ _ | refine blk_drew ?_ | refine blk_alloc ?_ _)); exact BK102.out⟩, ⟨by repeat (first | (with_reducible first | exact HB.out | apply below_alloc | apply pw_below_drewN | apply below_drew1 | refine below_set ?_ GE102.out) | exact HB.out)⟩⟩
    case round =>
      clear H'
      try clear c1
      try clear p2
      try clear c4
      try clear c4b0
      try clear p6
      obtain ⟨x2_1, x7_1, rfl, rfl, HA, HK1, BK102, HB⟩ := hrel
      cases gk with
      | zero => exact absurd HA.out (by simp [spec_fewNodes.l0])
      | succ k1 =>
        have H := HA.out
        clear HA
        simp only [spec_fewNodes.l0] at H
        by_cases c7 : x7_1 < (l0_2.length : Int)
        · rw [if_pos c7] at H
          have c7b0 : decide (x7_1 < (l0_2.length : Int)) = true := decide_eq_true c7
          clear c7
          by_cases c8 : x2_1 ≥ 0
          · rw [if_pos c8] at H
            have c8b0 : decide (0 ≤ x2_1) = true := decide_eq_true c8
            clear c8
            by_cases c9 : 0 ≤ x7_1
            · rw [if_pos c9] at H
              have c9b0 : decide (0 ≤ x7_1) = true := decide_eq_true c9
              clear c9
              replace H := Option.bind_eq_some_iff.mp H
              obtain ⟨t104, A100, H⟩ := H
              replace H : (spec_fewNodes.l0 k1 a1 t104 (wrap64 (x7_1 + 1)) a0_0 a0_1 l0_2) = some r := H
              have A10 := Aside0.mk A100
              clear A100
              have H' := Aside0.mk H
              clear H
              have hcz11_0 : wr.cell? ⟨gb102, 0, none⟩ = some (.string a0_0) := (blk_cell BK102.out 0).trans rfl
              have hcz11_1 : wr.cell? ⟨gb102, 1, none⟩ = some (.string a0_1) := (blk_cell BK102.out 1).trans rfl
              have hcz11_2 : wr.cell? ⟨gb102, 2, none⟩ = some (.slice A0_2 l0_2.length c0_2) := (blk_cell BK102.out 2).trans rfl
              have hfz11_0 := blk_frozen BK102.out 0
              have hfz11_1 := blk_frozen BK102.out 1
              have hfz11_2 := blk_frozen BK102.out 2
              have p103 : 0 ≤ (x7_1 : Int) := of_decide_eq_true (by first | (with_reducible assumption) | assumption)
              have q103 : x7_1 < (l0_2.length : Int) := of_decide_eq_true (by first | (with_reducible assumption) | assumption)
              obtain ⟨ad103, A103_2, c103_2, e103, hx103_0, hx103_1, hx103_2, hl103_2, hi103_2⟩ := at_T24 HR0_2.out x7_1 p103 q103
              cases e103
              replace hx103_0 := (HB.out.cell (World.block_lt_of_cell? w _ hx103_0)).trans hx103_0
              replace hx103_1 := (HB.out.cell (World.block_lt_of_cell? w _ hx103_1)).trans hx103_1
              replace hx103_2 := (HB.out.cell (World.block_lt_of_cell? w _ hx103_2)).trans hx103_2
              have HR103_2 := Aside0.mk hi103_2
              have HC103_2 := Aside0.mk hl103_2
              clear hi103_2 hl103_2
              replace p103 := eq_true p103
              replace q103 := eq_true q103
              go_wp2_with (first | ((with_reducible refine gate_callee (f := 19) rfl ?_); refine goesL_ (some 31) rfl rfl Tryz.func19 (by kernel_rfl) rfl #[.agg #[.string ((rd_T24 l0_2 x7_1).f0), .string ((rd_T24 l0_2 x7_1).f1), .slice A103_2 ((rd_T24 l0_2 x7_1).f2).length c103_2], .int .i64 (wrap64 (a1 - 1)), .int .i64 x2_1] rfl (by (try simp only [List.map_toArray, List.map_cons, List.map_nil]); first | done | rfl | (simp only [List.length_drop, List.length_take]; rfl)) ?_; (with_reducible refine (ih k1 (by have := HK1.out; omega) ((rd_T24 l0_2 x7_1).f0) ((rd_T24 l0_2 x7_1).f1) _ _ ((rd_T24 l0_2 x7_1).f2) (wrap64 (a1 - 1)) x2_1 t104 _ ?side1 ?side2 A10.out).mono ?_); (case side1 => repeat (first | exact (Kd.C_below HR103_2.out HB.out) | (with_reducible refine Kd.C_alloc ?_ _) | (with_reducible refine Kd.C_drewN ?_ _) | (with_reducible refine Kd.C_drew ?_))); (case side2 => exact HC103_2.out); rintro e w12 ⟨rfl, hb⟩; refine ⟨_, rfl, ?_⟩; have n0_ := Aside0.mk (blk_below (g := gb102) (o := .cells #[.string a0_0, .string a0_1, .slice (some ad103) l0_2.length c0_2] 24 (0, 0)) (by (with_reducible repeat (first | refine blk_drewN ?_ _ | refine blk_drew ?_ | refine blk_alloc ?_ _)); exact BK102.out) hb); have n1_ := Aside0.mk (below_step (by repeat (first | (with_reducible first | exact HB.out | apply below_alloc | apply pw_below_drewN | apply below_drew1 | refine below_set ?_ GE102.out) | exact HB.out)) hb); clear BK102; clear HB; have BK102 := n0_; have HB := n1_; clear n0_ n1_; (try clear hb); (try clear hb2); (try clear hk); (try clear hi)))
              go_roundg k1
              case measure => have := HK1.out; omega
              case rel => exact ⟨(t104), (wrap64 (x7_1 + 1)), (by first | rfl | (simp; done) | (simp [*]; done)), (by first | rfl | (simp; done) | (simp [*]; done)), H', ⟨by have := HK1.out; omega⟩, ⟨by (with_reducible repeat (first | refine blk_drewN ?_ _ | refine blk_drew ?_ | refine blk_alloc ?_ _)); exact BK102.out⟩, ⟨by repeat (first | (with_reducible first | exact HB.out | apply below_alloc | apply pw_below_drewN | apply below_drew1 | refine below_set ?_ GE102.out) | exact HB.out)⟩⟩
            · rw [if_neg c9] at H
              exact absurd H (by simp)
          · rw [if_neg c8] at H
            have c8b0 : decide (0 ≤ x2_1) = false := decide_eq_false c8
            clear c8
            obtain rfl := Option.some.inj H
            have hcz13_0 : wr.cell? ⟨gb102, 0, none⟩ = some (.string a0_0) := (blk_cell BK102.out 0).trans rfl
            have hcz13_1 : wr.cell? ⟨gb102, 1, none⟩ = some (.string a0_1) := (blk_cell BK102.out 1).trans rfl
            have hcz13_2 : wr.cell? ⟨gb102, 2, none⟩ = some (.slice A0_2 l0_2.length c0_2) := (blk_cell BK102.out 2).trans rfl
            have hfz13_0 := blk_frozen BK102.out 0
            have hfz13_1 := blk_frozen BK102.out 1
            have hfz13_2 := blk_frozen BK102.out 2
            go_wp2
            go_ret
            exact ⟨by first | rfl | (simp [errW_none, errW_some] <;> rfl) | (simp [*, errW_none, errW_some] <;> rfl), by repeat (first | (with_reducible first | exact HB.out | apply below_alloc | apply pw_below_drewN | apply below_drew1 | refine below_set ?_ GE102.out) | exact HB.out)⟩
        · rw [if_neg c7] at H
          have c7b0 : decide (x7_1 < (l0_2.length : Int)) = false := decide_eq_false c7
          clear c7
          obtain rfl := Option.some.inj H
          have hcz14_0 : wr.cell? ⟨gb102, 0, none⟩ = some (.string a0_0) := (blk_cell BK102.out 0).trans rfl
          have hcz14_1 : wr.cell? ⟨gb102, 1, none⟩ = some (.string a0_1) := (blk_cell BK102.out 1).trans rfl
          have hcz14_2 : wr.cell? ⟨gb102, 2, none⟩ = some (.slice A0_2 l0_2.length c0_2) := (blk_cell BK102.out 2).trans rfl
          have hfz14_0 := blk_frozen BK102.out 0
          have hfz14_1 := blk_frozen BK102.out 1
          have hfz14_2 := blk_frozen BK102.out 2
          go_wp2
          go_ret
          exact ⟨by first | rfl | (simp [errW_none, errW_some] <;> rfl) | (simp [*, errW_none, errW_some] <;> rfl), by repeat (first | (with_reducible first | exact HB.out | apply below_alloc | apply pw_below_drewN | apply below_drew1 | refine below_set ?_ GE102.out) | exact HB.out)⟩

-- NOT PRINTED: function 31 (spec_areExprTrees)

end Go.Proofs.YtdcaabjkklppjaaGreatFmt.A
