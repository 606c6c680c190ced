-- Written by a program of this session (gprint.py) out of the kit's print of the translation. Not trusted: Lean checks it.
import Derived.Test.YtbojpbfckgjgbaaGreatA0
namespace Go.Proofs.YtbojpbfckgjgbaaGreat.A
open Go.RowKit Go.Proofs.YtbojpbfckgjgbaaGreatW.PrintWords Go.Proofs.YtbojpbfckgjgbaaGreatW.PrintLast Go.Proofs.YtbojpbfckgjgbaaGreatW.PrintMore
attribute [local go_sem] max2_int min2_int max_two min_two max_three min_three max_four min_four   -- for this text's walks alone
set_option linter.unusedVariables false
set_option linter.unusedSimpArgs false

/-! ### spec_formOf: function 12 -/
mutual
def spec_formOf.j0 : Nat → ByteArray → Bool → Option (Int × Int × Bool × Bool × Bool × Bool)
  | 0, _, _ => none
  | k + 1, x4, x5 => if x5 = true then (some (1, 0, false, true, true, true)) else (if x4.toList = ([112, 97, 114, 101, 110] : List UInt8) then (some (2, 1, false, true, true, true)) else (if x4.toList = ([115, 101, 108, 101, 99, 116, 111, 114] : List UInt8) then (some (1, 1, false, false, true, true)) else (if x4.toList = ([105, 110, 100, 101, 120] : List UInt8) then (spec_formOf.j1 k x4 (x4.toList == ([105, 110, 100, 101, 120] : List UInt8))) else (spec_formOf.j1 k x4 (x4.toList == ([97, 115, 115, 101, 114, 116] : List UInt8))))))
def spec_formOf.j1 : Nat → ByteArray → Bool → Option (Int × Int × Bool × Bool × Bool × Bool)
  | 0, _, _ => none
  | k + 1, x4, x16 => if x16 = true then (some (2, 2, false, false, true, true)) else (if x4.toList = ([115, 108, 105, 99, 101] : List UInt8) then (some (2, 3, false, false, true, true)) else (if x4.toList = ([99, 97, 108, 108] : List UInt8) then (spec_formOf.j2 k x4 (x4.toList == ([99, 97, 108, 108] : List UInt8))) else (spec_formOf.j2 k x4 (x4.toList == ([99, 111, 109, 112, 111, 115, 105, 116, 101] : List UInt8)))))
def spec_formOf.j2 : Nat → ByteArray → Bool → Option (Int × Int × Bool × Bool × Bool × Bool)
  | 0, _, _ => none
  | k + 1, x4, x23 => if x23 = true then (some (2, 1, true, false, true, true)) else (if x4.toList = ([98, 114, 97, 99, 101, 115] : List UInt8) then (some (2, 0, true, true, true, true)) else (if x4.toList = ([115, 116, 97, 114] : List UInt8) then (spec_formOf.j3 k x4 (x4.toList == ([115, 116, 97, 114] : List UInt8))) else (if x4.toList = ([110, 111, 116] : List UInt8) then (spec_formOf.j3 k x4 (x4.toList == ([110, 111, 116] : List UInt8))) else (if x4.toList = ([115, 108, 105, 99, 101, 116, 121, 112, 101] : List UInt8) then (spec_formOf.j3 k x4 (x4.toList == ([115, 108, 105, 99, 101, 116, 121, 112, 101] : List UInt8))) else (spec_formOf.j3 k x4 (x4.toList == ([99, 104, 97, 110, 116, 121, 112, 101] : List UInt8)))))))
def spec_formOf.j3 : Nat → ByteArray → Bool → Option (Int × Int × Bool × Bool × Bool × Bool)
  | 0, _, _ => none
  | k + 1, x4, x30 => if x30 = true then (some (1, 1, false, true, false, true)) else (if x4.toList = ([109, 97, 112, 116, 121, 112, 101] : List UInt8) then (some (1, 2, false, true, false, true)) else (if x4.toList = ([97, 100, 100] : List UInt8) then (some (1, 2, false, false, false, true)) else (if x4.toList = ([107, 101, 121, 118, 97, 108, 117, 101] : List UInt8) then (some (1, 2, false, false, false, true)) else (some (0, 0, false, false, false, false)))))
end
def spec_formOf.f (k : Nat) (a0 : ByteArray) : Option (Int × Int × Bool × Bool × Bool × Bool) := if a0.toList = ([110, 97, 109, 101] : List UInt8) then (spec_formOf.j0 k a0 (a0.toList == ([110, 97, 109, 101] : List UInt8))) else (if a0.toList = ([105, 110, 116] : List UInt8) then (spec_formOf.j0 k a0 (a0.toList == ([105, 110, 116] : List UInt8))) else (spec_formOf.j0 k a0 (a0.toList == ([112, 111, 105, 110, 116, 115] : List UInt8))))
theorem spec_formOf.mono_l : ∀ k, (∀ y0 y1, LeO (spec_formOf.j0 k y0 y1) (spec_formOf.j0 (k + 1) y0 y1)) ∧ (∀ y0 y1, LeO (spec_formOf.j1 k y0 y1) (spec_formOf.j1 (k + 1) y0 y1)) ∧ (∀ y0 y1, LeO (spec_formOf.j2 k y0 y1) (spec_formOf.j2 (k + 1) y0 y1)) ∧ (∀ y0 y1, LeO (spec_formOf.j3 k y0 y1) (spec_formOf.j3 (k + 1) y0 y1))
  | 0 => ⟨fun _ _ r h => by simp [spec_formOf.j0] at h, fun _ _ r h => by simp [spec_formOf.j1] at h, fun _ _ r h => by simp [spec_formOf.j2] at h, fun _ _ r h => by simp [spec_formOf.j3] at h⟩
  | k + 1 => by
    obtain ⟨ih0, ih1, ih2, ih3⟩ := spec_formOf.mono_l k
    refine ⟨?_, ?_, ?_, ?_⟩
    · intro y0 y1
      unfold spec_formOf.j0
      repeat' first
      | (with_reducible exact ih0 _ _)
      | (with_reducible exact ih1 _ _)
      | (with_reducible exact ih2 _ _)
      | (with_reducible exact ih3 _ _)
      | (with_reducible exact LeO.refl _)
      | (with_reducible exact LeO.none _)
      | (with_reducible refine LeO.ite ?_ ?_)
      | (with_reducible refine LeO.bind ?_ (fun _ => ?_))
      | exact ih0 _ _
      | exact ih1 _ _
      | exact ih2 _ _
      | exact ih3 _ _
      | exact LeO.none _
      | refine LeO.ite ?_ ?_
      | refine LeO.bind ?_ (fun _ => ?_)
    · intro y0 y1
      unfold spec_formOf.j1
      repeat' first
      | (with_reducible exact ih0 _ _)
      | (with_reducible exact ih1 _ _)
      | (with_reducible exact ih2 _ _)
      | (with_reducible exact ih3 _ _)
      | (with_reducible exact LeO.refl _)
      | (with_reducible exact LeO.none _)
      | (with_reducible refine LeO.ite ?_ ?_)
      | (with_reducible refine LeO.bind ?_ (fun _ => ?_))
      | exact ih0 _ _
      | exact ih1 _ _
      | exact ih2 _ _
      | exact ih3 _ _
      | exact LeO.none _
      | refine LeO.ite ?_ ?_
      | refine LeO.bind ?_ (fun _ => ?_)
    · intro y0 y1
      unfold spec_formOf.j2
      repeat' first
      | (with_reducible exact ih0 _ _)
      | (with_reducible exact ih1 _ _)
      | (with_reducible exact ih2 _ _)
      | (with_reducible exact ih3 _ _)
      | (with_reducible exact LeO.refl _)
      | (with_reducible exact LeO.none _)
      | (with_reducible refine LeO.ite ?_ ?_)
      | (with_reducible refine LeO.bind ?_ (fun _ => ?_))
      | exact ih0 _ _
      | exact ih1 _ _
      | exact ih2 _ _
      | exact ih3 _ _
      | exact LeO.none _
      | refine LeO.ite ?_ ?_
      | refine LeO.bind ?_ (fun _ => ?_)
    · intro y0 y1
      unfold spec_formOf.j3
      repeat' first
      | (with_reducible exact ih0 _ _)
      | (with_reducible exact ih1 _ _)
      | (with_reducible exact ih2 _ _)
      | (with_reducible exact ih3 _ _)
      | (with_reducible exact LeO.refl _)
      | (with_reducible exact LeO.none _)
      | (with_reducible refine LeO.ite ?_ ?_)
      | (with_reducible refine LeO.bind ?_ (fun _ => ?_))
      | exact ih0 _ _
      | exact ih1 _ _
      | exact ih2 _ _
      | exact ih3 _ _
      | exact LeO.none _
      | refine LeO.ite ?_ ?_
      | refine LeO.bind ?_ (fun _ => ?_)
theorem spec_formOf.mono : ∀ a0 k, LeO (spec_formOf.f k a0) (spec_formOf.f (k + 1) a0) := by
  intro a0 k
  obtain ⟨ih0, ih1, ih2, ih3⟩ := spec_formOf.mono_l k
  unfold spec_formOf.f
  repeat' first
      | (with_reducible exact ih0 _ _)
      | (with_reducible exact ih1 _ _)
      | (with_reducible exact ih2 _ _)
      | (with_reducible exact ih3 _ _)
      | (with_reducible exact LeO.refl _)
      | (with_reducible exact LeO.none _)
      | (with_reducible refine LeO.ite ?_ ?_)
      | (with_reducible refine LeO.bind ?_ (fun _ => ?_))
      | exact ih0 _ _
      | exact ih1 _ _
      | exact ih2 _ _
      | exact ih3 _ _
      | exact LeO.none _
      | refine LeO.ite ?_ ?_
      | refine LeO.bind ?_ (fun _ => ?_)
set_option maxHeartbeats 8000000 in
set_option maxRecDepth 100000 in
theorem spec_formOf.calls (k : Nat) (a0 : ByteArray) (r1 : Int) (r2 : Int) (r3 : Bool) (r4 : Bool) (r5 : Bool) (r6 : Bool) (w : World) (h : spec_formOf.f k a0 = some (r1, r2, r3, r4, r5, r6)) :
    Calls Tryz.prog 12 #[.string a0] w fun e w' => e = .returned (.tuple #[.agg #[.int .i64 r1, .int .i64 r2, .bool r3, .bool r4, .bool r5], .bool r6]) ∧ Below w.heap.size w w' := by
  have hu38 := Tryz.underlying38
  have HB := Aside0.mk (Below.refl w.heap.size w)
  have H : (if a0.toList = ([110, 97, 109, 101] : List UInt8) then (spec_formOf.j0 k a0 (a0.toList == ([110, 97, 109, 101] : List UInt8))) else (if a0.toList = ([105, 110, 116] : List UInt8) then (spec_formOf.j0 k a0 (a0.toList == ([105, 110, 116] : List UInt8))) else (spec_formOf.j0 k a0 (a0.toList == ([112, 111, 105, 110, 116, 115] : List UInt8))))) = some (r1, r2, r3, r4, r5, r6) := h
  clear h
  have HC2 := Aside0.mk H
  clear H
  go_enter Tryz.func12, Tryz.ntmps12
  go_upto_if 5 with (first | ((with_reducible refine gate_dst (N := 2) rfl ?_); refine box_event ?hg (N := 2) ?hd (cs := #[.int .i64 0, .int .i64 0, .bool false, .bool false, .bool false]) (t := 38) ?hr ?_; (case hd => rfl); (case hg => rfl); (case hr => first | (go_simp; done) | (go_simp; rfl)); intro gb105 hg w3 hbox hb; have n0_ := Aside0.mk (below_step (by repeat (first | (with_reducible first | exact HB.out | apply below_alloc | apply pw_below_drewN | apply below_drew1) | exact HB.out)) hb); have n1_ := Aside0.mk (hbox); have n2_ := Aside0.mk ((by rw [hg]; exact (below_size (by repeat (first | (with_reducible first | exact HB.out | apply below_alloc | apply pw_below_drewN | apply below_drew1) | exact HB.out))) : w.heap.size ≤ gb105)); have n3_ := Aside0.mk ((by rw [hg]; exact (below_size (by repeat (first | (with_reducible first | exact HB.out | apply below_alloc | apply pw_below_drewN | apply below_drew1) | exact HB.out))) : w.heap.size ≤ gb105)); clear HB; have HB := n0_; have BK105 := n1_; have GW105 := n2_; have GE105 := n3_; clear n0_ n1_ n2_ n3_; clear hb hbox hg))
  (try simp only [Act.put, List.setIfInBounds_toArray, List.set_cons_zero, List.set_cons_succ])
  go_cut [5] (fun v5 wc => ∃ (kq : Nat) (x5_1 : Bool), v5 = .bool x5_1 ∧ Aside0 (spec_formOf.j0 kq a0 x5_1 = some (r1, r2, r3, r4, r5, r6)) ∧ Aside0 (kq ≤ k) ∧ Aside0 (wc.heap[gb105]? = some (.cells #[.int .i64 0, .int .i64 0, .bool false, .bool false, .bool false] 38 (0, 0))) ∧ Aside0 (Below w.heap.size w wc))
  case first =>
    have H := HC2.out
    clear HC2
    by_cases c4 : a0.toList = ([110, 97, 109, 101] : List UInt8)
    · rw [if_pos c4] at H
      have c4b0 : (a0.toList == ([110, 97, 109, 101] : List UInt8)) = true := beq_iff_eq.mpr c4
      have c4b1 : (a0.toList != ([110, 97, 109, 101] : List UInt8)) = false := bne_eq_false_iff_eq.mpr c4
      clear c4
      (first | rw [c4b0] | (simp only [i64_w, i32_w]; rw [c4b0]) | skip)
      have H' := Aside0.mk H
      clear H
      go_wp2
      go_meet
      case rel => exact ⟨_, ((a0.toList == ([110, 97, 109, 101] : List UInt8))), (by first | rfl | (simp; done) | (simp [*]; done)), H', ⟨by first | omega | exact Nat.le_refl _⟩, ⟨by (with_reducible repeat (first | refine blk_drewN ?_ _ | refine blk_drew ?_ | refine blk_alloc ?_ _)); exact BK105.out⟩, ⟨by repeat (first | (with_reducible first | exact HB.out | apply below_alloc | apply pw_below_drewN | apply below_drew1 | refine below_set ?_ GE105.out) | exact HB.out)⟩⟩
    · rw [if_neg c4] at H
      have c4b0 : (a0.toList == ([110, 97, 109, 101] : List UInt8)) = false := beq_eq_false_iff_ne.mpr c4
      have c4b1 : (a0.toList != ([110, 97, 109, 101] : List UInt8)) = true := bne_iff_ne.mpr c4
      (first | rw [c4b0] | (simp only [i64_w, i32_w]; rw [c4b0]) | skip)
      by_cases c5 : a0.toList = ([105, 110, 116] : List UInt8)
      · rw [if_pos c5] at H
        have c5b0 : (a0.toList == ([105, 110, 116] : List UInt8)) = true := beq_iff_eq.mpr c5
        have c5b1 : (a0.toList != ([105, 110, 116] : List UInt8)) = false := bne_eq_false_iff_eq.mpr c5
        clear c5
        have H' := Aside0.mk H
        clear H
        go_wp2
        go_meet
        case rel => exact ⟨_, ((a0.toList == ([105, 110, 116] : List UInt8))), (by first | rfl | (simp; done) | (simp [*]; done)), H', ⟨by first | omega | exact Nat.le_refl _⟩, ⟨by (with_reducible repeat (first | refine blk_drewN ?_ _ | refine blk_drew ?_ | refine blk_alloc ?_ _)); exact BK105.out⟩, ⟨by repeat (first | (with_reducible first | exact HB.out | apply below_alloc | apply pw_below_drewN | apply below_drew1 | refine below_set ?_ GE105.out) | exact HB.out)⟩⟩
      · rw [if_neg c5] at H
        have c5b0 : (a0.toList == ([105, 110, 116] : List UInt8)) = false := beq_eq_false_iff_ne.mpr c5
        have c5b1 : (a0.toList != ([105, 110, 116] : List UInt8)) = true := bne_iff_ne.mpr c5
        have H' := Aside0.mk H
        clear H
        go_wp2
        go_meet
        case rel => exact ⟨_, ((a0.toList == ([112, 111, 105, 110, 116, 115] : List UInt8))), (by first | rfl | (simp; done) | (simp [*]; done)), H', ⟨by first | omega | exact Nat.le_refl _⟩, ⟨by (with_reducible repeat (first | refine blk_drewN ?_ _ | refine blk_drew ?_ | refine blk_alloc ?_ _)); exact BK105.out⟩, ⟨by repeat (first | (with_reducible first | exact HB.out | apply below_alloc | apply pw_below_drewN | apply below_drew1 | refine below_set ?_ GE105.out) | exact HB.out)⟩⟩
  case rest =>
    clear HC2
    try clear c1
    try clear p2
    try clear c4
    try clear c4b0
    try clear c4b1
    try clear c5
    try clear c5b0
    try clear c5b1
    obtain ⟨kq, x5_1, rfl, HA, HJ1, BK105, HB⟩ := hcut
    cases kq with
    | zero => exact absurd HA.out (by simp [spec_formOf.j0])
    | succ kj1 =>
      have H := HA.out
      clear HA
      simp only [spec_formOf.j0] at H
      by_cases c6 : x5_1 = true
      · subst c6
        have H1 : (some (1, 0, false, true, true, true)) = some (r1, r2, r3, r4, r5, r6) := by rw [if_pos rfl] at H; exact H
        clear H
        have H := H1
        clear H1
        simp only [Option.some.injEq, Prod.mk.injEq] at H
        obtain ⟨rfl, rfl, rfl, rfl, rfl, rfl⟩ := H
        have hcz7_0 : wc.cell? ⟨gb105, 0, none⟩ = some (.int .i64 0) := (blk_cell BK105.out 0).trans rfl
        have hcz7_1 : wc.cell? ⟨gb105, 1, none⟩ = some (.int .i64 0) := (blk_cell BK105.out 1).trans rfl
        have hcz7_2 : wc.cell? ⟨gb105, 2, none⟩ = some (.bool false) := (blk_cell BK105.out 2).trans rfl
        have hcz7_3 : wc.cell? ⟨gb105, 3, none⟩ = some (.bool false) := (blk_cell BK105.out 3).trans rfl
        have hcz7_4 : wc.cell? ⟨gb105, 4, none⟩ = some (.bool false) := (blk_cell BK105.out 4).trans rfl
        have hfz7_0 := blk_frozen BK105.out 0
        have hfz7_1 := blk_frozen BK105.out 1
        have hfz7_2 := blk_frozen BK105.out 2
        have hfz7_3 := blk_frozen BK105.out 3
        have hfz7_4 := blk_frozen BK105.out 4
        go_wp2
        refine bodyPost_ret (results_ct rfl _ _ gb105 38 #[.int .i64 1, .int .i64 0, .bool false, .bool true, .bool true] (0, 0) _ rfl (by (with_reducible repeat (first | refine blk_drewN ?_ _ | refine blk_drew ?_ | refine blk_alloc ?_ _)); refine blk_put (cs := #[.int .i64 1, .int .i64 0, .bool false, .bool true, .bool false]) ?_ 4 _ rfl; (with_reducible repeat (first | refine blk_drewN ?_ _ | refine blk_drew ?_ | refine blk_alloc ?_ _)); refine blk_put (cs := #[.int .i64 1, .int .i64 0, .bool false, .bool false, .bool false]) ?_ 3 _ rfl; (with_reducible repeat (first | refine blk_drewN ?_ _ | refine blk_drew ?_ | refine blk_alloc ?_ _)); refine blk_put (cs := #[.int .i64 1, .int .i64 0, .bool false, .bool false, .bool false]) ?_ 2 _ rfl; (with_reducible repeat (first | refine blk_drewN ?_ _ | refine blk_drew ?_ | refine blk_alloc ?_ _)); refine blk_put (cs := #[.int .i64 1, .int .i64 0, .bool false, .bool false, .bool false]) ?_ 1 _ rfl; (with_reducible repeat (first | refine blk_drewN ?_ _ | refine blk_drew ?_ | refine blk_alloc ?_ _)); refine blk_put (cs := #[.int .i64 0, .int .i64 0, .bool false, .bool false, .bool false]) ?_ 0 _ rfl; (with_reducible repeat (first | refine blk_drewN ?_ _ | refine blk_drew ?_ | refine blk_alloc ?_ _)); exact BK105.out) Tryz.underlying38 rfl (by kernel_rfl)) rfl ?_
        exact ⟨by first | rfl | (simp [errW_none, errW_some] <;> rfl) | (simp [*, errW_none, errW_some] <;> rfl), by repeat (first | (with_reducible first | exact HB.out | apply below_alloc | apply pw_below_drewN | apply below_drew1 | refine below_set ?_ GE105.out) | exact HB.out)⟩
      · replace c6 := Bool.eq_false_iff.mpr c6
        subst c6
        have H1 : (if a0.toList = ([112, 97, 114, 101, 110] : List UInt8) then (some (2, 1, false, true, true, true)) else (if a0.toList = ([115, 101, 108, 101, 99, 116, 111, 114] : List UInt8) then (some (1, 1, false, false, true, true)) else (if a0.toList = ([105, 110, 100, 101, 120] : List UInt8) then (spec_formOf.j1 kj1 a0 (a0.toList == ([105, 110, 100, 101, 120] : List UInt8))) else (spec_formOf.j1 kj1 a0 (a0.toList == ([97, 115, 115, 101, 114, 116] : List UInt8)))))) = some (r1, r2, r3, r4, r5, r6) := by rw [if_neg (show ¬ (false = true) by decide)] at H; exact H
        clear H
        have H := H1
        clear H1
        by_cases c8 : a0.toList = ([112, 97, 114, 101, 110] : List UInt8)
        · rw [if_pos c8] at H
          have c8b0 : (a0.toList == ([112, 97, 114, 101, 110] : List UInt8)) = true := beq_iff_eq.mpr c8
          have c8b1 : (a0.toList != ([112, 97, 114, 101, 110] : List UInt8)) = false := bne_eq_false_iff_eq.mpr c8
          clear c8
          simp only [Option.some.injEq, Prod.mk.injEq] at H
          obtain ⟨rfl, rfl, rfl, rfl, rfl, rfl⟩ := H
          have hcz9_0 : wc.cell? ⟨gb105, 0, none⟩ = some (.int .i64 0) := (blk_cell BK105.out 0).trans rfl
          have hcz9_1 : wc.cell? ⟨gb105, 1, none⟩ = some (.int .i64 0) := (blk_cell BK105.out 1).trans rfl
          have hcz9_2 : wc.cell? ⟨gb105, 2, none⟩ = some (.bool false) := (blk_cell BK105.out 2).trans rfl
          have hcz9_3 : wc.cell? ⟨gb105, 3, none⟩ = some (.bool false) := (blk_cell BK105.out 3).trans rfl
          have hcz9_4 : wc.cell? ⟨gb105, 4, none⟩ = some (.bool false) := (blk_cell BK105.out 4).trans rfl
          have hfz9_0 := blk_frozen BK105.out 0
          have hfz9_1 := blk_frozen BK105.out 1
          have hfz9_2 := blk_frozen BK105.out 2
          have hfz9_3 := blk_frozen BK105.out 3
          have hfz9_4 := blk_frozen BK105.out 4
          go_wp2
          refine bodyPost_ret (results_ct rfl _ _ gb105 38 #[.int .i64 2, .int .i64 1, .bool false, .bool true, .bool true] (0, 0) _ rfl (by (with_reducible repeat (first | refine blk_drewN ?_ _ | refine blk_drew ?_ | refine blk_alloc ?_ _)); refine blk_put (cs := #[.int .i64 2, .int .i64 1, .bool false, .bool true, .bool false]) ?_ 4 _ rfl; (with_reducible repeat (first | refine blk_drewN ?_ _ | refine blk_drew ?_ | refine blk_alloc ?_ _)); refine blk_put (cs := #[.int .i64 2, .int .i64 1, .bool false, .bool false, .bool false]) ?_ 3 _ rfl; (with_reducible repeat (first | refine blk_drewN ?_ _ | refine blk_drew ?_ | refine blk_alloc ?_ _)); refine blk_put (cs := #[.int .i64 2, .int .i64 1, .bool false, .bool false, .bool false]) ?_ 2 _ rfl; (with_reducible repeat (first | refine blk_drewN ?_ _ | refine blk_drew ?_ | refine blk_alloc ?_ _)); refine blk_put (cs := #[.int .i64 2, .int .i64 0, .bool false, .bool false, .bool false]) ?_ 1 _ rfl; (with_reducible repeat (first | refine blk_drewN ?_ _ | refine blk_drew ?_ | refine blk_alloc ?_ _)); refine blk_put (cs := #[.int .i64 0, .int .i64 0, .bool false, .bool false, .bool false]) ?_ 0 _ rfl; (with_reducible repeat (first | refine blk_drewN ?_ _ | refine blk_drew ?_ | refine blk_alloc ?_ _)); exact BK105.out) Tryz.underlying38 rfl (by kernel_rfl)) rfl ?_
          exact ⟨by first | rfl | (simp [errW_none, errW_some] <;> rfl) | (simp [*, errW_none, errW_some] <;> rfl), by repeat (first | (with_reducible first | exact HB.out | apply below_alloc | apply pw_below_drewN | apply below_drew1 | refine below_set ?_ GE105.out) | exact HB.out)⟩
        · rw [if_neg c8] at H
          have c8b0 : (a0.toList == ([112, 97, 114, 101, 110] : List UInt8)) = false := beq_eq_false_iff_ne.mpr c8
          have c8b1 : (a0.toList != ([112, 97, 114, 101, 110] : List UInt8)) = true := bne_iff_ne.mpr c8
          by_cases c10 : a0.toList = ([115, 101, 108, 101, 99, 116, 111, 114] : List UInt8)
          · rw [if_pos c10] at H
            have c10b0 : (a0.toList == ([115, 101, 108, 101, 99, 116, 111, 114] : List UInt8)) = true := beq_iff_eq.mpr c10
            have c10b1 : (a0.toList != ([115, 101, 108, 101, 99, 116, 111, 114] : List UInt8)) = false := bne_eq_false_iff_eq.mpr c10
            clear c10
            simp only [Option.some.injEq, Prod.mk.injEq] at H
            obtain ⟨rfl, rfl, rfl, rfl, rfl, rfl⟩ := H
            have hcz11_0 : wc.cell? ⟨gb105, 0, none⟩ = some (.int .i64 0) := (blk_cell BK105.out 0).trans rfl
            have hcz11_1 : wc.cell? ⟨gb105, 1, none⟩ = some (.int .i64 0) := (blk_cell BK105.out 1).trans rfl
            have hcz11_2 : wc.cell? ⟨gb105, 2, none⟩ = some (.bool false) := (blk_cell BK105.out 2).trans rfl
            have hcz11_3 : wc.cell? ⟨gb105, 3, none⟩ = some (.bool false) := (blk_cell BK105.out 3).trans rfl
            have hcz11_4 : wc.cell? ⟨gb105, 4, none⟩ = some (.bool false) := (blk_cell BK105.out 4).trans rfl
            have hfz11_0 := blk_frozen BK105.out 0
            have hfz11_1 := blk_frozen BK105.out 1
            have hfz11_2 := blk_frozen BK105.out 2
            have hfz11_3 := blk_frozen BK105.out 3
            have hfz11_4 := blk_frozen BK105.out 4
            go_wp2
            refine bodyPost_ret (results_ct rfl _ _ gb105 38 #[.int .i64 1, .int .i64 1, .bool false, .bool false, .bool true] (0, 0) _ rfl (by (with_reducible repeat (first | refine blk_drewN ?_ _ | refine blk_drew ?_ | refine blk_alloc ?_ _)); refine blk_put (cs := #[.int .i64 1, .int .i64 1, .bool false, .bool false, .bool false]) ?_ 4 _ rfl; (with_reducible repeat (first | refine blk_drewN ?_ _ | refine blk_drew ?_ | refine blk_alloc ?_ _)); refine blk_put (cs := #[.int .i64 1, .int .i64 1, .bool false, .bool false, .bool false]) ?_ 3 _ rfl; (with_reducible repeat (first | refine blk_drewN ?_ _ | refine blk_drew ?_ | refine blk_alloc ?_ _)); refine blk_put (cs := #[.int .i64 1, .int .i64 1, .bool false, .bool false, .bool false]) ?_ 2 _ rfl; (with_reducible repeat (first | refine blk_drewN ?_ _ | refine blk_drew ?_ | refine blk_alloc ?_ _)); refine blk_put (cs := #[.int .i64 1, .int .i64 0, .bool false, .bool false, .bool false]) ?_ 1 _ rfl; (with_reducible repeat (first | refine blk_drewN ?_ _ | refine blk_drew ?_ | refine blk_alloc ?_ _)); refine blk_put (cs := #[.int .i64 0, .int .i64 0, .bool false, .bool false, .bool false]) ?_ 0 _ rfl; (with_reducible repeat (first | refine blk_drewN ?_ _ | refine blk_drew ?_ | refine blk_alloc ?_ _)); exact BK105.out) Tryz.underlying38 rfl (by kernel_rfl)) rfl ?_
            exact ⟨by first | rfl | (simp [errW_none, errW_some] <;> rfl) | (simp [*, errW_none, errW_some] <;> rfl), by repeat (first | (with_reducible first | exact HB.out | apply below_alloc | apply pw_below_drewN | apply below_drew1 | refine below_set ?_ GE105.out) | exact HB.out)⟩
          · rw [if_neg c10] at H
            have c10b0 : (a0.toList == ([115, 101, 108, 101, 99, 116, 111, 114] : List UInt8)) = false := beq_eq_false_iff_ne.mpr c10
            have c10b1 : (a0.toList != ([115, 101, 108, 101, 99, 116, 111, 114] : List UInt8)) = true := bne_iff_ne.mpr c10
            have HC12 := Aside0.mk H
            clear H
            go_upto_if 16 with (fail)
            go_cut [16] (fun v16 wc => ∃ (kq : Nat) (x16_11 : Bool), v16 = .bool x16_11 ∧ Aside0 (spec_formOf.j1 kq a0 x16_11 = some (r1, r2, r3, r4, r5, r6)) ∧ Aside0 (kq ≤ kj1) ∧ Aside0 (wc.heap[gb105]? = some (.cells #[.int .i64 0, .int .i64 0, .bool false, .bool false, .bool false] 38 (0, 0))) ∧ Aside0 (Below w.heap.size w wc))
            case first =>
              have H := HC12.out
              clear HC12
              by_cases c13 : a0.toList = ([105, 110, 100, 101, 120] : List UInt8)
              · rw [if_pos c13] at H
                have c13b0 : (a0.toList == ([105, 110, 100, 101, 120] : List UInt8)) = true := beq_iff_eq.mpr c13
                have c13b1 : (a0.toList != ([105, 110, 100, 101, 120] : List UInt8)) = false := bne_eq_false_iff_eq.mpr c13
                clear c13
                (first | rw [c13b0] | (simp only [i64_w, i32_w]; rw [c13b0]) | skip)
                have H' := Aside0.mk H
                clear H
                go_wp2
                go_meet
                case rel => exact ⟨_, ((a0.toList == ([105, 110, 100, 101, 120] : List UInt8))), (by first | rfl | (simp; done) | (simp [*]; done)), H', ⟨by have := HJ1.out; first | omega | exact Nat.le_refl _⟩, ⟨by (with_reducible repeat (first | refine blk_drewN ?_ _ | refine blk_drew ?_ | refine blk_alloc ?_ _)); exact BK105.out⟩, ⟨by repeat (first | (with_reducible first | exact HB.out | apply below_alloc | apply pw_below_drewN | apply below_drew1 | refine below_set ?_ GE105.out) | exact HB.out)⟩⟩
              · rw [if_neg c13] at H
                have c13b0 : (a0.toList == ([105, 110, 100, 101, 120] : List UInt8)) = false := beq_eq_false_iff_ne.mpr c13
                have c13b1 : (a0.toList != ([105, 110, 100, 101, 120] : List UInt8)) = true := bne_iff_ne.mpr c13
                (first | rw [c13b0] | (simp only [i64_w, i32_w]; rw [c13b0]) | skip)
                have H' := Aside0.mk H
                clear H
                go_wp2
                go_meet
                case rel => exact ⟨_, ((a0.toList == ([97, 115, 115, 101, 114, 116] : List UInt8))), (by first | rfl | (simp; done) | (simp [*]; done)), H', ⟨by have := HJ1.out; first | omega | exact Nat.le_refl _⟩, ⟨by (with_reducible repeat (first | refine blk_drewN ?_ _ | refine blk_drew ?_ | refine blk_alloc ?_ _)); exact BK105.out⟩, ⟨by repeat (first | (with_reducible first | exact HB.out | apply below_alloc | apply pw_below_drewN | apply below_drew1 | refine below_set ?_ GE105.out) | exact HB.out)⟩⟩
            case rest =>
              clear HC12
              try clear c1
              try clear p2
              try clear c4
              try clear c4b0
              try clear c4b1
              try clear c5
              try clear c5b0
              try clear c5b1
              try clear c6
              try clear c8
              try clear c8b0
              try clear c8b1
              try clear c10
              try clear c10b0
              try clear c10b1
              try clear c12
              try clear c13
              try clear c13b0
              try clear c13b1
              try clear hcz11_0
              try clear hcz11_1
              try clear hcz11_2
              try clear hcz11_3
              try clear hcz11_4
              try clear hcz7_0
              try clear hcz7_1
              try clear hcz7_2
              try clear hcz7_3
              try clear hcz7_4
              try clear hcz9_0
              try clear hcz9_1
              try clear hcz9_2
              try clear hcz9_3
              try clear hcz9_4
              try clear hfz11_0
              try clear hfz11_1
              try clear hfz11_2
              try clear hfz11_3
              try clear hfz11_4
              try clear hfz7_0
              try clear hfz7_1
              try clear hfz7_2
              try clear hfz7_3
              try clear hfz7_4
              try clear hfz9_0
              try clear hfz9_1
              try clear hfz9_2
              try clear hfz9_3
              try clear hfz9_4
              try clear p2
              obtain ⟨kq, x16_11, rfl, HA, HJ11, BK105, HB⟩ := hcut
              cases kq with
              | zero => exact absurd HA.out (by simp [spec_formOf.j1])
              | succ kj11 =>
                have H := HA.out
                clear HA
                simp only [spec_formOf.j1] at H
                by_cases c14 : x16_11 = true
                · subst c14
                  have H1 : (some (2, 2, false, false, true, true)) = some (r1, r2, r3, r4, r5, r6) := by rw [if_pos rfl] at H; exact H
                  clear H
                  have H := H1
                  clear H1
                  simp only [Option.some.injEq, Prod.mk.injEq] at H
                  obtain ⟨rfl, rfl, rfl, rfl, rfl, rfl⟩ := H
                  have hcz15_0 : wc.cell? ⟨gb105, 0, none⟩ = some (.int .i64 0) := (blk_cell BK105.out 0).trans rfl
                  have hcz15_1 : wc.cell? ⟨gb105, 1, none⟩ = some (.int .i64 0) := (blk_cell BK105.out 1).trans rfl
                  have hcz15_2 : wc.cell? ⟨gb105, 2, none⟩ = some (.bool false) := (blk_cell BK105.out 2).trans rfl
                  have hcz15_3 : wc.cell? ⟨gb105, 3, none⟩ = some (.bool false) := (blk_cell BK105.out 3).trans rfl
                  have hcz15_4 : wc.cell? ⟨gb105, 4, none⟩ = some (.bool false) := (blk_cell BK105.out 4).trans rfl
                  have hfz15_0 := blk_frozen BK105.out 0
                  have hfz15_1 := blk_frozen BK105.out 1
                  have hfz15_2 := blk_frozen BK105.out 2
                  have hfz15_3 := blk_frozen BK105.out 3
                  have hfz15_4 := blk_frozen BK105.out 4
                  go_wp2
                  refine bodyPost_ret (results_ct rfl _ _ gb105 38 #[.int .i64 2, .int .i64 2, .bool false, .bool false, .bool true] (0, 0) _ rfl (by (with_reducible repeat (first | refine blk_drewN ?_ _ | refine blk_drew ?_ | refine blk_alloc ?_ _)); refine blk_put (cs := #[.int .i64 2, .int .i64 2, .bool false, .bool false, .bool false]) ?_ 4 _ rfl; (with_reducible repeat (first | refine blk_drewN ?_ _ | refine blk_drew ?_ | refine blk_alloc ?_ _)); refine blk_put (cs := #[.int .i64 2, .int .i64 2, .bool false, .bool false, .bool false]) ?_ 3 _ rfl; (with_reducible repeat (first | refine blk_drewN ?_ _ | refine blk_drew ?_ | refine blk_alloc ?_ _)); refine blk_put (cs := #[.int .i64 2, .int .i64 2, .bool false, .bool false, .bool false]) ?_ 2 _ rfl; (with_reducible repeat (first | refine blk_drewN ?_ _ | refine blk_drew ?_ | refine blk_alloc ?_ _)); refine blk_put (cs := #[.int .i64 2, .int .i64 0, .bool false, .bool false, .bool false]) ?_ 1 _ rfl; (with_reducible repeat (first | refine blk_drewN ?_ _ | refine blk_drew ?_ | refine blk_alloc ?_ _)); refine blk_put (cs := #[.int .i64 0, .int .i64 0, .bool false, .bool false, .bool false]) ?_ 0 _ rfl; (with_reducible repeat (first | refine blk_drewN ?_ _ | refine blk_drew ?_ | refine blk_alloc ?_ _)); exact BK105.out) Tryz.underlying38 rfl (by kernel_rfl)) rfl ?_
                  exact ⟨by first | rfl | (simp [errW_none, errW_some] <;> rfl) | (simp [*, errW_none, errW_some] <;> rfl), by repeat (first | (with_reducible first | exact HB.out | apply below_alloc | apply pw_below_drewN | apply below_drew1 | refine below_set ?_ GE105.out) | exact HB.out)⟩
                · replace c14 := Bool.eq_false_iff.mpr c14
                  subst c14
                  have H1 : (if a0.toList = ([115, 108, 105, 99, 101] : List UInt8) then (some (2, 3, false, false, true, true)) else (if a0.toList = ([99, 97, 108, 108] : List UInt8) then (spec_formOf.j2 kj11 a0 (a0.toList == ([99, 97, 108, 108] : List UInt8))) else (spec_formOf.j2 kj11 a0 (a0.toList == ([99, 111, 109, 112, 111, 115, 105, 116, 101] : List UInt8))))) = some (r1, r2, r3, r4, r5, r6) := by rw [if_neg (show ¬ (false = true) by decide)] at H; exact H
                  clear H
                  have H := H1
                  clear H1
                  by_cases c16 : a0.toList = ([115, 108, 105, 99, 101] : List UInt8)
                  · rw [if_pos c16] at H
                    have c16b0 : (a0.toList == ([115, 108, 105, 99, 101] : List UInt8)) = true := beq_iff_eq.mpr c16
                    have c16b1 : (a0.toList != ([115, 108, 105, 99, 101] : List UInt8)) = false := bne_eq_false_iff_eq.mpr c16
                    clear c16
                    simp only [Option.some.injEq, Prod.mk.injEq] at H
                    obtain ⟨rfl, rfl, rfl, rfl, rfl, rfl⟩ := H
                    have hcz17_0 : wc.cell? ⟨gb105, 0, none⟩ = some (.int .i64 0) := (blk_cell BK105.out 0).trans rfl
                    have hcz17_1 : wc.cell? ⟨gb105, 1, none⟩ = some (.int .i64 0) := (blk_cell BK105.out 1).trans rfl
                    have hcz17_2 : wc.cell? ⟨gb105, 2, none⟩ = some (.bool false) := (blk_cell BK105.out 2).trans rfl
                    have hcz17_3 : wc.cell? ⟨gb105, 3, none⟩ = some (.bool false) := (blk_cell BK105.out 3).trans rfl
                    have hcz17_4 : wc.cell? ⟨gb105, 4, none⟩ = some (.bool false) := (blk_cell BK105.out 4).trans rfl
                    have hfz17_0 := blk_frozen BK105.out 0
                    have hfz17_1 := blk_frozen BK105.out 1
                    have hfz17_2 := blk_frozen BK105.out 2
                    have hfz17_3 := blk_frozen BK105.out 3
                    have hfz17_4 := blk_frozen BK105.out 4
                    go_wp2
                    refine bodyPost_ret (results_ct rfl _ _ gb105 38 #[.int .i64 2, .int .i64 3, .bool false, .bool false, .bool true] (0, 0) _ rfl (by (with_reducible repeat (first | refine blk_drewN ?_ _ | refine blk_drew ?_ | refine blk_alloc ?_ _)); refine blk_put (cs := #[.int .i64 2, .int .i64 3, .bool false, .bool false, .bool false]) ?_ 4 _ rfl; (with_reducible repeat (first | refine blk_drewN ?_ _ | refine blk_drew ?_ | refine blk_alloc ?_ _)); refine blk_put (cs := #[.int .i64 2, .int .i64 3, .bool false, .bool false, .bool false]) ?_ 3 _ rfl; (with_reducible repeat (first | refine blk_drewN ?_ _ | refine blk_drew ?_ | refine blk_alloc ?_ _)); refine blk_put (cs := #[.int .i64 2, .int .i64 3, .bool false, .bool false, .bool false]) ?_ 2 _ rfl; (with_reducible repeat (first | refine blk_drewN ?_ _ | refine blk_drew ?_ | refine blk_alloc ?_ _)); refine blk_put (cs := #[.int .i64 2, .int .i64 0, .bool false, .bool false, .bool false]) ?_ 1 _ rfl; (with_reducible repeat (first | refine blk_drewN ?_ _ | refine blk_drew ?_ | refine blk_alloc ?_ _)); refine blk_put (cs := #[.int .i64 0, .int .i64 0, .bool false, .bool false, .bool false]) ?_ 0 _ rfl; (with_reducible repeat (first | refine blk_drewN ?_ _ | refine blk_drew ?_ | refine blk_alloc ?_ _)); exact BK105.out) Tryz.underlying38 rfl (by kernel_rfl)) rfl ?_
                    exact ⟨by first | rfl | (simp [errW_none, errW_some] <;> rfl) | (simp [*, errW_none, errW_some] <;> rfl), by repeat (first | (with_reducible first | exact HB.out | apply below_alloc | apply pw_below_drewN | apply below_drew1 | refine below_set ?_ GE105.out) | exact HB.out)⟩
                  · rw [if_neg c16] at H
                    have c16b0 : (a0.toList == ([115, 108, 105, 99, 101] : List UInt8)) = false := beq_eq_false_iff_ne.mpr c16
                    have c16b1 : (a0.toList != ([115, 108, 105, 99, 101] : List UInt8)) = true := bne_iff_ne.mpr c16
                    have HC18 := Aside0.mk H
                    clear H
                    go_upto_if 23 with (fail)
                    go_cut [23] (fun v23 wc => ∃ (kq : Nat) (x23_17 : Bool), v23 = .bool x23_17 ∧ Aside0 (spec_formOf.j2 kq a0 x23_17 = some (r1, r2, r3, r4, r5, r6)) ∧ Aside0 (kq ≤ kj11) ∧ Aside0 (wc.heap[gb105]? = some (.cells #[.int .i64 0, .int .i64 0, .bool false, .bool false, .bool false] 38 (0, 0))) ∧ Aside0 (Below w.heap.size w wc))
                    case first =>
                      have H := HC18.out
                      clear HC18
                      by_cases c19 : a0.toList = ([99, 97, 108, 108] : List UInt8)
                      · rw [if_pos c19] at H
                        have c19b0 : (a0.toList == ([99, 97, 108, 108] : List UInt8)) = true := beq_iff_eq.mpr c19
                        have c19b1 : (a0.toList != ([99, 97, 108, 108] : List UInt8)) = false := bne_eq_false_iff_eq.mpr c19
                        clear c19
                        (first | rw [c19b0] | (simp only [i64_w, i32_w]; rw [c19b0]) | skip)
                        have H' := Aside0.mk H
                        clear H
                        go_wp2
                        go_meet
                        case rel => exact ⟨_, ((a0.toList == ([99, 97, 108, 108] : List UInt8))), (by first | rfl | (simp; done) | (simp [*]; done)), H', ⟨by have := HJ1.out; have := HJ11.out; first | omega | exact Nat.le_refl _⟩, ⟨by (with_reducible repeat (first | refine blk_drewN ?_ _ | refine blk_drew ?_ | refine blk_alloc ?_ _)); exact BK105.out⟩, ⟨by repeat (first | (with_reducible first | exact HB.out | apply below_alloc | apply pw_below_drewN | apply below_drew1 | refine below_set ?_ GE105.out) | exact HB.out)⟩⟩
                      · rw [if_neg c19] at H
                        have c19b0 : (a0.toList == ([99, 97, 108, 108] : List UInt8)) = false := beq_eq_false_iff_ne.mpr c19
                        have c19b1 : (a0.toList != ([99, 97, 108, 108] : List UInt8)) = true := bne_iff_ne.mpr c19
                        (first | rw [c19b0] | (simp only [i64_w, i32_w]; rw [c19b0]) | skip)
                        have H' := Aside0.mk H
                        clear H
                        go_wp2
                        go_meet
                        case rel => exact ⟨_, ((a0.toList == ([99, 111, 109, 112, 111, 115, 105, 116, 101] : List UInt8))), (by first | rfl | (simp; done) | (simp [*]; done)), H', ⟨by have := HJ1.out; have := HJ11.out; first | omega | exact Nat.le_refl _⟩, ⟨by (with_reducible repeat (first | refine blk_drewN ?_ _ | refine blk_drew ?_ | refine blk_alloc ?_ _)); exact BK105.out⟩, ⟨by repeat (first | (with_reducible first | exact HB.out | apply below_alloc | apply pw_below_drewN | apply below_drew1 | refine below_set ?_ GE105.out) | exact HB.out)⟩⟩
                    case rest =>
                      clear HC18
                      try clear c1
                      try clear p2
                      try clear c4
                      try clear c4b0
                      try clear c4b1
                      try clear c5
                      try clear c5b0
                      try clear c5b1
                      try clear c6
                      try clear c8
                      try clear c8b0
                      try clear c8b1
                      try clear c10
                      try clear c10b0
                      try clear c10b1
                      try clear c12
                      try clear c13
                      try clear c13b0
                      try clear c13b1
                      try clear c14
                      try clear c16
                      try clear c16b0
                      try clear c16b1
                      try clear c19
                      try clear c19b0
                      try clear c19b1
                      try clear hcz11_0
                      try clear hcz11_1
                      try clear hcz11_2
                      try clear hcz11_3
                      try clear hcz11_4
                      try clear hcz15_0
                      try clear hcz15_1
                      try clear hcz15_2
                      try clear hcz15_3
                      try clear hcz15_4
                      try clear hcz17_0
                      try clear hcz17_1
                      try clear hcz17_2
                      try clear hcz17_3
                      try clear hcz17_4
                      try clear hcz7_0
                      try clear hcz7_1
                      try clear hcz7_2
                      try clear hcz7_3
                      try clear hcz7_4
                      try clear hcz9_0
                      try clear hcz9_1
                      try clear hcz9_2
                      try clear hcz9_3
                      try clear hcz9_4
                      try clear hfz11_0
                      try clear hfz11_1
                      try clear hfz11_2
                      try clear hfz11_3
                      try clear hfz11_4
                      try clear hfz15_0
                      try clear hfz15_1
                      try clear hfz15_2
                      try clear hfz15_3
                      try clear hfz15_4
                      try clear hfz17_0
                      try clear hfz17_1
                      try clear hfz17_2
                      try clear hfz17_3
                      try clear hfz17_4
                      try clear hfz7_0
                      try clear hfz7_1
                      try clear hfz7_2
                      try clear hfz7_3
                      try clear hfz7_4
                      try clear hfz9_0
                      try clear hfz9_1
                      try clear hfz9_2
                      try clear hfz9_3
                      try clear hfz9_4
                      try clear p2
                      obtain ⟨kq, x23_17, rfl, HA, HJ17, BK105, HB⟩ := hcut
                      cases kq with
                      | zero => exact absurd HA.out (by simp [spec_formOf.j2])
                      | succ kj17 =>
                        have H := HA.out
                        clear HA
                        simp only [spec_formOf.j2] at H
                        by_cases c20 : x23_17 = true
                        · subst c20
                          have H1 : (some (2, 1, true, false, true, true)) = some (r1, r2, r3, r4, r5, r6) := by rw [if_pos rfl] at H; exact H
                          clear H
                          have H := H1
                          clear H1
                          simp only [Option.some.injEq, Prod.mk.injEq] at H
                          obtain ⟨rfl, rfl, rfl, rfl, rfl, rfl⟩ := H
                          have hcz21_0 : wc.cell? ⟨gb105, 0, none⟩ = some (.int .i64 0) := (blk_cell BK105.out 0).trans rfl
                          have hcz21_1 : wc.cell? ⟨gb105, 1, none⟩ = some (.int .i64 0) := (blk_cell BK105.out 1).trans rfl
                          have hcz21_2 : wc.cell? ⟨gb105, 2, none⟩ = some (.bool false) := (blk_cell BK105.out 2).trans rfl
                          have hcz21_3 : wc.cell? ⟨gb105, 3, none⟩ = some (.bool false) := (blk_cell BK105.out 3).trans rfl
                          have hcz21_4 : wc.cell? ⟨gb105, 4, none⟩ = some (.bool false) := (blk_cell BK105.out 4).trans rfl
                          have hfz21_0 := blk_frozen BK105.out 0
                          have hfz21_1 := blk_frozen BK105.out 1
                          have hfz21_2 := blk_frozen BK105.out 2
                          have hfz21_3 := blk_frozen BK105.out 3
                          have hfz21_4 := blk_frozen BK105.out 4
                          go_wp2
                          refine bodyPost_ret (results_ct rfl _ _ gb105 38 #[.int .i64 2, .int .i64 1, .bool true, .bool false, .bool true] (0, 0) _ rfl (by (with_reducible repeat (first | refine blk_drewN ?_ _ | refine blk_drew ?_ | refine blk_alloc ?_ _)); refine blk_put (cs := #[.int .i64 2, .int .i64 1, .bool true, .bool false, .bool false]) ?_ 4 _ rfl; (with_reducible repeat (first | refine blk_drewN ?_ _ | refine blk_drew ?_ | refine blk_alloc ?_ _)); refine blk_put (cs := #[.int .i64 2, .int .i64 1, .bool true, .bool false, .bool false]) ?_ 3 _ rfl; (with_reducible repeat (first | refine blk_drewN ?_ _ | refine blk_drew ?_ | refine blk_alloc ?_ _)); refine blk_put (cs := #[.int .i64 2, .int .i64 1, .bool false, .bool false, .bool false]) ?_ 2 _ rfl; (with_reducible repeat (first | refine blk_drewN ?_ _ | refine blk_drew ?_ | refine blk_alloc ?_ _)); refine blk_put (cs := #[.int .i64 2, .int .i64 0, .bool false, .bool false, .bool false]) ?_ 1 _ rfl; (with_reducible repeat (first | refine blk_drewN ?_ _ | refine blk_drew ?_ | refine blk_alloc ?_ _)); refine blk_put (cs := #[.int .i64 0, .int .i64 0, .bool false, .bool false, .bool false]) ?_ 0 _ rfl; (with_reducible repeat (first | refine blk_drewN ?_ _ | refine blk_drew ?_ | refine blk_alloc ?_ _)); exact BK105.out) Tryz.underlying38 rfl (by kernel_rfl)) rfl ?_
                          exact ⟨by first | rfl | (simp [errW_none, errW_some] <;> rfl) | (simp [*, errW_none, errW_some] <;> rfl), by repeat (first | (with_reducible first | exact HB.out | apply below_alloc | apply pw_below_drewN | apply below_drew1 | refine below_set ?_ GE105.out) | exact HB.out)⟩
                        · replace c20 := Bool.eq_false_iff.mpr c20
                          subst c20
                          have H1 : (if a0.toList = ([98, 114, 97, 99, 101, 115] : List UInt8) then (some (2, 0, true, true, true, true)) else (if a0.toList = ([115, 116, 97, 114] : List UInt8) then (spec_formOf.j3 kj17 a0 (a0.toList == ([115, 116, 97, 114] : List UInt8))) else (if a0.toList = ([110, 111, 116] : List UInt8) then (spec_formOf.j3 kj17 a0 (a0.toList == ([110, 111, 116] : List UInt8))) else (if a0.toList = ([115, 108, 105, 99, 101, 116, 121, 112, 101] : List UInt8) then (spec_formOf.j3 kj17 a0 (a0.toList == ([115, 108, 105, 99, 101, 116, 121, 112, 101] : List UInt8))) else (spec_formOf.j3 kj17 a0 (a0.toList == ([99, 104, 97, 110, 116, 121, 112, 101] : List UInt8))))))) = some (r1, r2, r3, r4, r5, r6) := by rw [if_neg (show ¬ (false = true) by decide)] at H; exact H
                          clear H
                          have H := H1
                          clear H1
                          by_cases c22 : a0.toList = ([98, 114, 97, 99, 101, 115] : List UInt8)
                          · rw [if_pos c22] at H
                            have c22b0 : (a0.toList == ([98, 114, 97, 99, 101, 115] : List UInt8)) = true := beq_iff_eq.mpr c22
                            have c22b1 : (a0.toList != ([98, 114, 97, 99, 101, 115] : List UInt8)) = false := bne_eq_false_iff_eq.mpr c22
                            clear c22
                            simp only [Option.some.injEq, Prod.mk.injEq] at H
                            obtain ⟨rfl, rfl, rfl, rfl, rfl, rfl⟩ := H
                            have hcz23_0 : wc.cell? ⟨gb105, 0, none⟩ = some (.int .i64 0) := (blk_cell BK105.out 0).trans rfl
                            have hcz23_1 : wc.cell? ⟨gb105, 1, none⟩ = some (.int .i64 0) := (blk_cell BK105.out 1).trans rfl
                            have hcz23_2 : wc.cell? ⟨gb105, 2, none⟩ = some (.bool false) := (blk_cell BK105.out 2).trans rfl
                            have hcz23_3 : wc.cell? ⟨gb105, 3, none⟩ = some (.bool false) := (blk_cell BK105.out 3).trans rfl
                            have hcz23_4 : wc.cell? ⟨gb105, 4, none⟩ = some (.bool false) := (blk_cell BK105.out 4).trans rfl
                            have hfz23_0 := blk_frozen BK105.out 0
                            have hfz23_1 := blk_frozen BK105.out 1
                            have hfz23_2 := blk_frozen BK105.out 2
                            have hfz23_3 := blk_frozen BK105.out 3
                            have hfz23_4 := blk_frozen BK105.out 4
                            go_wp2
                            refine bodyPost_ret (results_ct rfl _ _ gb105 38 #[.int .i64 2, .int .i64 0, .bool true, .bool true, .bool true] (0, 0) _ rfl (by (with_reducible repeat (first | refine blk_drewN ?_ _ | refine blk_drew ?_ | refine blk_alloc ?_ _)); refine blk_put (cs := #[.int .i64 2, .int .i64 0, .bool true, .bool true, .bool false]) ?_ 4 _ rfl; (with_reducible repeat (first | refine blk_drewN ?_ _ | refine blk_drew ?_ | refine blk_alloc ?_ _)); refine blk_put (cs := #[.int .i64 2, .int .i64 0, .bool true, .bool false, .bool false]) ?_ 3 _ rfl; (with_reducible repeat (first | refine blk_drewN ?_ _ | refine blk_drew ?_ | refine blk_alloc ?_ _)); refine blk_put (cs := #[.int .i64 2, .int .i64 0, .bool false, .bool false, .bool false]) ?_ 2 _ rfl; (with_reducible repeat (first | refine blk_drewN ?_ _ | refine blk_drew ?_ | refine blk_alloc ?_ _)); refine blk_put (cs := #[.int .i64 2, .int .i64 0, .bool false, .bool false, .bool false]) ?_ 1 _ rfl; (with_reducible repeat (first | refine blk_drewN ?_ _ | refine blk_drew ?_ | refine blk_alloc ?_ _)); refine blk_put (cs := #[.int .i64 0, .int .i64 0, .bool false, .bool false, .bool false]) ?_ 0 _ rfl; (with_reducible repeat (first | refine blk_drewN ?_ _ | refine blk_drew ?_ | refine blk_alloc ?_ _)); exact BK105.out) Tryz.underlying38 rfl (by kernel_rfl)) rfl ?_
                            exact ⟨by first | rfl | (simp [errW_none, errW_some] <;> rfl) | (simp [*, errW_none, errW_some] <;> rfl), by repeat (first | (with_reducible first | exact HB.out | apply below_alloc | apply pw_below_drewN | apply below_drew1 | refine below_set ?_ GE105.out) | exact HB.out)⟩
                          · rw [if_neg c22] at H
                            have c22b0 : (a0.toList == ([98, 114, 97, 99, 101, 115] : List UInt8)) = false := beq_eq_false_iff_ne.mpr c22
                            have c22b1 : (a0.toList != ([98, 114, 97, 99, 101, 115] : List UInt8)) = true := bne_iff_ne.mpr c22
                            have HC24 := Aside0.mk H
                            clear H
                            go_upto_if 30 with (fail)
                            go_cut [30] (fun v30 wc => ∃ (kq : Nat) (x30_23 : Bool), v30 = .bool x30_23 ∧ Aside0 (spec_formOf.j3 kq a0 x30_23 = some (r1, r2, r3, r4, r5, r6)) ∧ Aside0 (kq ≤ kj17) ∧ Aside0 (wc.heap[gb105]? = some (.cells #[.int .i64 0, .int .i64 0, .bool false, .bool false, .bool false] 38 (0, 0))) ∧ Aside0 (Below w.heap.size w wc))
                            case first =>
                              have H := HC24.out
                              clear HC24
                              by_cases c25 : a0.toList = ([115, 116, 97, 114] : List UInt8)
                              · rw [if_pos c25] at H
                                have c25b0 : (a0.toList == ([115, 116, 97, 114] : List UInt8)) = true := beq_iff_eq.mpr c25
                                have c25b1 : (a0.toList != ([115, 116, 97, 114] : List UInt8)) = false := bne_eq_false_iff_eq.mpr c25
                                clear c25
                                (first | rw [c25b0] | (simp only [i64_w, i32_w]; rw [c25b0]) | skip)
                                have H' := Aside0.mk H
                                clear H
                                go_wp2
                                go_meet
                                case rel => exact ⟨_, ((a0.toList == ([115, 116, 97, 114] : List UInt8))), (by first | rfl | (simp; done) | (simp [*]; done)), H', ⟨by have := HJ1.out; have := HJ11.out; have := HJ17.out; first | omega | exact Nat.le_refl _⟩, ⟨by (with_reducible repeat (first | refine blk_drewN ?_ _ | refine blk_drew ?_ | refine blk_alloc ?_ _)); exact BK105.out⟩, ⟨by repeat (first | (with_reducible first | exact HB.out | apply below_alloc | apply pw_below_drewN | apply below_drew1 | refine below_set ?_ GE105.out) | exact HB.out)⟩⟩
                              · rw [if_neg c25] at H
                                have c25b0 : (a0.toList == ([115, 116, 97, 114] : List UInt8)) = false := beq_eq_false_iff_ne.mpr c25
                                have c25b1 : (a0.toList != ([115, 116, 97, 114] : List UInt8)) = true := bne_iff_ne.mpr c25
                                (first | rw [c25b0] | (simp only [i64_w, i32_w]; rw [c25b0]) | skip)
                                by_cases c26 : a0.toList = ([110, 111, 116] : List UInt8)
                                · rw [if_pos c26] at H
                                  have c26b0 : (a0.toList == ([110, 111, 116] : List UInt8)) = true := beq_iff_eq.mpr c26
                                  have c26b1 : (a0.toList != ([110, 111, 116] : List UInt8)) = false := bne_eq_false_iff_eq.mpr c26
                                  clear c26
                                  have H' := Aside0.mk H
                                  clear H
                                  go_wp2
                                  go_meet
                                  case rel => exact ⟨_, ((a0.toList == ([110, 111, 116] : List UInt8))), (by first | rfl | (simp; done) | (simp [*]; done)), H', ⟨by have := HJ1.out; have := HJ11.out; have := HJ17.out; first | omega | exact Nat.le_refl _⟩, ⟨by (with_reducible repeat (first | refine blk_drewN ?_ _ | refine blk_drew ?_ | refine blk_alloc ?_ _)); exact BK105.out⟩, ⟨by repeat (first | (with_reducible first | exact HB.out | apply below_alloc | apply pw_below_drewN | apply below_drew1 | refine below_set ?_ GE105.out) | exact HB.out)⟩⟩
                                · rw [if_neg c26] at H
                                  have c26b0 : (a0.toList == ([110, 111, 116] : List UInt8)) = false := beq_eq_false_iff_ne.mpr c26
                                  have c26b1 : (a0.toList != ([110, 111, 116] : List UInt8)) = true := bne_iff_ne.mpr c26
                                  by_cases c27 : a0.toList = ([115, 108, 105, 99, 101, 116, 121, 112, 101] : List UInt8)
                                  · rw [if_pos c27] at H
                                    have c27b0 : (a0.toList == ([115, 108, 105, 99, 101, 116, 121, 112, 101] : List UInt8)) = true := beq_iff_eq.mpr c27
                                    have c27b1 : (a0.toList != ([115, 108, 105, 99, 101, 116, 121, 112, 101] : List UInt8)) = false := bne_eq_false_iff_eq.mpr c27
                                    clear c27
                                    have H' := Aside0.mk H
                                    clear H
                                    go_wp2
                                    go_meet
                                    case rel => exact ⟨_, ((a0.toList == ([115, 108, 105, 99, 101, 116, 121, 112, 101] : List UInt8))), (by first | rfl | (simp; done) | (simp [*]; done)), H', ⟨by have := HJ1.out; have := HJ11.out; have := HJ17.out; first | omega | exact Nat.le_refl _⟩, ⟨by (with_reducible repeat (first | refine blk_drewN ?_ _ | refine blk_drew ?_ | refine blk_alloc ?_ _)); exact BK105.out⟩, ⟨by repeat (first | (with_reducible first | exact HB.out | apply below_alloc | apply pw_below_drewN | apply below_drew1 | refine below_set ?_ GE105.out) | exact HB.out)⟩⟩
                                  · rw [if_neg c27] at H
                                    have c27b0 : (a0.toList == ([115, 108, 105, 99, 101, 116, 121, 112, 101] : List UInt8)) = false := beq_eq_false_iff_ne.mpr c27
                                    have c27b1 : (a0.toList != ([115, 108, 105, 99, 101, 116, 121, 112, 101] : List UInt8)) = true := bne_iff_ne.mpr c27
                                    have H' := Aside0.mk H
                                    clear H
                                    go_wp2
                                    go_meet
                                    case rel => exact ⟨_, ((a0.toList == ([99, 104, 97, 110, 116, 121, 112, 101] : List UInt8))), (by first | rfl | (simp; done) | (simp [*]; done)), H', ⟨by have := HJ1.out; have := HJ11.out; have := HJ17.out; first | omega | exact Nat.le_refl _⟩, ⟨by (with_reducible repeat (first | refine blk_drewN ?_ _ | refine blk_drew ?_ | refine blk_alloc ?_ _)); exact BK105.out⟩, ⟨by repeat (first | (with_reducible first | exact HB.out | apply below_alloc | apply pw_below_drewN | apply below_drew1 | refine below_set ?_ GE105.out) | exact HB.out)⟩⟩
                            case rest =>
                              clear HC24
                              try clear c1
                              try clear c2
                              try clear p2
                              try clear c4
                              try clear c4b0
                              try clear c4b1
                              try clear c5
                              try clear c5b0
                              try clear c5b1
                              try clear c6
                              try clear c8
                              try clear c8b0
                              try clear c8b1
                              try clear c10
                              try clear c10b0
                              try clear c10b1
                              try clear c12
                              try clear c13
                              try clear c13b0
                              try clear c13b1
                              try clear c14
                              try clear c16
                              try clear c16b0
                              try clear c16b1
                              try clear c19
                              try clear c19b0
                              try clear c19b1
                              try clear c20
                              try clear c22
                              try clear c22b0
                              try clear c22b1
                              try clear c25
                              try clear c25b0
                              try clear c25b1
                              try clear c26
                              try clear c26b0
                              try clear c26b1
                              try clear c27
                              try clear c27b0
                              try clear c27b1
                              try clear hcz11_0
                              try clear hcz11_1
                              try clear hcz11_2
                              try clear hcz11_3
                              try clear hcz11_4
                              try clear hcz15_0
                              try clear hcz15_1
                              try clear hcz15_2
                              try clear hcz15_3
                              try clear hcz15_4
                              try clear hcz17_0
                              try clear hcz17_1
                              try clear hcz17_2
                              try clear hcz17_3
                              try clear hcz17_4
                              try clear hcz21_0
                              try clear hcz21_1
                              try clear hcz21_2
                              try clear hcz21_3
                              try clear hcz21_4
                              try clear hcz23_0
                              try clear hcz23_1
                              try clear hcz23_2
                              try clear hcz23_3
                              try clear hcz23_4
                              try clear hcz7_0
                              try clear hcz7_1
                              try clear hcz7_2
                              try clear hcz7_3
                              try clear hcz7_4
                              try clear hcz9_0
                              try clear hcz9_1
                              try clear hcz9_2
                              try clear hcz9_3
                              try clear hcz9_4
                              try clear hfz11_0
                              try clear hfz11_1
                              try clear hfz11_2
                              try clear hfz11_3
                              try clear hfz11_4
                              try clear hfz15_0
                              try clear hfz15_1
                              try clear hfz15_2
                              try clear hfz15_3
                              try clear hfz15_4
                              try clear hfz17_0
                              try clear hfz17_1
                              try clear hfz17_2
                              try clear hfz17_3
                              try clear hfz17_4
                              try clear hfz21_0
                              try clear hfz21_1
                              try clear hfz21_2
                              try clear hfz21_3
                              try clear hfz21_4
                              try clear hfz23_0
                              try clear hfz23_1
                              try clear hfz23_2
                              try clear hfz23_3
                              try clear hfz23_4
                              try clear hfz7_0
                              try clear hfz7_1
                              try clear hfz7_2
                              try clear hfz7_3
                              try clear hfz7_4
                              try clear hfz9_0
                              try clear hfz9_1
                              try clear hfz9_2
                              try clear hfz9_3
                              try clear hfz9_4
                              try clear p2
                              obtain ⟨kq, x30_23, rfl, HA, HJ23, BK105, HB⟩ := hcut
                              cases kq with
                              | zero => exact absurd HA.out (by simp [spec_formOf.j3])
                              | succ kj23 =>
                                have H := HA.out
                                clear HA
                                simp only [spec_formOf.j3] at H
                                by_cases c28 : x30_23 = true
                                · subst c28
                                  have H1 : (some (1, 1, false, true, false, true)) = some (r1, r2, r3, r4, r5, r6) := by rw [if_pos rfl] at H; exact H
                                  clear H
                                  have H := H1
                                  clear H1
                                  simp only [Option.some.injEq, Prod.mk.injEq] at H
                                  obtain ⟨rfl, rfl, rfl, rfl, rfl, rfl⟩ := H
                                  have hcz29_0 : wc.cell? ⟨gb105, 0, none⟩ = some (.int .i64 0) := (blk_cell BK105.out 0).trans rfl
                                  have hcz29_1 : wc.cell? ⟨gb105, 1, none⟩ = some (.int .i64 0) := (blk_cell BK105.out 1).trans rfl
                                  have hcz29_2 : wc.cell? ⟨gb105, 2, none⟩ = some (.bool false) := (blk_cell BK105.out 2).trans rfl
                                  have hcz29_3 : wc.cell? ⟨gb105, 3, none⟩ = some (.bool false) := (blk_cell BK105.out 3).trans rfl
                                  have hcz29_4 : wc.cell? ⟨gb105, 4, none⟩ = some (.bool false) := (blk_cell BK105.out 4).trans rfl
                                  have hfz29_0 := blk_frozen BK105.out 0
                                  have hfz29_1 := blk_frozen BK105.out 1
                                  have hfz29_2 := blk_frozen BK105.out 2
                                  have hfz29_3 := blk_frozen BK105.out 3
                                  have hfz29_4 := blk_frozen BK105.out 4
                                  go_wp2
                                  refine bodyPost_ret (results_ct rfl _ _ gb105 38 #[.int .i64 1, .int .i64 1, .bool false, .bool true, .bool false] (0, 0) _ rfl (by (with_reducible repeat (first | refine blk_drewN ?_ _ | refine blk_drew ?_ | refine blk_alloc ?_ _)); refine blk_put (cs := #[.int .i64 1, .int .i64 1, .bool false, .bool true, .bool false]) ?_ 4 _ rfl; (with_reducible repeat (first | refine blk_drewN ?_ _ | refine blk_drew ?_ | refine blk_alloc ?_ _)); refine blk_put (cs := #[.int .i64 1, .int .i64 1, .bool false, .bool false, .bool false]) ?_ 3 _ rfl; (with_reducible repeat (first | refine blk_drewN ?_ _ | refine blk_drew ?_ | refine blk_alloc ?_ _)); refine blk_put (cs := #[.int .i64 1, .int .i64 1, .bool false, .bool false, .bool false]) ?_ 2 _ rfl; (with_reducible repeat (first | refine blk_drewN ?_ _ | refine blk_drew ?_ | refine blk_alloc ?_ _)); refine blk_put (cs := #[.int .i64 1, .int .i64 0, .bool false, .bool false, .bool false]) ?_ 1 _ rfl; (with_reducible repeat (first | refine blk_drewN ?_ _ | refine blk_drew ?_ | refine blk_alloc ?_ _)); refine blk_put (cs := #[.int .i64 0, .int .i64 0, .bool false, .bool false, .bool false]) ?_ 0 _ rfl; (with_reducible repeat (first | refine blk_drewN ?_ _ | refine blk_drew ?_ | refine blk_alloc ?_ _)); exact BK105.out) Tryz.underlying38 rfl (by kernel_rfl)) rfl ?_
                                  exact ⟨by first | rfl | (simp [errW_none, errW_some] <;> rfl) | (simp [*, errW_none, errW_some] <;> rfl), by repeat (first | (with_reducible first | exact HB.out | apply below_alloc | apply pw_below_drewN | apply below_drew1 | refine below_set ?_ GE105.out) | exact HB.out)⟩
                                · replace c28 := Bool.eq_false_iff.mpr c28
                                  subst c28
                                  have H1 : (if a0.toList = ([109, 97, 112, 116, 121, 112, 101] : List UInt8) then (some (1, 2, false, true, false, true)) else (if a0.toList = ([97, 100, 100] : List UInt8) then (some (1, 2, false, false, false, true)) else (if a0.toList = ([107, 101, 121, 118, 97, 108, 117, 101] : List UInt8) then (some (1, 2, false, false, false, true)) else (some (0, 0, false, false, false, false))))) = some (r1, r2, r3, r4, r5, r6) := by rw [if_neg (show ¬ (false = true) by decide)] at H; exact H
                                  clear H
                                  have H := H1
                                  clear H1
                                  by_cases c30 : a0.toList = ([109, 97, 112, 116, 121, 112, 101] : List UInt8)
                                  · rw [if_pos c30] at H
                                    have c30b0 : (a0.toList == ([109, 97, 112, 116, 121, 112, 101] : List UInt8)) = true := beq_iff_eq.mpr c30
                                    have c30b1 : (a0.toList != ([109, 97, 112, 116, 121, 112, 101] : List UInt8)) = false := bne_eq_false_iff_eq.mpr c30
                                    clear c30
                                    simp only [Option.some.injEq, Prod.mk.injEq] at H
                                    obtain ⟨rfl, rfl, rfl, rfl, rfl, rfl⟩ := H
                                    have hcz31_0 : wc.cell? ⟨gb105, 0, none⟩ = some (.int .i64 0) := (blk_cell BK105.out 0).trans rfl
                                    have hcz31_1 : wc.cell? ⟨gb105, 1, none⟩ = some (.int .i64 0) := (blk_cell BK105.out 1).trans rfl
                                    have hcz31_2 : wc.cell? ⟨gb105, 2, none⟩ = some (.bool false) := (blk_cell BK105.out 2).trans rfl
                                    have hcz31_3 : wc.cell? ⟨gb105, 3, none⟩ = some (.bool false) := (blk_cell BK105.out 3).trans rfl
                                    have hcz31_4 : wc.cell? ⟨gb105, 4, none⟩ = some (.bool false) := (blk_cell BK105.out 4).trans rfl
                                    have hfz31_0 := blk_frozen BK105.out 0
                                    have hfz31_1 := blk_frozen BK105.out 1
                                    have hfz31_2 := blk_frozen BK105.out 2
                                    have hfz31_3 := blk_frozen BK105.out 3
                                    have hfz31_4 := blk_frozen BK105.out 4
                                    go_wp2
                                    refine bodyPost_ret (results_ct rfl _ _ gb105 38 #[.int .i64 1, .int .i64 2, .bool false, .bool true, .bool false] (0, 0) _ rfl (by (with_reducible repeat (first | refine blk_drewN ?_ _ | refine blk_drew ?_ | refine blk_alloc ?_ _)); refine blk_put (cs := #[.int .i64 1, .int .i64 2, .bool false, .bool true, .bool false]) ?_ 4 _ rfl; (with_reducible repeat (first | refine blk_drewN ?_ _ | refine blk_drew ?_ | refine blk_alloc ?_ _)); refine blk_put (cs := #[.int .i64 1, .int .i64 2, .bool false, .bool false, .bool false]) ?_ 3 _ rfl; (with_reducible repeat (first | refine blk_drewN ?_ _ | refine blk_drew ?_ | refine blk_alloc ?_ _)); refine blk_put (cs := #[.int .i64 1, .int .i64 2, .bool false, .bool false, .bool false]) ?_ 2 _ rfl; (with_reducible repeat (first | refine blk_drewN ?_ _ | refine blk_drew ?_ | refine blk_alloc ?_ _)); refine blk_put (cs := #[.int .i64 1, .int .i64 0, .bool false, .bool false, .bool false]) ?_ 1 _ rfl; (with_reducible repeat (first | refine blk_drewN ?_ _ | refine blk_drew ?_ | refine blk_alloc ?_ _)); refine blk_put (cs := #[.int .i64 0, .int .i64 0, .bool false, .bool false, .bool false]) ?_ 0 _ rfl; (with_reducible repeat (first | refine blk_drewN ?_ _ | refine blk_drew ?_ | refine blk_alloc ?_ _)); exact BK105.out) Tryz.underlying38 rfl (by kernel_rfl)) rfl ?_
                                    exact ⟨by first | rfl | (simp [errW_none, errW_some] <;> rfl) | (simp [*, errW_none, errW_some] <;> rfl), by repeat (first | (with_reducible first | exact HB.out | apply below_alloc | apply pw_below_drewN | apply below_drew1 | refine below_set ?_ GE105.out) | exact HB.out)⟩
                                  · rw [if_neg c30] at H
                                    have c30b0 : (a0.toList == ([109, 97, 112, 116, 121, 112, 101] : List UInt8)) = false := beq_eq_false_iff_ne.mpr c30
                                    have c30b1 : (a0.toList != ([109, 97, 112, 116, 121, 112, 101] : List UInt8)) = true := bne_iff_ne.mpr c30
                                    by_cases c32 : a0.toList = ([97, 100, 100] : List UInt8)
                                    · rw [if_pos c32] at H
                                      have c32b0 : (a0.toList == ([97, 100, 100] : List UInt8)) = true := beq_iff_eq.mpr c32
                                      have c32b1 : (a0.toList != ([97, 100, 100] : List UInt8)) = false := bne_eq_false_iff_eq.mpr c32
                                      clear c32
                                      simp only [Option.some.injEq, Prod.mk.injEq] at H
                                      obtain ⟨rfl, rfl, rfl, rfl, rfl, rfl⟩ := H
                                      have hcz33_0 : wc.cell? ⟨gb105, 0, none⟩ = some (.int .i64 0) := (blk_cell BK105.out 0).trans rfl
                                      have hcz33_1 : wc.cell? ⟨gb105, 1, none⟩ = some (.int .i64 0) := (blk_cell BK105.out 1).trans rfl
                                      have hcz33_2 : wc.cell? ⟨gb105, 2, none⟩ = some (.bool false) := (blk_cell BK105.out 2).trans rfl
                                      have hcz33_3 : wc.cell? ⟨gb105, 3, none⟩ = some (.bool false) := (blk_cell BK105.out 3).trans rfl
                                      have hcz33_4 : wc.cell? ⟨gb105, 4, none⟩ = some (.bool false) := (blk_cell BK105.out 4).trans rfl
                                      have hfz33_0 := blk_frozen BK105.out 0
                                      have hfz33_1 := blk_frozen BK105.out 1
                                      have hfz33_2 := blk_frozen BK105.out 2
                                      have hfz33_3 := blk_frozen BK105.out 3
                                      have hfz33_4 := blk_frozen BK105.out 4
                                      go_wp2
                                      refine bodyPost_ret (results_ct rfl _ _ gb105 38 #[.int .i64 1, .int .i64 2, .bool false, .bool false, .bool false] (0, 0) _ rfl (by (with_reducible repeat (first | refine blk_drewN ?_ _ | refine blk_drew ?_ | refine blk_alloc ?_ _)); refine blk_put (cs := #[.int .i64 1, .int .i64 2, .bool false, .bool false, .bool false]) ?_ 4 _ rfl; (with_reducible repeat (first | refine blk_drewN ?_ _ | refine blk_drew ?_ | refine blk_alloc ?_ _)); refine blk_put (cs := #[.int .i64 1, .int .i64 2, .bool false, .bool false, .bool false]) ?_ 3 _ rfl; (with_reducible repeat (first | refine blk_drewN ?_ _ | refine blk_drew ?_ | refine blk_alloc ?_ _)); refine blk_put (cs := #[.int .i64 1, .int .i64 2, .bool false, .bool false, .bool false]) ?_ 2 _ rfl; (with_reducible repeat (first | refine blk_drewN ?_ _ | refine blk_drew ?_ | refine blk_alloc ?_ _)); refine blk_put (cs := #[.int .i64 1, .int .i64 0, .bool false, .bool false, .bool false]) ?_ 1 _ rfl; (with_reducible repeat (first | refine blk_drewN ?_ _ | refine blk_drew ?_ | refine blk_alloc ?_ _)); refine blk_put (cs := #[.int .i64 0, .int .i64 0, .bool false, .bool false, .bool false]) ?_ 0 _ rfl; (with_reducible repeat (first | refine blk_drewN ?_ _ | refine blk_drew ?_ | refine blk_alloc ?_ _)); exact BK105.out) Tryz.underlying38 rfl (by kernel_rfl)) rfl ?_
                                      exact ⟨by first | rfl | (simp [errW_none, errW_some] <;> rfl) | (simp [*, errW_none, errW_some] <;> rfl), by repeat (first | (with_reducible first | exact HB.out | apply below_alloc | apply pw_below_drewN | apply below_drew1 | refine below_set ?_ GE105.out) | exact HB.out)⟩
                                    · rw [if_neg c32] at H
                                      have c32b0 : (a0.toList == ([97, 100, 100] : List UInt8)) = false := beq_eq_false_iff_ne.mpr c32
                                      have c32b1 : (a0.toList != ([97, 100, 100] : List UInt8)) = true := bne_iff_ne.mpr c32
                                      by_cases c34 : a0.toList = ([107, 101, 121, 118, 97, 108, 117, 101] : List UInt8)
                                      · rw [if_pos c34] at H
                                        have c34b0 : (a0.toList == ([107, 101, 121, 118, 97, 108, 117, 101] : List UInt8)) = true := beq_iff_eq.mpr c34
                                        have c34b1 : (a0.toList != ([107, 101, 121, 118, 97, 108, 117, 101] : List UInt8)) = false := bne_eq_false_iff_eq.mpr c34
                                        clear c34
                                        simp only [Option.some.injEq, Prod.mk.injEq] at H
                                        obtain ⟨rfl, rfl, rfl, rfl, rfl, rfl⟩ := H
                                        have hcz35_0 : wc.cell? ⟨gb105, 0, none⟩ = some (.int .i64 0) := (blk_cell BK105.out 0).trans rfl
                                        have hcz35_1 : wc.cell? ⟨gb105, 1, none⟩ = some (.int .i64 0) := (blk_cell BK105.out 1).trans rfl
                                        have hcz35_2 : wc.cell? ⟨gb105, 2, none⟩ = some (.bool false) := (blk_cell BK105.out 2).trans rfl
                                        have hcz35_3 : wc.cell? ⟨gb105, 3, none⟩ = some (.bool false) := (blk_cell BK105.out 3).trans rfl
                                        have hcz35_4 : wc.cell? ⟨gb105, 4, none⟩ = some (.bool false) := (blk_cell BK105.out 4).trans rfl
                                        have hfz35_0 := blk_frozen BK105.out 0
                                        have hfz35_1 := blk_frozen BK105.out 1
                                        have hfz35_2 := blk_frozen BK105.out 2
                                        have hfz35_3 := blk_frozen BK105.out 3
                                        have hfz35_4 := blk_frozen BK105.out 4
                                        go_wp2
                                        refine bodyPost_ret (results_ct rfl _ _ gb105 38 #[.int .i64 1, .int .i64 2, .bool false, .bool false, .bool false] (0, 0) _ rfl (by (with_reducible repeat (first | refine blk_drewN ?_ _ | refine blk_drew ?_ | refine blk_alloc ?_ _)); refine blk_put (cs := #[.int .i64 1, .int .i64 2, .bool false, .bool false, .bool false]) ?_ 4 _ rfl; (with_reducible repeat (first | refine blk_drewN ?_ _ | refine blk_drew ?_ | refine blk_alloc ?_ _)); refine blk_put (cs := #[.int .i64 1, .int .i64 2, .bool false, .bool false, .bool false]) ?_ 3 _ rfl; (with_reducible repeat (first | refine blk_drewN ?_ _ | refine blk_drew ?_ | refine blk_alloc ?_ _)); refine blk_put (cs := #[.int .i64 1, .int .i64 2, .bool false, .bool false, .bool false]) ?_ 2 _ rfl; (with_reducible repeat (first | refine blk_drewN ?_ _ | refine blk_drew ?_ | refine blk_alloc ?_ _)); refine blk_put (cs := #[.int .i64 1, .int .i64 0, .bool false, .bool false, .bool false]) ?_ 1 _ rfl; (with_reducible repeat (first | refine blk_drewN ?_ _ | refine blk_drew ?_ | refine blk_alloc ?_ _)); refine blk_put (cs := #[.int .i64 0, .int .i64 0, .bool false, .bool false, .bool false]) ?_ 0 _ rfl; (with_reducible repeat (first | refine blk_drewN ?_ _ | refine blk_drew ?_ | refine blk_alloc ?_ _)); exact BK105.out) Tryz.underlying38 rfl (by kernel_rfl)) rfl ?_
                                        exact ⟨by first | rfl | (simp [errW_none, errW_some] <;> rfl) | (simp [*, errW_none, errW_some] <;> rfl), by repeat (first | (with_reducible first | exact HB.out | apply below_alloc | apply pw_below_drewN | apply below_drew1 | refine below_set ?_ GE105.out) | exact HB.out)⟩
                                      · rw [if_neg c34] at H
                                        have c34b0 : (a0.toList == ([107, 101, 121, 118, 97, 108, 117, 101] : List UInt8)) = false := beq_eq_false_iff_ne.mpr c34
                                        have c34b1 : (a0.toList != ([107, 101, 121, 118, 97, 108, 117, 101] : List UInt8)) = true := bne_iff_ne.mpr c34
                                        simp only [Option.some.injEq, Prod.mk.injEq] at H
                                        obtain ⟨rfl, rfl, rfl, rfl, rfl, rfl⟩ := H
                                        have hcz36_0 : wc.cell? ⟨gb105, 0, none⟩ = some (.int .i64 0) := (blk_cell BK105.out 0).trans rfl
                                        have hcz36_1 : wc.cell? ⟨gb105, 1, none⟩ = some (.int .i64 0) := (blk_cell BK105.out 1).trans rfl
                                        have hcz36_2 : wc.cell? ⟨gb105, 2, none⟩ = some (.bool false) := (blk_cell BK105.out 2).trans rfl
                                        have hcz36_3 : wc.cell? ⟨gb105, 3, none⟩ = some (.bool false) := (blk_cell BK105.out 3).trans rfl
                                        have hcz36_4 : wc.cell? ⟨gb105, 4, none⟩ = some (.bool false) := (blk_cell BK105.out 4).trans rfl
                                        have hfz36_0 := blk_frozen BK105.out 0
                                        have hfz36_1 := blk_frozen BK105.out 1
                                        have hfz36_2 := blk_frozen BK105.out 2
                                        have hfz36_3 := blk_frozen BK105.out 3
                                        have hfz36_4 := blk_frozen BK105.out 4
                                        go_wp2
                                        refine bodyPost_ret (results_ct rfl _ _ gb105 38 #[.int .i64 0, .int .i64 0, .bool false, .bool false, .bool false] (0, 0) _ rfl (by (with_reducible repeat (first | refine blk_drewN ?_ _ | refine blk_drew ?_ | refine blk_alloc ?_ _)); refine blk_put (cs := #[.int .i64 0, .int .i64 0, .bool false, .bool false, .bool false]) ?_ 4 _ rfl; (with_reducible repeat (first | refine blk_drewN ?_ _ | refine blk_drew ?_ | refine blk_alloc ?_ _)); refine blk_put (cs := #[.int .i64 0, .int .i64 0, .bool false, .bool false, .bool false]) ?_ 3 _ rfl; (with_reducible repeat (first | refine blk_drewN ?_ _ | refine blk_drew ?_ | refine blk_alloc ?_ _)); refine blk_put (cs := #[.int .i64 0, .int .i64 0, .bool false, .bool false, .bool false]) ?_ 2 _ rfl; (with_reducible repeat (first | refine blk_drewN ?_ _ | refine blk_drew ?_ | refine blk_alloc ?_ _)); refine blk_put (cs := #[.int .i64 0, .int .i64 0, .bool false, .bool false, .bool false]) ?_ 1 _ rfl; (with_reducible repeat (first | refine blk_drewN ?_ _ | refine blk_drew ?_ | refine blk_alloc ?_ _)); refine blk_put (cs := #[.int .i64 0, .int .i64 0, .bool false, .bool false, .bool false]) ?_ 0 _ rfl; (with_reducible repeat (first | refine blk_drewN ?_ _ | refine blk_drew ?_ | refine blk_alloc ?_ _)); exact BK105.out) Tryz.underlying38 rfl (by kernel_rfl)) rfl ?_
                                        exact ⟨by first | rfl | (simp [errW_none, errW_some] <;> rfl) | (simp [*, errW_none, errW_some] <;> rfl), by repeat (first | (with_reducible first | exact HB.out | apply below_alloc | apply pw_below_drewN | apply below_drew1 | refine below_set ?_ GE105.out) | exact HB.out)⟩

end Go.Proofs.YtbojpbfckgjgbaaGreat.A
