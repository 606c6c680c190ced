-- Written by a program of this session (gprint.py) out of the kit's print of the translation. Not trusted: Lean checks it.
import Derived.Test.YtcjiafjahfmdoaaFmtA0
import Derived.Test.YtcjiafjahfmdoaaFmtA6
namespace Go.Proofs.YtcjiafjahfmdoaaFmt.A
open Go.RowKit Go.Proofs.YtcjiafjahfmdoaaFmtW.PrintWords Go.Proofs.YtcjiafjahfmdoaaFmtW.PrintLast Go.Proofs.YtcjiafjahfmdoaaFmtW.PrintMore
attribute [local go_sem] max2_int min2_int max_two min_two max_three min_three max_four min_four   -- for this text's walks alone
set_option linter.unusedVariables false
set_option linter.unusedSimpArgs false

/-! ### spec_stringOf: function 16 -/
mutual
def spec_stringOf.l0 : Nat → ByteArray → List Int → Int → Option (ByteArray × Int × Bool)
  | 0, _, _, _ => none
  | k + 1, x0, x5, x6 => if x6 < (x0.size : Int) then (if 0 ≤ x6 then (if 0 < (x0.size : Int) then (if (bt x0 x6) = (bt x0 0) then (some (strOfNums x5, wrap64 (x6 + 1), true)) else (if (bt x0 x6) = 92 then (spec_stringOf.j1 k x0 x5 x6 ((bt x0 0) == 34)) else (spec_stringOf.j1 k x0 x5 x6 false))) else (none)) else (none)) else (some ((⟨#[]⟩ : ByteArray), 0, false))
def spec_stringOf.j1 : Nat → ByteArray → List Int → Int → Bool → Option (ByteArray × Int × Bool)
  | 0, _, _, _, _ => none
  | k + 1, x0, x5, x6, x33 => if x33 = true then (if 0 ≤ (wrap64 (x6 + 1)) then (if (wrap64 (x6 + 1)) ≤ (x0.size : Int) then ((spec_escapeOf.f k (x0.extract ((wrap64 (x6 + 1)) : Int).toNat x0.size)).bind fun bt109 => (if bt109.2 = 0 then (some ((⟨#[]⟩ : ByteArray), 0, false)) else (if x5.length < 140737488355328 then (spec_stringOf.l0 k x0 (x5 ++ [bt109.1]) (wrap64 (x6 + (wrap64 (1 + bt109.2))))) else (none)))) else (none)) else (none)) else (if 0 ≤ x6 then (if x6 < (x0.size : Int) then (if x5.length < 140737488355328 then (spec_stringOf.l0 k x0 (x5 ++ [bt x0 x6]) (wrap64 (x6 + 1))) else (none)) else (none)) else (none))
end
def spec_stringOf.f (k : Nat) (a0 : ByteArray) : Option (ByteArray × Int × Bool) := spec_stringOf.l0 k a0 (([] : List Int)) 1
theorem spec_stringOf.mono_l : ∀ k, (∀ y0 y1 y2, LeO (spec_stringOf.l0 k y0 y1 y2) (spec_stringOf.l0 (k + 1) y0 y1 y2)) ∧ (∀ y0 y1 y2 y3, LeO (spec_stringOf.j1 k y0 y1 y2 y3) (spec_stringOf.j1 (k + 1) y0 y1 y2 y3))
  | 0 => ⟨fun _ _ _ r h => by simp [spec_stringOf.l0] at h, fun _ _ _ _ r h => by simp [spec_stringOf.j1] at h⟩
  | k + 1 => by
    obtain ⟨ih0, ih1⟩ := spec_stringOf.mono_l k
    refine ⟨?_, ?_⟩
    · intro y0 y1 y2
      unfold spec_stringOf.l0
      repeat' first
      | (with_reducible exact ih0 _ _ _)
      | (with_reducible exact ih1 _ _ _ _)
      | (with_reducible exact spec_escapeOf.mono _ _)
      | (with_reducible exact LeO.refl _)
      | (with_reducible exact LeO.none _)
      | (with_reducible refine LeO.ite ?_ ?_)
      | (with_reducible refine LeO.bind ?_ (fun _ => ?_))
      | exact ih0 _ _ _
      | exact ih1 _ _ _ _
      | exact spec_escapeOf.mono _ _
      | exact LeO.none _
      | refine LeO.ite ?_ ?_
      | refine LeO.bind ?_ (fun _ => ?_)
    · intro y0 y1 y2 y3
      unfold spec_stringOf.j1
      repeat' first
      | (with_reducible exact ih0 _ _ _)
      | (with_reducible exact ih1 _ _ _ _)
      | (with_reducible exact spec_escapeOf.mono _ _)
      | (with_reducible exact LeO.refl _)
      | (with_reducible exact LeO.none _)
      | (with_reducible refine LeO.ite ?_ ?_)
      | (with_reducible refine LeO.bind ?_ (fun _ => ?_))
      | exact ih0 _ _ _
      | exact ih1 _ _ _ _
      | exact spec_escapeOf.mono _ _
      | exact LeO.none _
      | refine LeO.ite ?_ ?_
      | refine LeO.bind ?_ (fun _ => ?_)
theorem spec_stringOf.mono : ∀ a0 k, LeO (spec_stringOf.f k a0) (spec_stringOf.f (k + 1) a0) := by
  intro a0 k
  obtain ⟨ih0, ih1⟩ := spec_stringOf.mono_l k
  unfold spec_stringOf.f
  repeat' first
      | (with_reducible exact ih0 _ _ _)
      | (with_reducible exact ih1 _ _ _ _)
      | (with_reducible exact spec_escapeOf.mono _ _)
      | (with_reducible exact LeO.refl _)
      | (with_reducible exact LeO.none _)
      | (with_reducible refine LeO.ite ?_ ?_)
      | (with_reducible refine LeO.bind ?_ (fun _ => ?_))
      | exact ih0 _ _ _
      | exact ih1 _ _ _ _
      | exact spec_escapeOf.mono _ _
      | exact LeO.none _
      | refine LeO.ite ?_ ?_
      | refine LeO.bind ?_ (fun _ => ?_)
set_option maxHeartbeats 8000000 in
set_option maxRecDepth 100000 in
theorem spec_stringOf.calls (k : Nat) (a0 : ByteArray) (r1 : ByteArray) (r2 : Int) (r3 : Bool) (w : World) (h : spec_stringOf.f k a0 = some (r1, r2, r3)) :
    Calls Tryf.prog 16 #[.string a0] w fun e w' => e = .returned (.tuple #[.string r1, .int .i64 r2, .bool r3]) ∧ Below w.heap.size w w' := by
  have HB := Aside0.mk (Below.refl w.heap.size w)
  have H : (spec_stringOf.l0 k a0 (([] : List Int)) 1) = some (r1, r2, r3) := h
  clear h
  obtain ⟨y106, hy106⟩ : ∃ y_ : List Int, y_ = (([] : List Int)) := ⟨_, rfl⟩
  replace H : (spec_stringOf.l0 k a0 y106 1) = some (r1, r2, r3) := by first | (rw [hy106]; with_reducible exact H) | (have H2_ := (Option.bind_some _ _).symm.trans H; rw [hy106]; with_reducible exact H2_) | (have H2_ := (Option.bind_some _ _).symm.trans H; with_reducible exact H2_) | with_reducible exact H | (rw [hy106]; exact H) | exact H
  have Ny106 := Aside0.mk hy106
  clear hy106
  have H' := Aside0.mk H
  clear H
  go_enter Tryf.func16, Tryf.ntmps16
  go_wp2_with (first | ((with_reducible refine gate_dst (N := 9) rfl ?_); refine Kd.R_lit (Kd.int .u8) _ 5 ?hg (N := 9) ?hd (xs := ([] : List Int)) (inner := []) (ok := fun _ => True) (okp := fun _ => True) ?hr ?hp (fun _ hk => hk) trivial (Below.refl _ _) (Nat.le_refl _) (by simp) ?_; (case hd => rfl); (case hg => rfl); (case hr => first | (go_simp; done) | (go_simp; rfl)); (case hp => exact (Reps.none _ _)); intro v107 w2 ho3 hb hg_ hnew_; clear hg_ hnew_; (first | rw [← Ny106.out] at ho3 | (simp only [Int.reduceToNat] at ho3; rw [← Ny106.out] at ho3)); have n0_ := Aside0.mk (Kd.R_lower ho3 (below_size (by repeat (first | (with_reducible first | exact HB.out | apply below_alloc | apply pw_below_drewN | apply below_drew1) | exact HB.out)))); have n1_ := Aside0.mk (below_step (by repeat (first | (with_reducible first | exact HB.out | apply below_alloc | apply pw_below_drewN | apply below_drew1) | exact HB.out)) hb); clear HB; have HO108 := n0_; have HB := n1_; clear n0_ n1_; clear hb ho3))
  repeat (go_quiet (first | ((with_reducible refine gate_dst (N := 9) rfl ?_); refine Kd.R_lit (Kd.int .u8) _ 5 ?hg (N := 9) ?hd (xs := ([] : List Int)) (inner := []) (ok := fun _ => True) (okp := fun _ => True) ?hr ?hp (fun _ hk => hk) trivial (Below.refl _ _) (Nat.le_refl _) (by simp) ?_; (case hd => rfl); (case hg => rfl); (case hr => first | (go_simp; done) | (go_simp; rfl)); (case hp => exact (Reps.none _ _)); intro v107 w2 ho3 hb hg_ hnew_; clear hg_ hnew_; (first | rw [← Ny106.out] at ho3 | (simp only [Int.reduceToNat] at ho3; rw [← Ny106.out] at ho3)); have n0_ := Aside0.mk (Kd.R_lower ho3 (below_size (by repeat (first | (with_reducible first | exact HB.out | apply below_alloc | apply pw_below_drewN | apply below_drew1) | exact HB.out)))); have n1_ := Aside0.mk (below_step (by repeat (first | (with_reducible first | exact HB.out | apply below_alloc | apply pw_below_drewN | apply below_drew1) | exact HB.out)) hb); clear HB; have HO108 := n0_; have HB := n1_; clear n0_ n1_; clear hb ho3)); try go_wp2_with (first | ((with_reducible refine gate_dst (N := 9) rfl ?_); refine Kd.R_lit (Kd.int .u8) _ 5 ?hg (N := 9) ?hd (xs := ([] : List Int)) (inner := []) (ok := fun _ => True) (okp := fun _ => True) ?hr ?hp (fun _ hk => hk) trivial (Below.refl _ _) (Nat.le_refl _) (by simp) ?_; (case hd => rfl); (case hg => rfl); (case hr => first | (go_simp; done) | (go_simp; rfl)); (case hp => exact (Reps.none _ _)); intro v107 w2 ho3 hb hg_ hnew_; clear hg_ hnew_; (first | rw [← Ny106.out] at ho3 | (simp only [Int.reduceToNat] at ho3; rw [← Ny106.out] at ho3)); have n0_ := Aside0.mk (Kd.R_lower ho3 (below_size (by repeat (first | (with_reducible first | exact HB.out | apply below_alloc | apply pw_below_drewN | apply below_drew1) | exact HB.out)))); have n1_ := Aside0.mk (below_step (by repeat (first | (with_reducible first | exact HB.out | apply below_alloc | apply pw_below_drewN | apply below_drew1) | exact HB.out)) hb); clear HB; have HO108 := n0_; have HB := n1_; clear n0_ n1_; clear hb ho3)))
  go_loopg [5, 6] k (fun kq v5 v6 w' => ∃ (x5_1 : List Int) (x6_1 : Int), v6 = .int .i64 x6_1 ∧ Aside0 (spec_stringOf.l0 kq a0 x5_1 x6_1 = some (r1, r2, r3)) ∧ Aside0 (kq ≤ k) ∧ Aside0 (Kd.R (Kd.int .u8) 5 w' w.heap.size (fun _ => True) v5 x5_1) ∧ Aside0 (Below w.heap.size w w'))
  case atStart => exact ⟨(y106), (1), (by first | rfl | (simp; done) | (simp [*]; done)), H', ⟨Nat.le_refl _⟩, ⟨by (with_reducible repeat (first | apply Kd.R_alloc | apply Kd.R_drewN | apply Kd.R_drew)); exact HO108.out⟩, ⟨by repeat (first | (with_reducible first | exact HB.out | apply below_alloc | apply pw_below_drewN | apply below_drew1) | exact HB.out)⟩⟩
  case round =>
    clear H'
    try clear c1
    try clear p2
    obtain ⟨x5_1, x6_1, rfl, HA, HK1, HO_5, HB⟩ := hrel
    cases gk with
    | zero => exact absurd HA.out (by simp [spec_stringOf.l0])
    | succ k1 =>
      have H := HA.out
      clear HA
      simp only [spec_stringOf.l0] at H
      by_cases c4 : x6_1 < (a0.size : Int)
      · rw [if_pos c4] at H
        have c4b0 : decide (x6_1 < (a0.size : Int)) = true := decide_eq_true c4
        clear c4
        by_cases c5 : 0 ≤ x6_1
        · rw [if_pos c5] at H
          have c5b0 : decide (0 ≤ x6_1) = true := decide_eq_true c5
          clear c5
          by_cases c7 : 0 < (a0.size : Int)
          · rw [if_pos c7] at H
            have c7b0 : decide (0 < (a0.size : Int)) = true := decide_eq_true c7
            have c7b1 : decide (0 < a0.size) = true := decide_eq_true (by omega)
            clear c7
            by_cases c9 : (bt a0 x6_1) = (bt a0 0)
            · rw [if_pos c9] at H
              have c9b0 : ((bt a0 x6_1) == (bt a0 0)) = true := beq_iff_eq.mpr c9
              have c9b1 : ((bt a0 x6_1) != (bt a0 0)) = false := bne_eq_false_iff_eq.mpr c9
              clear c9
              simp only [Option.some.injEq, Prod.mk.injEq] at H
              obtain ⟨rfl, rfl, rfl⟩ := H
              have p6 : 0 ≤ (x6_1 : Int) := of_decide_eq_true (by first | (with_reducible assumption) | assumption)
              have q6 : x6_1 < (a0.size : Int) := of_decide_eq_true (by first | (with_reducible assumption) | assumption)
              have hx6 := bt_at a0 x6_1
              replace p6 := eq_true p6
              replace q6 := eq_true q6
              have p8 : 0 ≤ (0 : Int) := (by omega)
              have q8 : 0 < a0.size := (by have : (0 : Int) < (a0.size : Int) := of_decide_eq_true (by first | (with_reducible assumption) | assumption); omega)
              have hx8 : ∀ h : 0 < a0.size, ((a0[0]'h).toNat : Int) = bt a0 0 := bt_at a0 0
              clear p8
              have qi8 : (0 < (a0.size : Int)) = True := eq_true (of_decide_eq_true (by first | (with_reducible assumption) | assumption))
              replace q8 := eq_true q8
              have hcv10 := fun nq => own_string (P := Tryf.prog) Tryf.underlying55 Tryf.underlying5 Tryf.underlying9 (Kd.own_of_R (Kd.R_drewN HO_5.out nq))
              go_wp2
              repeat (go_quiet (fail); try go_wp2)
              go_ret3
              exact ⟨by first | rfl | (simp [errW_none, errW_some] <;> rfl) | (simp [*, errW_none, errW_some] <;> rfl), by repeat (first | (with_reducible first | exact HB.out | apply below_alloc | apply pw_below_drewN | apply below_drew1) | exact HB.out)⟩
            · rw [if_neg c9] at H
              have c9b0 : ((bt a0 x6_1) == (bt a0 0)) = false := beq_eq_false_iff_ne.mpr c9
              have c9b1 : ((bt a0 x6_1) != (bt a0 0)) = true := bne_iff_ne.mpr c9
              have HC11 := Aside0.mk H
              clear H
              have p6 : 0 ≤ (x6_1 : Int) := of_decide_eq_true (by first | (with_reducible assumption) | assumption)
              have q6 : x6_1 < (a0.size : Int) := of_decide_eq_true (by first | (with_reducible assumption) | assumption)
              have hx6 := bt_at a0 x6_1
              replace p6 := eq_true p6
              replace q6 := eq_true q6
              have p8 : 0 ≤ (0 : Int) := (by omega)
              have q8 : 0 < a0.size := (by have : (0 : Int) < (a0.size : Int) := of_decide_eq_true (by first | (with_reducible assumption) | assumption); omega)
              have hx8 : ∀ h : 0 < a0.size, ((a0[0]'h).toNat : Int) = bt a0 0 := bt_at a0 0
              clear p8
              have qi8 : (0 < (a0.size : Int)) = True := eq_true (of_decide_eq_true (by first | (with_reducible assumption) | assumption))
              replace q8 := eq_true q8
              go_upto_region 8 with (fail)
              repeat (go_quiet (fail); go_upto_region 8 with (fail))
              go_cut [33] (fun v33 wc => ∃ (kq : Nat) (x33_10 : Bool), v33 = .bool x33_10 ∧ Aside0 (spec_stringOf.j1 kq a0 x5_1 x6_1 x33_10 = some (r1, r2, r3)) ∧ Aside0 (kq ≤ k1) ∧ Aside0 (Kd.R (Kd.int .u8) 5 wc w.heap.size (fun _ => True) u5 x5_1) ∧ Aside0 (Below w.heap.size w wc))
              case first =>
                have H := HC11.out
                clear HC11
                by_cases c13 : (bt a0 x6_1) = 92
                · rw [if_pos c13] at H
                  have c13b0 : ((bt a0 x6_1) == 92) = true := beq_iff_eq.mpr c13
                  have c13b1 : ((bt a0 x6_1) != 92) = false := bne_eq_false_iff_eq.mpr c13
                  clear c13
                  (first | rw [c13b0] | (simp only [i64_w, i32_w]; rw [c13b0]) | skip)
                  have H' := Aside0.mk H
                  clear H
                  have p12 : 0 ≤ (x6_1 : Int) := of_decide_eq_true (by first | (with_reducible assumption) | assumption)
                  have q12 : x6_1 < (a0.size : Int) := of_decide_eq_true (by first | (with_reducible assumption) | assumption)
                  have hx12 := bt_at a0 x6_1
                  replace p12 := eq_true p12
                  replace q12 := eq_true q12
                  have p14 : 0 ≤ (0 : Int) := (by omega)
                  have q14 : 0 < a0.size := (by have : (0 : Int) < (a0.size : Int) := of_decide_eq_true (by first | (with_reducible assumption) | assumption); omega)
                  have hx14 : ∀ h : 0 < a0.size, ((a0[0]'h).toNat : Int) = bt a0 0 := bt_at a0 0
                  clear p14
                  have qi14 : (0 < (a0.size : Int)) = True := eq_true (of_decide_eq_true (by first | (with_reducible assumption) | assumption))
                  replace q14 := eq_true q14
                  go_wp2
                  repeat (go_quiet (fail); try go_wp2)
                  go_meet
                  case rel => exact ⟨_, (((bt a0 0) == 34)), (by first | rfl | (simp; done) | (simp [*]; done)), H', ⟨by have := HK1.out; first | omega | exact Nat.le_refl _⟩, ⟨by (with_reducible repeat (first | apply Kd.R_alloc | apply Kd.R_drewN | apply Kd.R_drew)); exact HO_5.out⟩, ⟨by repeat (first | (with_reducible first | exact HB.out | apply below_alloc | apply pw_below_drewN | apply below_drew1) | exact HB.out)⟩⟩
                · rw [if_neg c13] at H
                  have c13b0 : ((bt a0 x6_1) == 92) = false := beq_eq_false_iff_ne.mpr c13
                  have c13b1 : ((bt a0 x6_1) != 92) = true := bne_iff_ne.mpr c13
                  (first | rw [c13b0] | (simp only [i64_w, i32_w]; rw [c13b0]) | skip)
                  have H' := Aside0.mk H
                  clear H
                  have p12 : 0 ≤ (x6_1 : Int) := of_decide_eq_true (by first | (with_reducible assumption) | assumption)
                  have q12 : x6_1 < (a0.size : Int) := of_decide_eq_true (by first | (with_reducible assumption) | assumption)
                  have hx12 := bt_at a0 x6_1
                  replace p12 := eq_true p12
                  replace q12 := eq_true q12
                  go_wp2
                  repeat (go_quiet (fail); try go_wp2)
                  go_meet
                  case rel => exact ⟨_, (false), (by first | rfl | (simp; done) | (simp [*]; done)), H', ⟨by have := HK1.out; first | omega | exact Nat.le_refl _⟩, ⟨by (with_reducible repeat (first | apply Kd.R_alloc | apply Kd.R_drewN | apply Kd.R_drew)); exact HO_5.out⟩, ⟨by repeat (first | (with_reducible first | exact HB.out | apply below_alloc | apply pw_below_drewN | apply below_drew1) | exact HB.out)⟩⟩
              case rest =>
                clear HC11
                try clear c1
                try clear p1
                try clear q1
                try clear hx1
                try clear hcv1
                try clear qi1
                try clear p2
                try clear c4
                try clear c4b0
                try clear c5
                try clear c5b0
                try clear p6
                try clear q6
                try clear hx6
                try clear c7
                try clear c7b0
                try clear c7b1
                try clear p8
                try clear q8
                try clear hx8
                try clear qi8
                try clear c9
                try clear c9b0
                try clear c9b1
                try clear hcv10
                try clear p12
                try clear q12
                try clear hx12
                try clear c13
                try clear c13b0
                try clear c13b1
                try clear p14
                try clear q14
                try clear hx14
                try clear qi14
                try clear p12
                try clear p14
                try clear p2
                try clear p6
                try clear p8
                try clear q12
                try clear q14
                try clear q6
                try clear q8
                obtain ⟨kq, x33_10, rfl, HA, HJ10, HO_5, HB⟩ := hcut
                cases kq with
                | zero => exact absurd HA.out (by simp [spec_stringOf.j1])
                | succ kj10 =>
                  have H := HA.out
                  clear HA
                  simp only [spec_stringOf.j1] at H
                  by_cases c15 : x33_10 = true
                  · subst c15
                    have H1 : (if 0 ≤ (wrap64 (x6_1 + 1)) then (if (wrap64 (x6_1 + 1)) ≤ (a0.size : Int) then ((spec_escapeOf.f kj10 (a0.extract ((wrap64 (x6_1 + 1)) : Int).toNat a0.size)).bind fun bt109 => (if bt109.2 = 0 then (some ((⟨#[]⟩ : ByteArray), 0, false)) else (if x5_1.length < 140737488355328 then (spec_stringOf.l0 kj10 a0 (x5_1 ++ [bt109.1]) (wrap64 (x6_1 + (wrap64 (1 + bt109.2))))) else (none)))) else (none)) else (none)) = some (r1, r2, r3) := by rw [if_pos rfl] at H; exact H
                    clear H
                    have H := H1
                    clear H1
                    obtain ⟨ji16, hji16⟩ : ∃ j_ : Int, (wrap64 (x6_1 + 1)) = j_ := ⟨_, rfl⟩
                    replace H : (if 0 ≤ (ji16) then (if (ji16) ≤ (a0.size : Int) then ((spec_escapeOf.f kj10 (a0.extract ((ji16) : Int).toNat a0.size)).bind fun bt109 => (if bt109.2 = 0 then (some ((⟨#[]⟩ : ByteArray), 0, false)) else (if x5_1.length < 140737488355328 then (spec_stringOf.l0 kj10 a0 (x5_1 ++ [bt109.1]) (wrap64 (x6_1 + (wrap64 (1 + bt109.2))))) else (none)))) else (none)) else (none)) = some (r1, r2, r3) := by first | (rw [hji16] at H; exact H) | (simp only [hji16] at H ⊢; exact H)
                    have hji16w : (IntKind.i64.wrap (x6_1 + 1)) = ji16 := (i64_w _).trans hji16
                    by_cases c17 : 0 ≤ (ji16)
                    · rw [if_pos c17] at H
                      have c17b0 := eq_true c17
                      have c17b1 : decide (0 ≤ (ji16)) = true := decide_eq_true c17
                      clear c17
                      by_cases c18 : (ji16) ≤ (a0.size : Int)
                      · rw [if_pos c18] at H
                        have c18b0 := eq_true c18
                        have c18b1 : decide ((ji16) ≤ (a0.size : Int)) = true := decide_eq_true c18
                        clear c18
                        replace H := Option.bind_eq_some_iff.mp H
                        obtain ⟨⟨t109, t110⟩, A190, H⟩ := H
                        replace H : (if t110 = 0 then (some ((⟨#[]⟩ : ByteArray), 0, false)) else (if x5_1.length < 140737488355328 then (spec_stringOf.l0 kj10 a0 (x5_1 ++ [t109]) (wrap64 (x6_1 + (wrap64 (1 + t110))))) else (none))) = some (r1, r2, r3) := H
                        have A19 := Aside0.mk A190
                        clear A190
                        by_cases c20 : t110 = 0
                        · rw [if_pos c20] at H
                          have c20b0 : (t110 == 0) = true := beq_iff_eq.mpr c20
                          have c20b1 : (t110 != 0) = false := bne_eq_false_iff_eq.mpr c20
                          clear c20
                          simp only [Option.some.injEq, Prod.mk.injEq] at H
                          obtain ⟨rfl, rfl, rfl⟩ := H
                          go_wp2_with (first | (go_at_call 20; (with_reducible refine (spec_escapeOf.calls kj10 (a0.extract ((ji16) : Int).toNat a0.size) t109 t110 _ A19.out).mono ?_); rintro e w' ⟨rfl, ⟨nd, rfl⟩⟩; (try first | exact ⟨rfl, _, World.drewN_drewN _ _ _⟩ | exact ⟨rfl, _, Eq.trans (World.drewN_drewN _ _ _) (congrArg (World.drewN _) (Nat.add_assoc _ _ _))⟩)))
                          repeat (go_quiet (first | (go_at_call 20; (with_reducible refine (spec_escapeOf.calls kj10 (a0.extract ((ji16) : Int).toNat a0.size) t109 t110 _ A19.out).mono ?_); rintro e w' ⟨rfl, ⟨nd, rfl⟩⟩; (try first | exact ⟨rfl, _, World.drewN_drewN _ _ _⟩ | exact ⟨rfl, _, Eq.trans (World.drewN_drewN _ _ _) (congrArg (World.drewN _) (Nat.add_assoc _ _ _))⟩))); try go_wp2_with (first | (go_at_call 20; (with_reducible refine (spec_escapeOf.calls kj10 (a0.extract ((ji16) : Int).toNat a0.size) t109 t110 _ A19.out).mono ?_); rintro e w' ⟨rfl, ⟨nd, rfl⟩⟩; (try first | exact ⟨rfl, _, World.drewN_drewN _ _ _⟩ | exact ⟨rfl, _, Eq.trans (World.drewN_drewN _ _ _) (congrArg (World.drewN _) (Nat.add_assoc _ _ _))⟩))))
                          go_ret3
                          exact ⟨by first | rfl | (simp [errW_none, errW_some] <;> rfl) | (simp only [← hji16]; first | rfl | (simp [errW_none, errW_some] <;> rfl)) | (simp [*, errW_none, errW_some] <;> rfl), by repeat (first | (with_reducible first | exact HB.out | apply below_alloc | apply pw_below_drewN | apply below_drew1) | exact HB.out)⟩
                        · rw [if_neg c20] at H
                          have c20b0 : (t110 == 0) = false := beq_eq_false_iff_ne.mpr c20
                          have c20b1 : (t110 != 0) = true := bne_iff_ne.mpr c20
                          by_cases c21 : x5_1.length < 140737488355328
                          · rw [if_pos c21] at H
                            have LMc21 := Aside0.mk c21
                            clear c21
                            obtain ⟨y111, hy111⟩ : ∃ y_ : List Int, y_ = (x5_1 ++ [t109]) := ⟨_, rfl⟩
                            replace H : (spec_stringOf.l0 kj10 a0 y111 (wrap64 (x6_1 + (wrap64 (1 + t110))))) = some (r1, r2, r3) := by first | (rw [hy111]; with_reducible exact H) | (have H2_ := (Option.bind_some _ _).symm.trans H; rw [hy111]; with_reducible exact H2_) | (have H2_ := (Option.bind_some _ _).symm.trans H; with_reducible exact H2_) | with_reducible exact H | (rw [hy111]; exact H) | exact H
                            have Ny111 := Aside0.mk hy111
                            clear hy111
                            have H' := Aside0.mk H
                            clear H
                            go_wp2_with (first | (go_at_call 20; (with_reducible refine (spec_escapeOf.calls kj10 (a0.extract ((ji16) : Int).toNat a0.size) t109 t110 _ A19.out).mono ?_); rintro e w' ⟨rfl, ⟨nd, rfl⟩⟩; (try first | exact ⟨rfl, _, World.drewN_drewN _ _ _⟩ | exact ⟨rfl, _, Eq.trans (World.drewN_drewN _ _ _) (congrArg (World.drewN _) (Nat.add_assoc _ _ _))⟩)) | ((with_reducible refine gate_builtin (b := .append) (xs := #[.tmp 53, .tmp 55]) rfl ?_); at_builtin; refine Kd.R_append (Kd.int .u8) (w0 := w) w.heap.size rfl (.tmp 53) (.tmp 55) 55 5 (.int .u8 0) 1 rfl Tryf.underlying55 info5 rfl (by decide) (by omega) u5 x5_1 t109 [.int .u8 t109] (fun _ => True) (fun _ => False) rfl rfl ?aP (fun _ hk => hk.elim) ?aF ?aO ?aB ?aS ?aL ?_; (case aP => exact rfl); (case aB => exact (by repeat (first | (with_reducible first | exact HB.out | apply below_alloc | apply pw_below_drewN | apply below_drew1) | exact HB.out))); (case aF => exact (fun _ _ => trivial)); (case aO => exact (by (with_reducible repeat (first | apply Kd.R_alloc | apply Kd.R_drewN | apply Kd.R_drew)); exact HO_5.out)); (case aS => exact (below_size (by repeat (first | (with_reducible first | exact HB.out | apply below_alloc | apply pw_below_drewN | apply below_drew1) | exact HB.out)))); (case aL => have := LMc21.out; omega); intro v112 w22 ho hb hg hat; rw [← Ny111.out] at ho; have n0_ := Aside0.mk (hb); have n1_ := Aside0.mk (ho); clear HB; clear HO_5; have HB := n0_; have HO113 := n1_; clear n0_ n1_; clear ho hb hg hat))
                            repeat (go_quiet (first | (go_at_call 20; (with_reducible refine (spec_escapeOf.calls kj10 (a0.extract ((ji16) : Int).toNat a0.size) t109 t110 _ A19.out).mono ?_); rintro e w' ⟨rfl, ⟨nd, rfl⟩⟩; (try first | exact ⟨rfl, _, World.drewN_drewN _ _ _⟩ | exact ⟨rfl, _, Eq.trans (World.drewN_drewN _ _ _) (congrArg (World.drewN _) (Nat.add_assoc _ _ _))⟩)) | ((with_reducible refine gate_builtin (b := .append) (xs := #[.tmp 53, .tmp 55]) rfl ?_); at_builtin; refine Kd.R_append (Kd.int .u8) (w0 := w) w.heap.size rfl (.tmp 53) (.tmp 55) 55 5 (.int .u8 0) 1 rfl Tryf.underlying55 info5 rfl (by decide) (by omega) u5 x5_1 t109 [.int .u8 t109] (fun _ => True) (fun _ => False) rfl rfl ?aP (fun _ hk => hk.elim) ?aF ?aO ?aB ?aS ?aL ?_; (case aP => exact rfl); (case aB => exact (by repeat (first | (with_reducible first | exact HB.out | apply below_alloc | apply pw_below_drewN | apply below_drew1) | exact HB.out))); (case aF => exact (fun _ _ => trivial)); (case aO => exact (by (with_reducible repeat (first | apply Kd.R_alloc | apply Kd.R_drewN | apply Kd.R_drew)); exact HO_5.out)); (case aS => exact (below_size (by repeat (first | (with_reducible first | exact HB.out | apply below_alloc | apply pw_below_drewN | apply below_drew1) | exact HB.out)))); (case aL => have := LMc21.out; omega); intro v112 w22 ho hb hg hat; rw [← Ny111.out] at ho; have n0_ := Aside0.mk (hb); have n1_ := Aside0.mk (ho); clear HB; clear HO_5; have HB := n0_; have HO113 := n1_; clear n0_ n1_; clear ho hb hg hat)); try go_wp2_with (first | (go_at_call 20; (with_reducible refine (spec_escapeOf.calls kj10 (a0.extract ((ji16) : Int).toNat a0.size) t109 t110 _ A19.out).mono ?_); rintro e w' ⟨rfl, ⟨nd, rfl⟩⟩; (try first | exact ⟨rfl, _, World.drewN_drewN _ _ _⟩ | exact ⟨rfl, _, Eq.trans (World.drewN_drewN _ _ _) (congrArg (World.drewN _) (Nat.add_assoc _ _ _))⟩)) | ((with_reducible refine gate_builtin (b := .append) (xs := #[.tmp 53, .tmp 55]) rfl ?_); at_builtin; refine Kd.R_append (Kd.int .u8) (w0 := w) w.heap.size rfl (.tmp 53) (.tmp 55) 55 5 (.int .u8 0) 1 rfl Tryf.underlying55 info5 rfl (by decide) (by omega) u5 x5_1 t109 [.int .u8 t109] (fun _ => True) (fun _ => False) rfl rfl ?aP (fun _ hk => hk.elim) ?aF ?aO ?aB ?aS ?aL ?_; (case aP => exact rfl); (case aB => exact (by repeat (first | (with_reducible first | exact HB.out | apply below_alloc | apply pw_below_drewN | apply below_drew1) | exact HB.out))); (case aF => exact (fun _ _ => trivial)); (case aO => exact (by (with_reducible repeat (first | apply Kd.R_alloc | apply Kd.R_drewN | apply Kd.R_drew)); exact HO_5.out)); (case aS => exact (below_size (by repeat (first | (with_reducible first | exact HB.out | apply below_alloc | apply pw_below_drewN | apply below_drew1) | exact HB.out)))); (case aL => have := LMc21.out; omega); intro v112 w22 ho hb hg hat; rw [← Ny111.out] at ho; have n0_ := Aside0.mk (hb); have n1_ := Aside0.mk (ho); clear HB; clear HO_5; have HB := n0_; have HO113 := n1_; clear n0_ n1_; clear ho hb hg hat)))
                            go_roundg kj10
                            case measure => have := HK1.out; have := HJ10.out; omega
                            case rel => exact ⟨(y111), (wrap64 (x6_1 + (wrap64 (1 + t110)))), (by first | rfl | (simp; done) | (simp [*]; done)), H', ⟨by have := HK1.out; have := HJ10.out; omega⟩, ⟨by (with_reducible repeat (first | apply Kd.R_alloc | apply Kd.R_drewN | apply Kd.R_drew)); exact HO113.out⟩, ⟨by repeat (first | (with_reducible first | exact HB.out | apply below_alloc | apply pw_below_drewN | apply below_drew1) | exact HB.out)⟩⟩
                          · rw [if_neg c21] at H
                            exact absurd H (by simp)
                      · rw [if_neg c18] at H
                        exact absurd H (by simp)
                    · rw [if_neg c17] at H
                      exact absurd H (by simp)
                  · replace c15 := Bool.eq_false_iff.mpr c15
                    subst c15
                    have H1 : (if 0 ≤ x6_1 then (if x6_1 < (a0.size : Int) then (if x5_1.length < 140737488355328 then (spec_stringOf.l0 kj10 a0 (x5_1 ++ [bt a0 x6_1]) (wrap64 (x6_1 + 1))) else (none)) else (none)) else (none)) = some (r1, r2, r3) := by rw [if_neg (show ¬ (false = true) by decide)] at H; exact H
                    clear H
                    have H := H1
                    clear H1
                    by_cases c23 : 0 ≤ x6_1
                    · rw [if_pos c23] at H
                      have c23b0 : decide (0 ≤ x6_1) = true := decide_eq_true c23
                      clear c23
                      by_cases c24 : x6_1 < (a0.size : Int)
                      · rw [if_pos c24] at H
                        have c24b0 : decide (x6_1 < (a0.size : Int)) = true := decide_eq_true c24
                        clear c24
                        by_cases c26 : x5_1.length < 140737488355328
                        · rw [if_pos c26] at H
                          have LMc26 := Aside0.mk c26
                          clear c26
                          obtain ⟨y114, hy114⟩ : ∃ y_ : List Int, y_ = (x5_1 ++ [bt a0 x6_1]) := ⟨_, rfl⟩
                          replace H : (spec_stringOf.l0 kj10 a0 y114 (wrap64 (x6_1 + 1))) = some (r1, r2, r3) := by first | (rw [hy114]; with_reducible exact H) | (have H2_ := (Option.bind_some _ _).symm.trans H; rw [hy114]; with_reducible exact H2_) | (have H2_ := (Option.bind_some _ _).symm.trans H; with_reducible exact H2_) | with_reducible exact H | (rw [hy114]; exact H) | exact H
                          have Ny114 := Aside0.mk hy114
                          clear hy114
                          have H' := Aside0.mk H
                          clear H
                          have p25 : 0 ≤ (x6_1 : Int) := of_decide_eq_true (by first | (with_reducible assumption) | assumption)
                          have q25 : x6_1 < (a0.size : Int) := of_decide_eq_true (by first | (with_reducible assumption) | assumption)
                          have hx25 := bt_at a0 x6_1
                          replace p25 := eq_true p25
                          replace q25 := eq_true q25
                          go_wp2_with (first | ((with_reducible refine gate_builtin (b := .append) (xs := #[.tmp 14, .tmp 18]) rfl ?_); at_builtin; refine Kd.R_append (Kd.int .u8) (w0 := w) w.heap.size rfl (.tmp 14) (.tmp 18) 55 5 (.int .u8 0) 1 rfl Tryf.underlying55 info5 rfl (by decide) (by omega) u5 x5_1 (bt a0 x6_1) [.int .u8 (bt a0 x6_1)] (fun _ => True) (fun _ => False) rfl rfl ?aP (fun _ hk => hk.elim) ?aF ?aO ?aB ?aS ?aL ?_; (case aP => exact rfl); (case aB => exact (by repeat (first | (with_reducible first | exact HB.out | apply below_alloc | apply pw_below_drewN | apply below_drew1) | exact HB.out))); (case aF => exact (fun _ _ => trivial)); (case aO => exact (by (with_reducible repeat (first | apply Kd.R_alloc | apply Kd.R_drewN | apply Kd.R_drew)); exact HO_5.out)); (case aS => exact (below_size (by repeat (first | (with_reducible first | exact HB.out | apply below_alloc | apply pw_below_drewN | apply below_drew1) | exact HB.out)))); (case aL => have := LMc26.out; omega); intro v115 w27 ho hb hg hat; rw [← Ny114.out] at ho; have n0_ := Aside0.mk (hb); have n1_ := Aside0.mk (ho); clear HB; clear HO_5; have HB := n0_; have HO116 := n1_; clear n0_ n1_; clear ho hb hg hat))
                          repeat (go_quiet (first | ((with_reducible refine gate_builtin (b := .append) (xs := #[.tmp 14, .tmp 18]) rfl ?_); at_builtin; refine Kd.R_append (Kd.int .u8) (w0 := w) w.heap.size rfl (.tmp 14) (.tmp 18) 55 5 (.int .u8 0) 1 rfl Tryf.underlying55 info5 rfl (by decide) (by omega) u5 x5_1 (bt a0 x6_1) [.int .u8 (bt a0 x6_1)] (fun _ => True) (fun _ => False) rfl rfl ?aP (fun _ hk => hk.elim) ?aF ?aO ?aB ?aS ?aL ?_; (case aP => exact rfl); (case aB => exact (by repeat (first | (with_reducible first | exact HB.out | apply below_alloc | apply pw_below_drewN | apply below_drew1) | exact HB.out))); (case aF => exact (fun _ _ => trivial)); (case aO => exact (by (with_reducible repeat (first | apply Kd.R_alloc | apply Kd.R_drewN | apply Kd.R_drew)); exact HO_5.out)); (case aS => exact (below_size (by repeat (first | (with_reducible first | exact HB.out | apply below_alloc | apply pw_below_drewN | apply below_drew1) | exact HB.out)))); (case aL => have := LMc26.out; omega); intro v115 w27 ho hb hg hat; rw [← Ny114.out] at ho; have n0_ := Aside0.mk (hb); have n1_ := Aside0.mk (ho); clear HB; clear HO_5; have HB := n0_; have HO116 := n1_; clear n0_ n1_; clear ho hb hg hat)); try go_wp2_with (first | ((with_reducible refine gate_builtin (b := .append) (xs := #[.tmp 14, .tmp 18]) rfl ?_); at_builtin; refine Kd.R_append (Kd.int .u8) (w0 := w) w.heap.size rfl (.tmp 14) (.tmp 18) 55 5 (.int .u8 0) 1 rfl Tryf.underlying55 info5 rfl (by decide) (by omega) u5 x5_1 (bt a0 x6_1) [.int .u8 (bt a0 x6_1)] (fun _ => True) (fun _ => False) rfl rfl ?aP (fun _ hk => hk.elim) ?aF ?aO ?aB ?aS ?aL ?_; (case aP => exact rfl); (case aB => exact (by repeat (first | (with_reducible first | exact HB.out | apply below_alloc | apply pw_below_drewN | apply below_drew1) | exact HB.out))); (case aF => exact (fun _ _ => trivial)); (case aO => exact (by (with_reducible repeat (first | apply Kd.R_alloc | apply Kd.R_drewN | apply Kd.R_drew)); exact HO_5.out)); (case aS => exact (below_size (by repeat (first | (with_reducible first | exact HB.out | apply below_alloc | apply pw_below_drewN | apply below_drew1) | exact HB.out)))); (case aL => have := LMc26.out; omega); intro v115 w27 ho hb hg hat; rw [← Ny114.out] at ho; have n0_ := Aside0.mk (hb); have n1_ := Aside0.mk (ho); clear HB; clear HO_5; have HB := n0_; have HO116 := n1_; clear n0_ n1_; clear ho hb hg hat)))
                          go_roundg kj10
                          case measure => have := HK1.out; have := HJ10.out; omega
                          case rel => exact ⟨(y114), (wrap64 (x6_1 + 1)), (by first | rfl | (simp; done) | (simp [*]; done)), H', ⟨by have := HK1.out; have := HJ10.out; omega⟩, ⟨by (with_reducible repeat (first | apply Kd.R_alloc | apply Kd.R_drewN | apply Kd.R_drew)); exact HO116.out⟩, ⟨by repeat (first | (with_reducible first | exact HB.out | apply below_alloc | apply pw_below_drewN | apply below_drew1) | exact HB.out)⟩⟩
                        · rw [if_neg c26] at H
                          exact absurd H (by simp)
                      · rw [if_neg c24] at H
                        exact absurd H (by simp)
                    · rw [if_neg c23] at H
                      exact absurd H (by simp)
          · rw [if_neg c7] at H
            exact absurd H (by simp)
        · rw [if_neg c5] at H
          exact absurd H (by simp)
      · rw [if_neg c4] at H
        have c4b0 : decide (x6_1 < (a0.size : Int)) = false := decide_eq_false c4
        clear c4
        simp only [Option.some.injEq, Prod.mk.injEq] at H
        obtain ⟨rfl, rfl, rfl⟩ := H
        go_wp2
        repeat (go_quiet (fail); try go_wp2)
        go_ret3
        exact ⟨by first | rfl | (simp [errW_none, errW_some] <;> rfl) | (simp [*, errW_none, errW_some] <;> rfl), by repeat (first | (with_reducible first | exact HB.out | apply below_alloc | apply pw_below_drewN | apply below_drew1) | exact HB.out)⟩

end Go.Proofs.YtcjiafjahfmdoaaFmt.A
