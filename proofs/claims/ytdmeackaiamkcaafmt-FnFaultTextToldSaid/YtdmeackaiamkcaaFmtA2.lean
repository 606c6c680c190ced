-- Written by a program of this session (gprint.py) out of the kit's print of the translation. Not trusted: Lean checks it.
import Derived.Test.YtdmeackaiamkcaaFmtA0
import Derived.Test.YtdmeackaiamkcaaFmtA1
import Derived.Test.YtdmeackaiamkcaaFmtGive
namespace Go.Proofs.YtdmeackaiamkcaaFmt.A
open Go.RowKit Go.Proofs.YtdmeackaiamkcaaFmtW.PrintWords Go.Proofs.YtdmeackaiamkcaaFmtW.PrintLast Go.Proofs.YtdmeackaiamkcaaFmtW.PrintMore
attribute [local go_sem] max2_int min2_int max_two min_two max_three min_three max_four min_four   -- for this text's walks alone
set_option linter.unusedVariables false
set_option linter.unusedSimpArgs false

/-! ### laws_FnFaultText: function 3 -/
def laws_FnFaultText.j0 : Nat → Bool → ByteArray → Int → Int → ByteArray → Option (Bool)
  | 0, _, _, _, _, _ => none
  | k + 1, x20, x134000, x134001, x134002, x134003 => if x20 = true then (some true) else (if x134000.size + 1 ≤ 9223372036854775807 then ((strconv_Itoa_6.f x134001).bind fun t139 => (if (x134000 ++ (⟨#[58]⟩ : ByteArray)).size + t139.size ≤ 9223372036854775807 then (if x134002 > 0 then ((strconv_Itoa_6.f x134002).bind fun t140 => (if 1 + t140.size ≤ 9223372036854775807 then (if ((x134000 ++ (⟨#[58]⟩ : ByteArray)) ++ t139).size + ((⟨#[58]⟩ : ByteArray) ++ t140).size ≤ 9223372036854775807 then ((impl_FaultText.f x134000 x134001 x134002 x134003).bind fun t141 => (if (((x134000 ++ (⟨#[58]⟩ : ByteArray)) ++ t139) ++ ((⟨#[58]⟩ : ByteArray) ++ t140)).size + 2 ≤ 9223372036854775807 then (if ((((x134000 ++ (⟨#[58]⟩ : ByteArray)) ++ t139) ++ ((⟨#[58]⟩ : ByteArray) ++ t140)) ++ (⟨#[58, 32]⟩ : ByteArray)).size + x134003.size ≤ 9223372036854775807 then (some (t141.toList == (((((x134000 ++ (⟨#[58]⟩ : ByteArray)) ++ t139) ++ ((⟨#[58]⟩ : ByteArray) ++ t140)) ++ (⟨#[58, 32]⟩ : ByteArray)) ++ x134003).toList)) else (none)) else (none))) else (none)) else (none))) else ((impl_FaultText.f x134000 x134001 x134002 x134003).bind fun t142 => (if ((x134000 ++ (⟨#[58]⟩ : ByteArray)) ++ t139).size + 2 ≤ 9223372036854775807 then (if (((x134000 ++ (⟨#[58]⟩ : ByteArray)) ++ t139) ++ (⟨#[58, 32]⟩ : ByteArray)).size + x134003.size ≤ 9223372036854775807 then (some (t142.toList == ((((x134000 ++ (⟨#[58]⟩ : ByteArray)) ++ t139) ++ (⟨#[58, 32]⟩ : ByteArray)) ++ x134003).toList)) else (none)) else (none)))) else (none))) else (none))
def laws_FnFaultText.f (k : Nat) (a0_0 : ByteArray) (a0_1 : Int) (a0_2 : Int) (a0_3 : ByteArray) : Option (Bool) := (laws_zzFits5.f a0_0 a0_1 a0_2 a0_3).bind fun t134 => (if t134 = true then ((laws_fewFaults9.f k (([(⟨a0_0, a0_1, a0_2, a0_3⟩ : S23)] : List (S23)))).bind fun t138 => (if t138 = true then (if a0_0.toList = ([] : List UInt8) then (laws_FnFaultText.j0 k true a0_0 a0_1 a0_2 a0_3) else (laws_FnFaultText.j0 k (decide (a0_1 < 1)) a0_0 a0_1 a0_2 a0_3)) else (laws_FnFaultText.j0 k true a0_0 a0_1 a0_2 a0_3))) else (some true))
theorem laws_FnFaultText.mono_l : ∀ k, (∀ y0 y1 y2 y3 y4, LeO (laws_FnFaultText.j0 k y0 y1 y2 y3 y4) (laws_FnFaultText.j0 (k + 1) y0 y1 y2 y3 y4))
  | 0 => fun _ _ _ _ _ r h => by simp [laws_FnFaultText.j0] at h
  | k + 1 => by
    have ih0 := laws_FnFaultText.mono_l k
    · intro y0 y1 y2 y3 y4
      unfold laws_FnFaultText.j0
      repeat' first
      | (with_reducible exact ih0 _ _ _ _ _)
      | (with_reducible exact laws_fewFaults9.mono _ _)
      | (with_reducible exact LeO.refl _)
      | (with_reducible exact LeO.none _)
      | (with_reducible refine LeO.ite ?_ ?_)
      | (with_reducible refine LeO.bind ?_ (fun _ => ?_))
      | exact ih0 _ _ _ _ _
      | exact laws_fewFaults9.mono _ _
      | exact LeO.none _
      | refine LeO.ite ?_ ?_
      | refine LeO.bind ?_ (fun _ => ?_)
theorem laws_FnFaultText.mono : ∀ a0 a1 a2 a3 k, LeO (laws_FnFaultText.f k a0 a1 a2 a3) (laws_FnFaultText.f (k + 1) a0 a1 a2 a3) := by
  intro a0 a1 a2 a3 k
  have ih0 := laws_FnFaultText.mono_l k
  unfold laws_FnFaultText.f
  repeat' first
      | (with_reducible exact ih0 _ _ _ _ _)
      | (with_reducible exact laws_fewFaults9.mono _ _)
      | (with_reducible exact LeO.refl _)
      | (with_reducible exact LeO.none _)
      | (with_reducible refine LeO.ite ?_ ?_)
      | (with_reducible refine LeO.bind ?_ (fun _ => ?_))
      | exact ih0 _ _ _ _ _
      | exact laws_fewFaults9.mono _ _
      | exact LeO.none _
      | refine LeO.ite ?_ ?_
      | refine LeO.bind ?_ (fun _ => ?_)
def laws_FnFaultText.T5 : Bool × List (List Nat × List Nat) := (true, [([], []), ([0], [0]), ([1], [1]), ([], []), ([3], [3]), ([4], [4]), ([2, 5], [2, 5]), ([6, 5, 0, 1, 2, 3, 4, 5, 6], [6])])
def laws_FnFaultText.B5 : List Nat := [0, 1, 3, 0, 8, 24, 63, 127]
theorem laws_FnFaultText.tab5 : rtab .any (opsOf Tryf.f3 5) = laws_FnFaultText.T5 := by kernel_rfl
theorem laws_FnFaultText.bits5 : waitsOk laws_FnFaultText.T5.2 laws_FnFaultText.B5 = true := by kernel_rfl
def laws_FnFaultText.T8 : Bool × List (List Nat × List Nat) := (true, [([], []), ([0], [0]), ([], []), ([2], [2]), ([], []), ([4], [4]), ([3, 5], [3, 5]), ([1, 6], [1, 6]), ([7, 1, 0, 1, 2, 3, 4, 5, 6, 7], [7])])
def laws_FnFaultText.B8 : List Nat := [0, 1, 0, 4, 0, 16, 60, 127, 255]
theorem laws_FnFaultText.tab8 : rtab .any (opsOf Tryf.f3 8) = laws_FnFaultText.T8 := by kernel_rfl
theorem laws_FnFaultText.bits8 : waitsOk laws_FnFaultText.T8.2 laws_FnFaultText.B8 = true := by kernel_rfl
set_option maxHeartbeats 8000000 in
set_option maxRecDepth 100000 in
theorem laws_FnFaultText.calls (k : Nat) (a0_0 : ByteArray) (a0_1 : Int) (a0_2 : Int) (a0_3 : ByteArray) (r : Bool) (w : World) (F : Go.Stop.Interp) (henv : ∀ w', Below w.heap.size w w' → GiveEnv F w') (h : laws_FnFaultText.f k a0_0 a0_1 a0_2 a0_3 = some r) :
    Calls Tryf.prog 3 #[.agg #[.string a0_0, .int .i64 a0_1, .int .i64 a0_2, .string a0_3]] w fun e w' => e = .returned (.bool r) ∧ Below w.heap.size w w' := by
  have hu23 := Tryf.underlying23
  have HB := Aside0.mk (Below.refl w.heap.size w)
  have H : ((laws_zzFits5.f a0_0 a0_1 a0_2 a0_3).bind fun t134 => (if t134 = true then ((laws_fewFaults9.f k (([(⟨a0_0, a0_1, a0_2, a0_3⟩ : S23)] : List (S23)))).bind fun t138 => (if t138 = true then (if a0_0.toList = ([] : List UInt8) then (laws_FnFaultText.j0 k true a0_0 a0_1 a0_2 a0_3) else (laws_FnFaultText.j0 k (decide (a0_1 < 1)) a0_0 a0_1 a0_2 a0_3)) else (laws_FnFaultText.j0 k true a0_0 a0_1 a0_2 a0_3))) else (some true))) = some r := h
  clear h
  replace H := Option.bind_eq_some_iff.mp H
  obtain ⟨t134, A20, H⟩ := H
  replace H : (if t134 = true then ((laws_fewFaults9.f k (([(⟨a0_0, a0_1, a0_2, a0_3⟩ : S23)] : List (S23)))).bind fun t138 => (if t138 = true then (if a0_0.toList = ([] : List UInt8) then (laws_FnFaultText.j0 k true a0_0 a0_1 a0_2 a0_3) else (laws_FnFaultText.j0 k (decide (a0_1 < 1)) a0_0 a0_1 a0_2 a0_3)) else (laws_FnFaultText.j0 k true a0_0 a0_1 a0_2 a0_3))) else (some true)) = some r := H
  have A2 := Aside0.mk A20
  clear A20
  by_cases c3 : t134 = true
  · subst c3
    have H1 : ((laws_fewFaults9.f k (([(⟨a0_0, a0_1, a0_2, a0_3⟩ : S23)] : List (S23)))).bind fun t138 => (if t138 = true then (if a0_0.toList = ([] : List UInt8) then (laws_FnFaultText.j0 k true a0_0 a0_1 a0_2 a0_3) else (laws_FnFaultText.j0 k (decide (a0_1 < 1)) a0_0 a0_1 a0_2 a0_3)) else (laws_FnFaultText.j0 k true a0_0 a0_1 a0_2 a0_3))) = some r := by rw [if_pos rfl] at H; exact H
    clear H
    have H := H1
    clear H1
    have HC4 := Aside0.mk H
    clear H
    go_enter Tryf.func3, Tryf.ntmps3
    go_upto_region 3 with (first | ((with_reducible refine gate_dst (N := 1) rfl ?_); refine box_event ?hg (N := 1) ?hd (cs := #[.string a0_0, .int .i64 a0_1, .int .i64 a0_2, .string a0_3]) (t := 23) ?hr ?_; (case hd => rfl); (case hg => rfl); (case hr => first | (go_simp; done) | (go_simp; rfl)); intro gb133 hg w5 hbox hb; have n0_ := Aside0.mk (below_step (by repeat (first | (with_reducible first | exact HB.out | apply below_alloc | apply pw_below_drewN | apply below_drew1) | exact HB.out)) hb); have n1_ := Aside0.mk (hbox); have n2_ := Aside0.mk ((by rw [hg]; exact (below_size (by repeat (first | (with_reducible first | exact HB.out | apply below_alloc | apply pw_below_drewN | apply below_drew1) | exact HB.out))) : w.heap.size ≤ gb133)); have n3_ := Aside0.mk ((by rw [hg]; exact (below_size (by repeat (first | (with_reducible first | exact HB.out | apply below_alloc | apply pw_below_drewN | apply below_drew1) | exact HB.out))) : w.heap.size ≤ gb133)); clear HB; have HB := n0_; have BK133 := n1_; have GW133 := n2_; have GE133 := n3_; clear n0_ n1_ n2_ n3_; clear hb hbox hg; have hcz6_0 : w5.cell? ⟨gb133, 0, none⟩ = some (.string a0_0) := (blk_cell BK133.out 0).trans rfl; have hcz6_1 : w5.cell? ⟨gb133, 1, none⟩ = some (.int .i64 a0_1) := (blk_cell BK133.out 1).trans rfl; have hcz6_2 : w5.cell? ⟨gb133, 2, none⟩ = some (.int .i64 a0_2) := (blk_cell BK133.out 2).trans rfl; have hcz6_3 : w5.cell? ⟨gb133, 3, none⟩ = some (.string a0_3) := (blk_cell BK133.out 3).trans rfl; have hfz6_0 := blk_frozen BK133.out 0; have hfz6_1 := blk_frozen BK133.out 1; have hfz6_2 := blk_frozen BK133.out 2; have hfz6_3 := blk_frozen BK133.out 3) | ((with_reducible refine gate_callee (f := 4) rfl ?_); refine goesL_ (some 5) rfl rfl Tryf.func4 (by kernel_rfl) rfl #[.agg #[.string a0_0, .int .i64 a0_1, .int .i64 a0_2, .string a0_3]] rfl (by (try simp only [List.map_toArray, List.map_cons, List.map_nil]); first | done | rfl | (simp only [List.length_drop, List.length_take]; rfl)) ?_; (with_reducible refine (laws_zzFits5.calls a0_0 a0_1 a0_2 a0_3 true _ A2.out).mono ?_); rintro e w7 ⟨rfl, hb⟩; refine ⟨_, rfl, ?_⟩; have n0_ := Aside0.mk (blk_below (g := gb133) (o := .cells #[.string a0_0, .int .i64 a0_1, .int .i64 a0_2, .string a0_3] 23 (0, 0)) (by (with_reducible repeat (first | refine blk_drewN ?_ _ | refine blk_drew ?_ | refine blk_alloc ?_ _)); exact BK133.out) hb); have n1_ := Aside0.mk (below_step (by repeat (first | (with_reducible first | exact HB.out | apply below_alloc | apply pw_below_drewN | apply below_drew1 | refine below_set ?_ GE133.out) | exact HB.out)) hb); clear BK133; clear HB; have BK133 := n0_; have HB := n1_; clear n0_ n1_; (try clear hb); (try clear hb2); (try clear hk); (try clear hi)))
    (try simp only [Act.put, List.setIfInBounds_toArray, List.set_cons_zero, List.set_cons_succ])
    go_cut [20] (fun v20 wc => ∃ (kq : Nat) (x20_3 : Bool), v20 = .bool x20_3 ∧ Aside0 (laws_FnFaultText.j0 kq x20_3 a0_0 a0_1 a0_2 a0_3 = some r) ∧ Aside0 (kq ≤ k) ∧ Aside0 (wc.heap[gb133]? = some (.cells #[.string a0_0, .int .i64 a0_1, .int .i64 a0_2, .string a0_3] 23 (0, 0))) ∧ Aside0 (Below w.heap.size w wc))
    case first =>
      have H := HC4.out
      clear HC4
      obtain ⟨y135, hy135⟩ : ∃ y_ : List (S23), y_ = (([(⟨a0_0, a0_1, a0_2, a0_3⟩ : S23)] : List (S23))) := ⟨_, rfl⟩
      replace H : ((laws_fewFaults9.f k y135).bind fun t138 => (if t138 = true then (if a0_0.toList = ([] : List UInt8) then (laws_FnFaultText.j0 k true a0_0 a0_1 a0_2 a0_3) else (laws_FnFaultText.j0 k (decide (a0_1 < 1)) a0_0 a0_1 a0_2 a0_3)) else (laws_FnFaultText.j0 k true a0_0 a0_1 a0_2 a0_3))) = some r := by first | (rw [hy135]; with_reducible exact H) | (have H2_ := (Option.bind_some _ _).symm.trans H; rw [hy135]; with_reducible exact H2_) | (have H2_ := (Option.bind_some _ _).symm.trans H; with_reducible exact H2_) | with_reducible exact H | (rw [hy135]; exact H) | exact H
      have Ny135 := Aside0.mk hy135
      clear hy135
      replace H := Option.bind_eq_some_iff.mp H
      obtain ⟨t138, A80, H⟩ := H
      replace H : (if t138 = true then (if a0_0.toList = ([] : List UInt8) then (laws_FnFaultText.j0 k true a0_0 a0_1 a0_2 a0_3) else (laws_FnFaultText.j0 k (decide (a0_1 < 1)) a0_0 a0_1 a0_2 a0_3)) else (laws_FnFaultText.j0 k true a0_0 a0_1 a0_2 a0_3)) = some r := H
      have A8 := Aside0.mk A80
      clear A80
      by_cases c9 : t138 = true
      · subst c9
        have H1 : (if a0_0.toList = ([] : List UInt8) then (laws_FnFaultText.j0 k true a0_0 a0_1 a0_2 a0_3) else (laws_FnFaultText.j0 k (decide (a0_1 < 1)) a0_0 a0_1 a0_2 a0_3)) = some r := by rw [if_pos rfl] at H; exact H
        clear H
        have H := H1
        clear H1
        by_cases c10 : a0_0.toList = ([] : List UInt8)
        · rw [if_pos c10] at H
          have c10b0 : (a0_0.toList == ([] : List UInt8)) = true := beq_iff_eq.mpr c10
          have c10b1 : (a0_0.toList != ([] : List UInt8)) = false := bne_eq_false_iff_eq.mpr c10
          clear c10
          (first | rw [c10b0] | (simp only [i64_w, i32_w]; rw [c10b0]) | skip)
          have H' := Aside0.mk H
          clear H
          have hcz11_0 : w7.cell? ⟨gb133, 0, none⟩ = some (.string a0_0) := (blk_cell BK133.out 0).trans rfl
          have hcz11_1 : w7.cell? ⟨gb133, 1, none⟩ = some (.int .i64 a0_1) := (blk_cell BK133.out 1).trans rfl
          have hcz11_2 : w7.cell? ⟨gb133, 2, none⟩ = some (.int .i64 a0_2) := (blk_cell BK133.out 2).trans rfl
          have hcz11_3 : w7.cell? ⟨gb133, 3, none⟩ = some (.string a0_3) := (blk_cell BK133.out 3).trans rfl
          have hfz11_0 := blk_frozen BK133.out 0
          have hfz11_1 := blk_frozen BK133.out 1
          have hfz11_2 := blk_frozen BK133.out 2
          have hfz11_3 := blk_frozen BK133.out 3
          go_wp2_with (first | ((with_reducible refine gate_dst (N := 8) rfl ?_); refine Kd.R_lit k23 _ 23 ?hg (N := 8) ?hd (xs := ([(⟨a0_0, a0_1, a0_2, a0_3⟩ : S23)] : List (S23))) (inner := [.string a0_0, .int .i64 a0_1, .int .i64 a0_2, .string a0_3]) (ok := fun _ => True) (okp := fun _ => True) ?hr ?hp (fun _ hk => hk) trivial (Below.refl _ _) (Nat.le_refl _) (by simp) ?_; (case hd => rfl); (case hg => rfl); (case hr => first | (go_simp; done) | (go_simp; rfl)); (case hp => exact (Reps.c4 (show Kd.M k23 _ _ _ (⟨a0_0, a0_1, a0_2, a0_3⟩ : S23) [.string a0_0, .int .i64 a0_1, .int .i64 a0_2, .string a0_3] from (k23_mkM _ _ _ (⟨a0_0, a0_1, a0_2, a0_3⟩ : S23) )) (Reps.none _ _))); intro v136 w12 ho13 hb hg_ hnew_; clear hg_ hnew_; (first | rw [← Ny135.out] at ho13 | (simp only [Int.reduceToNat] at ho13; rw [← Ny135.out] at ho13)); have n0_ := Aside0.mk (Kd.R_lower (Kd.R_newB ho13 (g := gb133) (o := .cells #[.string a0_0, .int .i64 a0_1, .int .i64 a0_2, .string a0_3] 23 (0, 0)) (by (with_reducible repeat (first | refine blk_drewN ?_ _ | refine blk_drew ?_ | refine blk_alloc ?_ _)); exact BK133.out)) (below_size (by repeat (first | (with_reducible first | exact HB.out | apply below_alloc | apply pw_below_drewN | apply below_drew1 | refine below_set ?_ GE133.out) | exact HB.out)))); have n1_ := Aside0.mk (blk_below (g := gb133) (o := .cells #[.string a0_0, .int .i64 a0_1, .int .i64 a0_2, .string a0_3] 23 (0, 0)) (by (with_reducible repeat (first | refine blk_drewN ?_ _ | refine blk_drew ?_ | refine blk_alloc ?_ _)); exact BK133.out) hb); have n2_ := Aside0.mk (below_step (by repeat (first | (with_reducible first | exact HB.out | apply below_alloc | apply pw_below_drewN | apply below_drew1 | refine below_set ?_ GE133.out) | exact HB.out)) hb); clear BK133; clear HB; have HO137 := n0_; have BK133 := n1_; have HB := n2_; clear n0_ n1_ n2_; clear hb ho13; obtain ⟨Ao14, co14, eo14⟩ := Kd.R_slice HO137.out; subst eo14) | ((with_reducible refine gate_callee (f := 5) rfl ?_); refine goesL_ (some 9) rfl rfl Tryf.func5 (by kernel_rfl) rfl #[.slice Ao14 y135.length co14] rfl (by (try simp only [List.map_toArray, List.map_cons, List.map_nil]); first | done | rfl | (simp only [List.length_drop, List.length_take]; rfl)) ?_; (with_reducible refine (laws_fewFaults9.calls k _ _ y135 true _ ?side1 ?side2 A8.out).mono ?_); (case side1 => repeat (first | exact (Kd.R_reads' HO137.out).2.2 | (with_reducible refine Kd.C_alloc ?_ _) | (with_reducible refine Kd.C_drewN ?_ _) | (with_reducible refine Kd.C_drew ?_))); (case side2 => exact (Kd.R_reads' HO137.out).2.1); rintro e w15 ⟨rfl, hb⟩; refine ⟨_, rfl, ?_⟩; have n0_ := Aside0.mk (Kd.R_below (by (with_reducible repeat (first | apply Kd.R_alloc | apply Kd.R_drewN | apply Kd.R_drew)); exact HO137.out) hb); have n1_ := Aside0.mk (blk_below (g := gb133) (o := .cells #[.string a0_0, .int .i64 a0_1, .int .i64 a0_2, .string a0_3] 23 (0, 0)) (by (with_reducible repeat (first | refine blk_drewN ?_ _ | refine blk_drew ?_ | refine blk_alloc ?_ _)); exact BK133.out) hb); have n2_ := Aside0.mk (below_step (by repeat (first | (with_reducible first | exact HB.out | apply below_alloc | apply pw_below_drewN | apply below_drew1 | refine below_set ?_ GE133.out) | exact HB.out)) hb); clear HO137; clear BK133; clear HB; have HO137 := n0_; have BK133 := n1_; have HB := n2_; clear n0_ n1_ n2_; (try clear hb); (try clear hb2); (try clear hk); (try clear hi); have hcz16_0 : w15.cell? ⟨gb133, 0, none⟩ = some (.string a0_0) := (blk_cell BK133.out 0).trans rfl; have hcz16_1 : w15.cell? ⟨gb133, 1, none⟩ = some (.int .i64 a0_1) := (blk_cell BK133.out 1).trans rfl; have hcz16_2 : w15.cell? ⟨gb133, 2, none⟩ = some (.int .i64 a0_2) := (blk_cell BK133.out 2).trans rfl; have hcz16_3 : w15.cell? ⟨gb133, 3, none⟩ = some (.string a0_3) := (blk_cell BK133.out 3).trans rfl; have hfz16_0 := blk_frozen BK133.out 0; have hfz16_1 := blk_frozen BK133.out 1; have hfz16_2 := blk_frozen BK133.out 2; have hfz16_3 := blk_frozen BK133.out 3))
          go_meet
          case rel => exact ⟨_, (true), (by first | rfl | (simp; done) | (simp [*]; done)), H', ⟨by first | omega | exact Nat.le_refl _⟩, ⟨by (with_reducible repeat (first | refine blk_drewN ?_ _ | refine blk_drew ?_ | refine blk_alloc ?_ _)); exact BK133.out⟩, ⟨by repeat (first | (with_reducible first | exact HB.out | apply below_alloc | apply pw_below_drewN | apply below_drew1 | refine below_set ?_ GE133.out) | exact HB.out)⟩⟩
        · rw [if_neg c10] at H
          have c10b0 : (a0_0.toList == ([] : List UInt8)) = false := beq_eq_false_iff_ne.mpr c10
          have c10b1 : (a0_0.toList != ([] : List UInt8)) = true := bne_iff_ne.mpr c10
          (first | rw [c10b0] | (simp only [i64_w, i32_w]; rw [c10b0]) | skip)
          have H' := Aside0.mk H
          clear H
          have hcz17_0 : w7.cell? ⟨gb133, 0, none⟩ = some (.string a0_0) := (blk_cell BK133.out 0).trans rfl
          have hcz17_1 : w7.cell? ⟨gb133, 1, none⟩ = some (.int .i64 a0_1) := (blk_cell BK133.out 1).trans rfl
          have hcz17_2 : w7.cell? ⟨gb133, 2, none⟩ = some (.int .i64 a0_2) := (blk_cell BK133.out 2).trans rfl
          have hcz17_3 : w7.cell? ⟨gb133, 3, none⟩ = some (.string a0_3) := (blk_cell BK133.out 3).trans rfl
          have hfz17_0 := blk_frozen BK133.out 0
          have hfz17_1 := blk_frozen BK133.out 1
          have hfz17_2 := blk_frozen BK133.out 2
          have hfz17_3 := blk_frozen BK133.out 3
          go_wp2_with (first | ((with_reducible refine gate_dst (N := 8) rfl ?_); refine Kd.R_lit k23 _ 23 ?hg (N := 8) ?hd (xs := ([(⟨a0_0, a0_1, a0_2, a0_3⟩ : S23)] : List (S23))) (inner := [.string a0_0, .int .i64 a0_1, .int .i64 a0_2, .string a0_3]) (ok := fun _ => True) (okp := fun _ => True) ?hr ?hp (fun _ hk => hk) trivial (Below.refl _ _) (Nat.le_refl _) (by simp) ?_; (case hd => rfl); (case hg => rfl); (case hr => first | (go_simp; done) | (go_simp; rfl)); (case hp => exact (Reps.c4 (show Kd.M k23 _ _ _ (⟨a0_0, a0_1, a0_2, a0_3⟩ : S23) [.string a0_0, .int .i64 a0_1, .int .i64 a0_2, .string a0_3] from (k23_mkM _ _ _ (⟨a0_0, a0_1, a0_2, a0_3⟩ : S23) )) (Reps.none _ _))); intro v136 w18 ho19 hb hg_ hnew_; clear hg_ hnew_; (first | rw [← Ny135.out] at ho19 | (simp only [Int.reduceToNat] at ho19; rw [← Ny135.out] at ho19)); have n0_ := Aside0.mk (Kd.R_lower (Kd.R_newB ho19 (g := gb133) (o := .cells #[.string a0_0, .int .i64 a0_1, .int .i64 a0_2, .string a0_3] 23 (0, 0)) (by (with_reducible repeat (first | refine blk_drewN ?_ _ | refine blk_drew ?_ | refine blk_alloc ?_ _)); exact BK133.out)) (below_size (by repeat (first | (with_reducible first | exact HB.out | apply below_alloc | apply pw_below_drewN | apply below_drew1 | refine below_set ?_ GE133.out) | exact HB.out)))); have n1_ := Aside0.mk (blk_below (g := gb133) (o := .cells #[.string a0_0, .int .i64 a0_1, .int .i64 a0_2, .string a0_3] 23 (0, 0)) (by (with_reducible repeat (first | refine blk_drewN ?_ _ | refine blk_drew ?_ | refine blk_alloc ?_ _)); exact BK133.out) hb); have n2_ := Aside0.mk (below_step (by repeat (first | (with_reducible first | exact HB.out | apply below_alloc | apply pw_below_drewN | apply below_drew1 | refine below_set ?_ GE133.out) | exact HB.out)) hb); clear BK133; clear HB; have HO137 := n0_; have BK133 := n1_; have HB := n2_; clear n0_ n1_ n2_; clear hb ho19; obtain ⟨Ao20, co20, eo20⟩ := Kd.R_slice HO137.out; subst eo20) | ((with_reducible refine gate_callee (f := 5) rfl ?_); refine goesL_ (some 9) rfl rfl Tryf.func5 (by kernel_rfl) rfl #[.slice Ao20 y135.length co20] rfl (by (try simp only [List.map_toArray, List.map_cons, List.map_nil]); first | done | rfl | (simp only [List.length_drop, List.length_take]; rfl)) ?_; (with_reducible refine (laws_fewFaults9.calls k _ _ y135 true _ ?side1 ?side2 A8.out).mono ?_); (case side1 => repeat (first | exact (Kd.R_reads' HO137.out).2.2 | (with_reducible refine Kd.C_alloc ?_ _) | (with_reducible refine Kd.C_drewN ?_ _) | (with_reducible refine Kd.C_drew ?_))); (case side2 => exact (Kd.R_reads' HO137.out).2.1); rintro e w21 ⟨rfl, hb⟩; refine ⟨_, rfl, ?_⟩; have n0_ := Aside0.mk (Kd.R_below (by (with_reducible repeat (first | apply Kd.R_alloc | apply Kd.R_drewN | apply Kd.R_drew)); exact HO137.out) hb); have n1_ := Aside0.mk (blk_below (g := gb133) (o := .cells #[.string a0_0, .int .i64 a0_1, .int .i64 a0_2, .string a0_3] 23 (0, 0)) (by (with_reducible repeat (first | refine blk_drewN ?_ _ | refine blk_drew ?_ | refine blk_alloc ?_ _)); exact BK133.out) hb); have n2_ := Aside0.mk (below_step (by repeat (first | (with_reducible first | exact HB.out | apply below_alloc | apply pw_below_drewN | apply below_drew1 | refine below_set ?_ GE133.out) | exact HB.out)) hb); clear HO137; clear BK133; clear HB; have HO137 := n0_; have BK133 := n1_; have HB := n2_; clear n0_ n1_ n2_; (try clear hb); (try clear hb2); (try clear hk); (try clear hi); have hcz22_0 : w21.cell? ⟨gb133, 0, none⟩ = some (.string a0_0) := (blk_cell BK133.out 0).trans rfl; have hcz22_1 : w21.cell? ⟨gb133, 1, none⟩ = some (.int .i64 a0_1) := (blk_cell BK133.out 1).trans rfl; have hcz22_2 : w21.cell? ⟨gb133, 2, none⟩ = some (.int .i64 a0_2) := (blk_cell BK133.out 2).trans rfl; have hcz22_3 : w21.cell? ⟨gb133, 3, none⟩ = some (.string a0_3) := (blk_cell BK133.out 3).trans rfl; have hfz22_0 := blk_frozen BK133.out 0; have hfz22_1 := blk_frozen BK133.out 1; have hfz22_2 := blk_frozen BK133.out 2; have hfz22_3 := blk_frozen BK133.out 3))
          go_meet
          case rel => exact ⟨_, (decide (a0_1 < 1)), (by first | rfl | (simp; done) | (simp [*]; done)), H', ⟨by first | omega | exact Nat.le_refl _⟩, ⟨by (with_reducible repeat (first | refine blk_drewN ?_ _ | refine blk_drew ?_ | refine blk_alloc ?_ _)); exact BK133.out⟩, ⟨by repeat (first | (with_reducible first | exact HB.out | apply below_alloc | apply pw_below_drewN | apply below_drew1 | refine below_set ?_ GE133.out) | exact HB.out)⟩⟩
      · replace c9 := Bool.eq_false_iff.mpr c9
        subst c9
        have H1 : (laws_FnFaultText.j0 k true a0_0 a0_1 a0_2 a0_3) = some r := by rw [if_neg (show ¬ (false = true) by decide)] at H; exact H
        clear H
        have H := H1
        clear H1
        have H' := Aside0.mk H
        clear H
        have hcz23_0 : w7.cell? ⟨gb133, 0, none⟩ = some (.string a0_0) := (blk_cell BK133.out 0).trans rfl
        have hcz23_1 : w7.cell? ⟨gb133, 1, none⟩ = some (.int .i64 a0_1) := (blk_cell BK133.out 1).trans rfl
        have hcz23_2 : w7.cell? ⟨gb133, 2, none⟩ = some (.int .i64 a0_2) := (blk_cell BK133.out 2).trans rfl
        have hcz23_3 : w7.cell? ⟨gb133, 3, none⟩ = some (.string a0_3) := (blk_cell BK133.out 3).trans rfl
        have hfz23_0 := blk_frozen BK133.out 0
        have hfz23_1 := blk_frozen BK133.out 1
        have hfz23_2 := blk_frozen BK133.out 2
        have hfz23_3 := blk_frozen BK133.out 3
        go_wp2_with (first | ((with_reducible refine gate_dst (N := 8) rfl ?_); refine Kd.R_lit k23 _ 23 ?hg (N := 8) ?hd (xs := ([(⟨a0_0, a0_1, a0_2, a0_3⟩ : S23)] : List (S23))) (inner := [.string a0_0, .int .i64 a0_1, .int .i64 a0_2, .string a0_3]) (ok := fun _ => True) (okp := fun _ => True) ?hr ?hp (fun _ hk => hk) trivial (Below.refl _ _) (Nat.le_refl _) (by simp) ?_; (case hd => rfl); (case hg => rfl); (case hr => first | (go_simp; done) | (go_simp; rfl)); (case hp => exact (Reps.c4 (show Kd.M k23 _ _ _ (⟨a0_0, a0_1, a0_2, a0_3⟩ : S23) [.string a0_0, .int .i64 a0_1, .int .i64 a0_2, .string a0_3] from (k23_mkM _ _ _ (⟨a0_0, a0_1, a0_2, a0_3⟩ : S23) )) (Reps.none _ _))); intro v136 w24 ho25 hb hg_ hnew_; clear hg_ hnew_; (first | rw [← Ny135.out] at ho25 | (simp only [Int.reduceToNat] at ho25; rw [← Ny135.out] at ho25)); have n0_ := Aside0.mk (Kd.R_lower (Kd.R_newB ho25 (g := gb133) (o := .cells #[.string a0_0, .int .i64 a0_1, .int .i64 a0_2, .string a0_3] 23 (0, 0)) (by (with_reducible repeat (first | refine blk_drewN ?_ _ | refine blk_drew ?_ | refine blk_alloc ?_ _)); exact BK133.out)) (below_size (by repeat (first | (with_reducible first | exact HB.out | apply below_alloc | apply pw_below_drewN | apply below_drew1 | refine below_set ?_ GE133.out) | exact HB.out)))); have n1_ := Aside0.mk (blk_below (g := gb133) (o := .cells #[.string a0_0, .int .i64 a0_1, .int .i64 a0_2, .string a0_3] 23 (0, 0)) (by (with_reducible repeat (first | refine blk_drewN ?_ _ | refine blk_drew ?_ | refine blk_alloc ?_ _)); exact BK133.out) hb); have n2_ := Aside0.mk (below_step (by repeat (first | (with_reducible first | exact HB.out | apply below_alloc | apply pw_below_drewN | apply below_drew1 | refine below_set ?_ GE133.out) | exact HB.out)) hb); clear BK133; clear HB; have HO137 := n0_; have BK133 := n1_; have HB := n2_; clear n0_ n1_ n2_; clear hb ho25; obtain ⟨Ao26, co26, eo26⟩ := Kd.R_slice HO137.out; subst eo26) | ((with_reducible refine gate_callee (f := 5) rfl ?_); refine goesL_ (some 9) rfl rfl Tryf.func5 (by kernel_rfl) rfl #[.slice Ao26 y135.length co26] rfl (by (try simp only [List.map_toArray, List.map_cons, List.map_nil]); first | done | rfl | (simp only [List.length_drop, List.length_take]; rfl)) ?_; (with_reducible refine (laws_fewFaults9.calls k _ _ y135 false _ ?side1 ?side2 A8.out).mono ?_); (case side1 => repeat (first | exact (Kd.R_reads' HO137.out).2.2 | (with_reducible refine Kd.C_alloc ?_ _) | (with_reducible refine Kd.C_drewN ?_ _) | (with_reducible refine Kd.C_drew ?_))); (case side2 => exact (Kd.R_reads' HO137.out).2.1); rintro e w27 ⟨rfl, hb⟩; refine ⟨_, rfl, ?_⟩; have n0_ := Aside0.mk (Kd.R_below (by (with_reducible repeat (first | apply Kd.R_alloc | apply Kd.R_drewN | apply Kd.R_drew)); exact HO137.out) hb); have n1_ := Aside0.mk (blk_below (g := gb133) (o := .cells #[.string a0_0, .int .i64 a0_1, .int .i64 a0_2, .string a0_3] 23 (0, 0)) (by (with_reducible repeat (first | refine blk_drewN ?_ _ | refine blk_drew ?_ | refine blk_alloc ?_ _)); exact BK133.out) hb); have n2_ := Aside0.mk (below_step (by repeat (first | (with_reducible first | exact HB.out | apply below_alloc | apply pw_below_drewN | apply below_drew1 | refine below_set ?_ GE133.out) | exact HB.out)) hb); clear HO137; clear BK133; clear HB; have HO137 := n0_; have BK133 := n1_; have HB := n2_; clear n0_ n1_ n2_; (try clear hb); (try clear hb2); (try clear hk); (try clear hi)))
        go_meet
        case rel => exact ⟨_, (true), (by first | rfl | (simp; done) | (simp [*]; done)), H', ⟨by first | omega | exact Nat.le_refl _⟩, ⟨by (with_reducible repeat (first | refine blk_drewN ?_ _ | refine blk_drew ?_ | refine blk_alloc ?_ _)); exact BK133.out⟩, ⟨by repeat (first | (with_reducible first | exact HB.out | apply below_alloc | apply pw_below_drewN | apply below_drew1 | refine below_set ?_ GE133.out) | exact HB.out)⟩⟩
    case rest =>
      clear HC4
      try clear c1
      try clear p2
      try clear c3
      try clear c4
      try clear c5
      try clear c9
      try clear c10
      try clear c10b0
      try clear c10b1
      try clear hcz11_0
      try clear hcz11_1
      try clear hcz11_2
      try clear hcz11_3
      try clear hcz16_0
      try clear hcz16_1
      try clear hcz16_2
      try clear hcz16_3
      try clear hcz17_0
      try clear hcz17_1
      try clear hcz17_2
      try clear hcz17_3
      try clear hcz22_0
      try clear hcz22_1
      try clear hcz22_2
      try clear hcz22_3
      try clear hcz23_0
      try clear hcz23_1
      try clear hcz23_2
      try clear hcz23_3
      try clear hcz6_0
      try clear hcz6_1
      try clear hcz6_2
      try clear hcz6_3
      try clear hfz11_0
      try clear hfz11_1
      try clear hfz11_2
      try clear hfz11_3
      try clear hfz16_0
      try clear hfz16_1
      try clear hfz16_2
      try clear hfz16_3
      try clear hfz17_0
      try clear hfz17_1
      try clear hfz17_2
      try clear hfz17_3
      try clear hfz22_0
      try clear hfz22_1
      try clear hfz22_2
      try clear hfz22_3
      try clear hfz23_0
      try clear hfz23_1
      try clear hfz23_2
      try clear hfz23_3
      try clear hfz6_0
      try clear hfz6_1
      try clear hfz6_2
      try clear hfz6_3
      obtain ⟨kq, x20_3, rfl, HA, HJ3, BK133, HB⟩ := hcut
      cases kq with
      | zero => exact absurd HA.out (by simp [laws_FnFaultText.j0])
      | succ kj3 =>
        have H := HA.out
        clear HA
        simp only [laws_FnFaultText.j0] at H
        by_cases c28 : x20_3 = true
        · subst c28
          have H1 : (some true) = some r := by rw [if_pos rfl] at H; exact H
          clear H
          have H := H1
          clear H1
          obtain rfl := Option.some.inj H
          go_wp2
          go_ret
          exact ⟨by first | rfl | (simp [errW_none, errW_some] <;> rfl) | (simp [*, errW_none, errW_some] <;> rfl), by repeat (first | (with_reducible first | exact HB.out | apply below_alloc | apply pw_below_drewN | apply below_drew1 | refine below_set ?_ GE133.out) | exact HB.out)⟩
        · replace c28 := Bool.eq_false_iff.mpr c28
          subst c28
          have H1 : (if a0_0.size + 1 ≤ 9223372036854775807 then ((strconv_Itoa_6.f a0_1).bind fun t139 => (if (a0_0 ++ (⟨#[58]⟩ : ByteArray)).size + t139.size ≤ 9223372036854775807 then (if a0_2 > 0 then ((strconv_Itoa_6.f a0_2).bind fun t140 => (if 1 + t140.size ≤ 9223372036854775807 then (if ((a0_0 ++ (⟨#[58]⟩ : ByteArray)) ++ t139).size + ((⟨#[58]⟩ : ByteArray) ++ t140).size ≤ 9223372036854775807 then ((impl_FaultText.f a0_0 a0_1 a0_2 a0_3).bind fun t141 => (if (((a0_0 ++ (⟨#[58]⟩ : ByteArray)) ++ t139) ++ ((⟨#[58]⟩ : ByteArray) ++ t140)).size + 2 ≤ 9223372036854775807 then (if ((((a0_0 ++ (⟨#[58]⟩ : ByteArray)) ++ t139) ++ ((⟨#[58]⟩ : ByteArray) ++ t140)) ++ (⟨#[58, 32]⟩ : ByteArray)).size + a0_3.size ≤ 9223372036854775807 then (some (t141.toList == (((((a0_0 ++ (⟨#[58]⟩ : ByteArray)) ++ t139) ++ ((⟨#[58]⟩ : ByteArray) ++ t140)) ++ (⟨#[58, 32]⟩ : ByteArray)) ++ a0_3).toList)) else (none)) else (none))) else (none)) else (none))) else ((impl_FaultText.f a0_0 a0_1 a0_2 a0_3).bind fun t142 => (if ((a0_0 ++ (⟨#[58]⟩ : ByteArray)) ++ t139).size + 2 ≤ 9223372036854775807 then (if (((a0_0 ++ (⟨#[58]⟩ : ByteArray)) ++ t139) ++ (⟨#[58, 32]⟩ : ByteArray)).size + a0_3.size ≤ 9223372036854775807 then (some (t142.toList == ((((a0_0 ++ (⟨#[58]⟩ : ByteArray)) ++ t139) ++ (⟨#[58, 32]⟩ : ByteArray)) ++ a0_3).toList)) else (none)) else (none)))) else (none))) else (none)) = some r := by rw [if_neg (show ¬ (false = true) by decide)] at H; exact H
          clear H
          have H := H1
          clear H1
          by_cases c29 : a0_0.size + 1 ≤ 9223372036854775807
          · rw [if_pos c29] at H
            have c29b0 := eq_true c29
            have c29b1 : decide (a0_0.size + 1 ≤ 9223372036854775807) = true := decide_eq_true c29
            try have c29b2 : (9223372036854775807 < a0_0.size + 1) = False := eq_false (Nat.not_lt.2 c29)
            replace H := Option.bind_eq_some_iff.mp H
            obtain ⟨t139, A300, H⟩ := H
            replace H : (if (a0_0 ++ (⟨#[58]⟩ : ByteArray)).size + t139.size ≤ 9223372036854775807 then (if a0_2 > 0 then ((strconv_Itoa_6.f a0_2).bind fun t140 => (if 1 + t140.size ≤ 9223372036854775807 then (if ((a0_0 ++ (⟨#[58]⟩ : ByteArray)) ++ t139).size + ((⟨#[58]⟩ : ByteArray) ++ t140).size ≤ 9223372036854775807 then ((impl_FaultText.f a0_0 a0_1 a0_2 a0_3).bind fun t141 => (if (((a0_0 ++ (⟨#[58]⟩ : ByteArray)) ++ t139) ++ ((⟨#[58]⟩ : ByteArray) ++ t140)).size + 2 ≤ 9223372036854775807 then (if ((((a0_0 ++ (⟨#[58]⟩ : ByteArray)) ++ t139) ++ ((⟨#[58]⟩ : ByteArray) ++ t140)) ++ (⟨#[58, 32]⟩ : ByteArray)).size + a0_3.size ≤ 9223372036854775807 then (some (t141.toList == (((((a0_0 ++ (⟨#[58]⟩ : ByteArray)) ++ t139) ++ ((⟨#[58]⟩ : ByteArray) ++ t140)) ++ (⟨#[58, 32]⟩ : ByteArray)) ++ a0_3).toList)) else (none)) else (none))) else (none)) else (none))) else ((impl_FaultText.f a0_0 a0_1 a0_2 a0_3).bind fun t142 => (if ((a0_0 ++ (⟨#[58]⟩ : ByteArray)) ++ t139).size + 2 ≤ 9223372036854775807 then (if (((a0_0 ++ (⟨#[58]⟩ : ByteArray)) ++ t139) ++ (⟨#[58, 32]⟩ : ByteArray)).size + a0_3.size ≤ 9223372036854775807 then (some (t142.toList == ((((a0_0 ++ (⟨#[58]⟩ : ByteArray)) ++ t139) ++ (⟨#[58, 32]⟩ : ByteArray)) ++ a0_3).toList)) else (none)) else (none)))) else (none)) = some r := H
            have A30 := Aside0.mk A300
            clear A300
            by_cases c31 : (a0_0 ++ (⟨#[58]⟩ : ByteArray)).size + t139.size ≤ 9223372036854775807
            · rw [if_pos c31] at H
              have c31b0 := eq_true c31
              have c31b1 : decide ((a0_0 ++ (⟨#[58]⟩ : ByteArray)).size + t139.size ≤ 9223372036854775807) = true := decide_eq_true c31
              try have c31b2 : (9223372036854775807 < (a0_0 ++ (⟨#[58]⟩ : ByteArray)).size + t139.size) = False := eq_false (Nat.not_lt.2 c31)
              have c31b3 : (9223372036854775807 < a0_0.size + 1 + t139.size) = False := eq_false (by have h := c31; simp only [app_size, show (⟨#[58]⟩ : ByteArray).size = 1 from rfl, show (⟨#[58, 32]⟩ : ByteArray).size = 2 from rfl] at h; omega)
              by_cases c32 : a0_2 > 0
              · rw [if_pos c32] at H
                have c32b0 : decide (0 < a0_2) = true := decide_eq_true c32
                clear c32
                replace H := Option.bind_eq_some_iff.mp H
                obtain ⟨t140, A330, H⟩ := H
                replace H : (if 1 + t140.size ≤ 9223372036854775807 then (if ((a0_0 ++ (⟨#[58]⟩ : ByteArray)) ++ t139).size + ((⟨#[58]⟩ : ByteArray) ++ t140).size ≤ 9223372036854775807 then ((impl_FaultText.f a0_0 a0_1 a0_2 a0_3).bind fun t141 => (if (((a0_0 ++ (⟨#[58]⟩ : ByteArray)) ++ t139) ++ ((⟨#[58]⟩ : ByteArray) ++ t140)).size + 2 ≤ 9223372036854775807 then (if ((((a0_0 ++ (⟨#[58]⟩ : ByteArray)) ++ t139) ++ ((⟨#[58]⟩ : ByteArray) ++ t140)) ++ (⟨#[58, 32]⟩ : ByteArray)).size + a0_3.size ≤ 9223372036854775807 then (some (t141.toList == (((((a0_0 ++ (⟨#[58]⟩ : ByteArray)) ++ t139) ++ ((⟨#[58]⟩ : ByteArray) ++ t140)) ++ (⟨#[58, 32]⟩ : ByteArray)) ++ a0_3).toList)) else (none)) else (none))) else (none)) else (none)) = some r := H
                have A33 := Aside0.mk A330
                clear A330
                by_cases c34 : 1 + t140.size ≤ 9223372036854775807
                · rw [if_pos c34] at H
                  have c34b0 := eq_true c34
                  have c34b1 : decide (1 + t140.size ≤ 9223372036854775807) = true := decide_eq_true c34
                  try have c34b2 : (9223372036854775807 < 1 + t140.size) = False := eq_false (Nat.not_lt.2 c34)
                  by_cases c35 : ((a0_0 ++ (⟨#[58]⟩ : ByteArray)) ++ t139).size + ((⟨#[58]⟩ : ByteArray) ++ t140).size ≤ 9223372036854775807
                  · rw [if_pos c35] at H
                    have c35b0 := eq_true c35
                    have c35b1 : decide (((a0_0 ++ (⟨#[58]⟩ : ByteArray)) ++ t139).size + ((⟨#[58]⟩ : ByteArray) ++ t140).size ≤ 9223372036854775807) = true := decide_eq_true c35
                    try have c35b2 : (9223372036854775807 < ((a0_0 ++ (⟨#[58]⟩ : ByteArray)) ++ t139).size + ((⟨#[58]⟩ : ByteArray) ++ t140).size) = False := eq_false (Nat.not_lt.2 c35)
                    have c35b3 : (9223372036854775807 < a0_0.size + 1 + t139.size + (1 + t140.size)) = False := eq_false (by have h := c35; simp only [app_size, show (⟨#[58]⟩ : ByteArray).size = 1 from rfl, show (⟨#[58, 32]⟩ : ByteArray).size = 2 from rfl] at h; omega)
                    replace H := Option.bind_eq_some_iff.mp H
                    obtain ⟨t141, A360, H⟩ := H
                    replace H : (if (((a0_0 ++ (⟨#[58]⟩ : ByteArray)) ++ t139) ++ ((⟨#[58]⟩ : ByteArray) ++ t140)).size + 2 ≤ 9223372036854775807 then (if ((((a0_0 ++ (⟨#[58]⟩ : ByteArray)) ++ t139) ++ ((⟨#[58]⟩ : ByteArray) ++ t140)) ++ (⟨#[58, 32]⟩ : ByteArray)).size + a0_3.size ≤ 9223372036854775807 then (some (t141.toList == (((((a0_0 ++ (⟨#[58]⟩ : ByteArray)) ++ t139) ++ ((⟨#[58]⟩ : ByteArray) ++ t140)) ++ (⟨#[58, 32]⟩ : ByteArray)) ++ a0_3).toList)) else (none)) else (none)) = some r := H
                    have A36 := Aside0.mk A360
                    clear A360
                    by_cases c37 : (((a0_0 ++ (⟨#[58]⟩ : ByteArray)) ++ t139) ++ ((⟨#[58]⟩ : ByteArray) ++ t140)).size + 2 ≤ 9223372036854775807
                    · rw [if_pos c37] at H
                      have c37b0 := eq_true c37
                      have c37b1 : decide ((((a0_0 ++ (⟨#[58]⟩ : ByteArray)) ++ t139) ++ ((⟨#[58]⟩ : ByteArray) ++ t140)).size + 2 ≤ 9223372036854775807) = true := decide_eq_true c37
                      try have c37b2 : (9223372036854775807 < (((a0_0 ++ (⟨#[58]⟩ : ByteArray)) ++ t139) ++ ((⟨#[58]⟩ : ByteArray) ++ t140)).size + 2) = False := eq_false (Nat.not_lt.2 c37)
                      have c37b3 : (9223372036854775807 < a0_0.size + 1 + t139.size + (1 + t140.size) + 2) = False := eq_false (by have h := c37; simp only [app_size, show (⟨#[58]⟩ : ByteArray).size = 1 from rfl, show (⟨#[58, 32]⟩ : ByteArray).size = 2 from rfl] at h; omega)
                      by_cases c38 : ((((a0_0 ++ (⟨#[58]⟩ : ByteArray)) ++ t139) ++ ((⟨#[58]⟩ : ByteArray) ++ t140)) ++ (⟨#[58, 32]⟩ : ByteArray)).size + a0_3.size ≤ 9223372036854775807
                      · rw [if_pos c38] at H
                        have c38b0 := eq_true c38
                        have c38b1 : decide (((((a0_0 ++ (⟨#[58]⟩ : ByteArray)) ++ t139) ++ ((⟨#[58]⟩ : ByteArray) ++ t140)) ++ (⟨#[58, 32]⟩ : ByteArray)).size + a0_3.size ≤ 9223372036854775807) = true := decide_eq_true c38
                        try have c38b2 : (9223372036854775807 < ((((a0_0 ++ (⟨#[58]⟩ : ByteArray)) ++ t139) ++ ((⟨#[58]⟩ : ByteArray) ++ t140)) ++ (⟨#[58, 32]⟩ : ByteArray)).size + a0_3.size) = False := eq_false (Nat.not_lt.2 c38)
                        have c38b3 : (9223372036854775807 < a0_0.size + 1 + t139.size + (1 + t140.size) + 2 + a0_3.size) = False := eq_false (by have h := c38; simp only [app_size, show (⟨#[58]⟩ : ByteArray).size = 1 from rfl, show (⟨#[58, 32]⟩ : ByteArray).size = 2 from rfl] at h; omega)
                        obtain rfl := Option.some.inj H
                        try go_wp2
                        have n0_ := Aside0.mk (blk_drew BK133.out)
                        have n1_ := Aside0.mk (below_drew1 HB.out)
                        clear BK133
                        clear HB
                        have BK133 := n0_
                        have HB := n1_
                        clear n0_ n1_
                        refine start_ (n := 8) (S := fun w' => w'.cell? ⟨gb133, 0, none⟩ = some (.string a0_0) ∧ w'.cell? ⟨gb133, 1, none⟩ = some (.int .i64 a0_1) ∧ w'.cell? ⟨gb133, 2, none⟩ = some (.int .i64 a0_2) ∧ w'.cell? ⟨gb133, 3, none⟩ = some (.string a0_3)) (ds := []) #[false, false, false, false, false, false, false, false] (by kernel_rfl) rfl rfl ⟨(blk_cell BK133.out 0).trans rfl, (blk_cell BK133.out 1).trans rfl, (blk_cell BK133.out 2).trans rfl, (blk_cell BK133.out 3).trans rfl⟩ (fun hHeld => ?_); refine with_tabW laws_FnFaultText.tab5 laws_FnFaultText.bits5 (fun HT_ HW_ => ?_)
                        generalize wc.drew = w39 at BK133 HB hHeld ⊢
                        refine pure_ (i := 0) (N := some 21) (v := ?_) (a' := ?_) #[true, false, false, false, false, false, false, false] rfl rfl (any_of HT_.out (by kernel_rfl)) (fun _ _ _ h => h) (Or.inl ⟨by rfl, ?_⟩) ?_ ?_
                        rotate_left
                        · intro w'
                          go_simp
                          with_reducible rfl
                        rotate_left
                        · simp only [Act.put, List.setIfInBounds_toArray, List.set_cons_zero, List.set_cons_succ, i64_w, i32_w]
                          rfl
                        refine pure_ (i := 3) (N := some 24) (v := ?_) (a' := ?_) #[true, false, false, true, false, false, false, false] rfl rfl (any_of HT_.out (by kernel_rfl)) (fun _ _ _ h => h) (Or.inl ⟨by rfl, ?_⟩) ?_ ?_
                        rotate_left
                        · intro w'
                          go_simp
                          with_reducible rfl
                        rotate_left
                        · simp only [Act.put, List.setIfInBounds_toArray, List.set_cons_zero, List.set_cons_succ, i64_w, i32_w]
                          rfl
                        refine take_ (i := 1) (N := some 22) (v := ?_) (a' := ?_) #[true, true, false, true, false, false, false, false] rfl rfl (take_ofW HT_.out HW_.out (by kernel_rfl)) (fun _ _ _ h => h) (Or.inl ⟨by rfl, ?_⟩) hHeld ?_ ?_
                        rotate_left
                        · rintro w' ⟨s0, s1, s2, s3⟩
                          go_simp
                          with_reducible rfl
                        rotate_left
                        · simp only [Act.put, List.setIfInBounds_toArray, List.set_cons_zero, List.set_cons_succ, i64_w, i32_w]
                          rfl
                        refine pure_ (i := 2) (N := some 23) (v := ?_) (a' := ?_) #[true, true, true, true, false, false, false, false] rfl rfl (any_of HT_.out (by kernel_rfl)) (fun _ _ _ h => h) (Or.inl ⟨by rfl, ?_⟩) ?_ ?_
                        rotate_left
                        · intro w'
                          go_simp
                          with_reducible rfl
                        rotate_left
                        · simp only [Act.put, List.setIfInBounds_toArray, List.set_cons_zero, List.set_cons_succ, i64_w, i32_w]
                          rfl
                        refine take_ (i := 4) (N := some 25) (v := ?_) (a' := ?_) #[true, true, true, true, true, false, false, false] rfl rfl (take_ofW HT_.out HW_.out (by kernel_rfl)) (fun _ _ _ h => h) (Or.inl ⟨by rfl, ?_⟩) hHeld ?_ ?_
                        rotate_left
                        · rintro w' ⟨s0, s1, s2, s3⟩
                          go_simp
                          with_reducible rfl
                        rotate_left
                        · simp only [Act.put, List.setIfInBounds_toArray, List.set_cons_zero, List.set_cons_succ, i64_w, i32_w]
                          rfl
                        refine one_ (i := 5) (N := some 26) #[true, true, true, true, true, true, false, false] rfl rfl (one_of HT_.out (by kernel_rfl)) (by decide) (fun K hK => ?_)
                        refine goes_ Tryf.func6 (by kernel_rfl) rfl #[.int .i64 a0_1] (by rfl) rfl rfl (by (try simp only [List.map_toArray, List.map_cons, List.map_nil]); first | done | rfl | (simp only [List.length_drop, List.length_take]; rfl)) ?_
                        with_reducible refine (strconv_Itoa_6.calls a0_1 t139 _ A30.out (henv _ (by repeat (first | (with_reducible first | exact HB.out | apply below_alloc | apply pw_below_drewN | apply below_drew1 | refine below_set ?_ GE133.out) | exact HB.out)))).mono ?_
                        rintro e w40 ⟨rfl, hb⟩
                        refine ⟨_, rfl, ?_⟩
                        have n0_ := Aside0.mk (blk_below (g := gb133) (o := .cells #[.string a0_0, .int .i64 a0_1, .int .i64 a0_2, .string a0_3] 23 (0, 0)) (by (with_reducible repeat (first | refine blk_drewN ?_ _ | refine blk_drew ?_ | refine blk_alloc ?_ _)); exact BK133.out) hb)
                        have n1_ := Aside0.mk (below_step (by repeat (first | (with_reducible first | exact HB.out | apply below_alloc | apply pw_below_drewN | apply below_drew1 | refine below_set ?_ GE133.out) | exact HB.out)) hb)
                        clear BK133
                        clear HB
                        have BK133 := n0_
                        have HB := n1_
                        clear n0_ n1_
                        (try clear hb)
                        (try clear hb2)
                        (try clear hk)
                        (try clear hi)
                        refine hK.out _ _ ⟨(blk_cell BK133.out 0).trans rfl, (blk_cell BK133.out 1).trans rfl, (blk_cell BK133.out 2).trans rfl, (blk_cell BK133.out 3).trans rfl⟩ (fun hHeld => ?_)
                        clear hK K
                        refine norm_ (a' := ?_) ?_ ?_
                        rotate_left
                        · show Act.put _ (some 26) _ = _
                          simp only [Act.put, List.setIfInBounds_toArray, List.set_cons_zero, List.set_cons_succ, i64_w, i32_w]
                          rfl
                        refine pure_ (i := 6) (N := some 27) (v := ?_) (a' := ?_) #[true, true, true, true, true, true, true, false] rfl rfl (any_of HT_.out (by kernel_rfl)) (fun _ _ _ h => h) (Or.inl ⟨by rfl, ?_⟩) ?_ ?_
                        rotate_left
                        · intro w'
                          go_simp
                          with_reducible rfl
                        rotate_left
                        · simp only [Act.put, List.setIfInBounds_toArray, List.set_cons_zero, List.set_cons_succ, i64_w, i32_w]
                          rfl
                        refine pure_ (i := 7) (N := some 3) (v := ?_) (a' := ?_) #[true, true, true, true, true, true, true, true] rfl rfl (any_of HT_.out (by kernel_rfl)) (fun _ _ _ h => h) (Or.inl ⟨by rfl, ?_⟩) ?_ ?_
                        rotate_left
                        · intro w'
                          go_simp
                          with_reducible rfl
                        rotate_left
                        · simp only [Act.put, List.setIfInBounds_toArray, List.set_cons_zero, List.set_cons_succ, i64_w, i32_w]
                          rfl
                        refine done_ (done_of HT_.out (by kernel_rfl)) ?_
                        have hcz41_0 : w40.cell? ⟨gb133, 0, none⟩ = some (.string a0_0) := (blk_cell BK133.out 0).trans rfl
                        have hcz41_1 : w40.cell? ⟨gb133, 1, none⟩ = some (.int .i64 a0_1) := (blk_cell BK133.out 1).trans rfl
                        have hcz41_2 : w40.cell? ⟨gb133, 2, none⟩ = some (.int .i64 a0_2) := (blk_cell BK133.out 2).trans rfl
                        have hcz41_3 : w40.cell? ⟨gb133, 3, none⟩ = some (.string a0_3) := (blk_cell BK133.out 3).trans rfl
                        have hfz41_0 := blk_frozen BK133.out 0
                        have hfz41_1 := blk_frozen BK133.out 1
                        have hfz41_2 := blk_frozen BK133.out 2
                        have hfz41_3 := blk_frozen BK133.out 3
                        try go_wp2_with (first | ((with_reducible refine gate_callee (f := 6) rfl ?_); refine goesL_ (some 34) rfl rfl Tryf.func6 (by kernel_rfl) rfl #[.int .i64 a0_2] rfl (by (try simp only [List.map_toArray, List.map_cons, List.map_nil]); first | done | rfl | (simp only [List.length_drop, List.length_take]; rfl)) ?_; (with_reducible refine (strconv_Itoa_6.calls a0_2 t140 _ A33.out (henv _ (by repeat (first | (with_reducible first | exact HB.out | apply below_alloc | apply pw_below_drewN | apply below_drew1 | refine below_set ?_ GE133.out) | exact HB.out)))).mono ?_); rintro e w42 ⟨rfl, hb⟩; refine ⟨_, rfl, ?_⟩; have n0_ := Aside0.mk (blk_below (g := gb133) (o := .cells #[.string a0_0, .int .i64 a0_1, .int .i64 a0_2, .string a0_3] 23 (0, 0)) (by (with_reducible repeat (first | refine blk_drewN ?_ _ | refine blk_drew ?_ | refine blk_alloc ?_ _)); exact BK133.out) hb); have n1_ := Aside0.mk (below_step (by repeat (first | (with_reducible first | exact HB.out | apply below_alloc | apply pw_below_drewN | apply below_drew1 | refine below_set ?_ GE133.out) | exact HB.out)) hb); clear BK133; clear HB; have BK133 := n0_; have HB := n1_; clear n0_ n1_; (try clear hb); (try clear hb2); (try clear hk); (try clear hi)))
                        have n0_ := Aside0.mk (blk_drew BK133.out)
                        have n1_ := Aside0.mk (below_drew1 HB.out)
                        clear BK133
                        clear HB
                        have BK133 := n0_
                        have HB := n1_
                        clear n0_ n1_
                        refine start_ (n := 9) (S := fun w' => w'.cell? ⟨gb133, 0, none⟩ = some (.string a0_0) ∧ w'.cell? ⟨gb133, 1, none⟩ = some (.int .i64 a0_1) ∧ w'.cell? ⟨gb133, 2, none⟩ = some (.int .i64 a0_2) ∧ w'.cell? ⟨gb133, 3, none⟩ = some (.string a0_3)) (ds := []) #[false, false, false, false, false, false, false, false, false] (by kernel_rfl) rfl rfl ⟨(blk_cell BK133.out 0).trans rfl, (blk_cell BK133.out 1).trans rfl, (blk_cell BK133.out 2).trans rfl, (blk_cell BK133.out 3).trans rfl⟩ (fun hHeld => ?_); refine with_tabW laws_FnFaultText.tab8 laws_FnFaultText.bits8 (fun HT_ HW_ => ?_)
                        generalize w42.drew = w43 at BK133 HB hHeld ⊢
                        refine pure_ (i := 2) (N := some 39) (v := ?_) (a' := ?_) #[false, false, true, false, false, false, false, false, false] rfl rfl (any_of HT_.out (by kernel_rfl)) (fun _ _ _ h => h) (Or.inl ⟨by rfl, ?_⟩) ?_ ?_
                        rotate_left
                        · intro w'
                          go_simp
                          with_reducible rfl
                        rotate_left
                        · simp only [Act.put, List.setIfInBounds_toArray, List.set_cons_zero, List.set_cons_succ, i64_w, i32_w]
                          rfl
                        refine pure_ (i := 3) (N := some 40) (v := ?_) (a' := ?_) #[false, false, true, true, false, false, false, false, false] rfl rfl (any_of HT_.out (by kernel_rfl)) (fun _ _ _ h => h) (Or.inl ⟨by rfl, ?_⟩) ?_ ?_
                        rotate_left
                        · intro w'
                          go_simp
                          with_reducible rfl
                        rotate_left
                        · simp only [Act.put, List.setIfInBounds_toArray, List.set_cons_zero, List.set_cons_succ, i64_w, i32_w]
                          rfl
                        refine pure_ (i := 4) (N := some 41) (v := ?_) (a' := ?_) #[false, false, true, true, true, false, false, false, false] rfl rfl (any_of HT_.out (by kernel_rfl)) (fun _ _ _ h => h) (Or.inl ⟨by rfl, ?_⟩) ?_ ?_
                        rotate_left
                        · intro w'
                          go_simp
                          with_reducible rfl
                        rotate_left
                        · simp only [Act.put, List.setIfInBounds_toArray, List.set_cons_zero, List.set_cons_succ, i64_w, i32_w]
                          rfl
                        refine take_ (i := 0) (N := some 37) (v := ?_) (a' := ?_) #[true, false, true, true, true, false, false, false, false] rfl rfl (take_ofW HT_.out HW_.out (by kernel_rfl)) (fun _ _ _ h => h) (Or.inl ⟨by rfl, ?_⟩) hHeld ?_ ?_
                        rotate_left
                        · rintro w' ⟨s0, s1, s2, s3⟩
                          go_simp
                          with_reducible rfl
                        rotate_left
                        · simp only [Act.put, List.setIfInBounds_toArray, List.set_cons_zero, List.set_cons_succ, i64_w, i32_w]
                          rfl
                        refine take_ (i := 5) (N := some 42) (v := ?_) (a' := ?_) #[true, false, true, true, true, true, false, false, false] rfl rfl (take_ofW HT_.out HW_.out (by kernel_rfl)) (fun _ _ _ h => h) (Or.inl ⟨by rfl, ?_⟩) hHeld ?_ ?_
                        rotate_left
                        · rintro w' ⟨s0, s1, s2, s3⟩
                          go_simp
                          with_reducible rfl
                        rotate_left
                        · simp only [Act.put, List.setIfInBounds_toArray, List.set_cons_zero, List.set_cons_succ, i64_w, i32_w]
                          rfl
                        refine pure_ (i := 6) (N := some 43) (v := ?_) (a' := ?_) #[true, false, true, true, true, true, true, false, false] rfl rfl (any_of HT_.out (by kernel_rfl)) (fun _ _ _ h => h) (Or.inl ⟨by rfl, ?_⟩) ?_ ?_
                        rotate_left
                        · intro w'
                          go_simp
                          with_reducible rfl
                        rotate_left
                        · simp only [Act.put, List.setIfInBounds_toArray, List.set_cons_zero, List.set_cons_succ, i64_w, i32_w]
                          rfl
                        refine one_ (i := 1) (N := some 38) #[true, true, true, true, true, true, true, false, false] rfl rfl (one_of HT_.out (by kernel_rfl)) (by decide) (fun K hK => ?_)
                        refine goes_ Tryf.func7 (by kernel_rfl) rfl #[.agg #[.string a0_0, .int .i64 a0_1, .int .i64 a0_2, .string a0_3]] (by rfl) rfl rfl (by (try simp only [List.map_toArray, List.map_cons, List.map_nil]); first | done | rfl | (simp only [List.length_drop, List.length_take]; rfl)) ?_
                        with_reducible refine (impl_FaultText.calls a0_0 a0_1 a0_2 a0_3 t141 _ A36.out (henv _ (by repeat (first | (with_reducible first | exact HB.out | apply below_alloc | apply pw_below_drewN | apply below_drew1 | refine below_set ?_ GE133.out) | exact HB.out)))).mono ?_
                        rintro e w44 ⟨rfl, hb⟩
                        refine ⟨_, rfl, ?_⟩
                        have n0_ := Aside0.mk (blk_below (g := gb133) (o := .cells #[.string a0_0, .int .i64 a0_1, .int .i64 a0_2, .string a0_3] 23 (0, 0)) (by (with_reducible repeat (first | refine blk_drewN ?_ _ | refine blk_drew ?_ | refine blk_alloc ?_ _)); exact BK133.out) hb)
                        have n1_ := Aside0.mk (below_step (by repeat (first | (with_reducible first | exact HB.out | apply below_alloc | apply pw_below_drewN | apply below_drew1 | refine below_set ?_ GE133.out) | exact HB.out)) hb)
                        clear BK133
                        clear HB
                        have BK133 := n0_
                        have HB := n1_
                        clear n0_ n1_
                        (try clear hb)
                        (try clear hb2)
                        (try clear hk)
                        (try clear hi)
                        refine hK.out _ _ ⟨(blk_cell BK133.out 0).trans rfl, (blk_cell BK133.out 1).trans rfl, (blk_cell BK133.out 2).trans rfl, (blk_cell BK133.out 3).trans rfl⟩ (fun hHeld => ?_)
                        clear hK K
                        refine norm_ (a' := ?_) ?_ ?_
                        rotate_left
                        · show Act.put _ (some 38) _ = _
                          simp only [Act.put, List.setIfInBounds_toArray, List.set_cons_zero, List.set_cons_succ, i64_w, i32_w]
                          rfl
                        refine pure_ (i := 7) (N := some 44) (v := ?_) (a' := ?_) #[true, true, true, true, true, true, true, true, false] rfl rfl (any_of HT_.out (by kernel_rfl)) (fun _ _ _ h => h) (Or.inl ⟨by rfl, ?_⟩) ?_ ?_
                        rotate_left
                        · intro w'
                          go_simp
                          with_reducible rfl
                        rotate_left
                        · simp only [Act.put, List.setIfInBounds_toArray, List.set_cons_zero, List.set_cons_succ, i64_w, i32_w]
                          rfl
                        refine pure_ (i := 8) (N := some 2) (v := ?_) (a' := ?_) #[true, true, true, true, true, true, true, true, true] rfl rfl (any_of HT_.out (by kernel_rfl)) (fun _ _ _ h => h) (Or.inl ⟨by rfl, ?_⟩) ?_ ?_
                        rotate_left
                        · intro w'
                          go_simp
                          with_reducible rfl
                        rotate_left
                        · simp only [Act.put, List.setIfInBounds_toArray, List.set_cons_zero, List.set_cons_succ, i64_w, i32_w]
                          rfl
                        refine done_ (done_of HT_.out (by kernel_rfl)) ?_
                        try go_wp2
                        go_ret
                        exact ⟨by first | rfl | (simp [errW_none, errW_some] <;> rfl) | (simp [*, errW_none, errW_some] <;> rfl), by repeat (first | (with_reducible first | exact HB.out | apply below_alloc | apply pw_below_drewN | apply below_drew1 | refine below_set ?_ GE133.out) | exact HB.out)⟩
                      · rw [if_neg c38] at H
                        exact absurd H (by simp)
                    · rw [if_neg c37] at H
                      exact absurd H (by simp)
                  · rw [if_neg c35] at H
                    exact absurd H (by simp)
                · rw [if_neg c34] at H
                  exact absurd H (by simp)
              · rw [if_neg c32] at H
                have c32b0 : decide (0 < a0_2) = false := decide_eq_false c32
                clear c32
                replace H := Option.bind_eq_some_iff.mp H
                obtain ⟨t142, A450, H⟩ := H
                replace H : (if ((a0_0 ++ (⟨#[58]⟩ : ByteArray)) ++ t139).size + 2 ≤ 9223372036854775807 then (if (((a0_0 ++ (⟨#[58]⟩ : ByteArray)) ++ t139) ++ (⟨#[58, 32]⟩ : ByteArray)).size + a0_3.size ≤ 9223372036854775807 then (some (t142.toList == ((((a0_0 ++ (⟨#[58]⟩ : ByteArray)) ++ t139) ++ (⟨#[58, 32]⟩ : ByteArray)) ++ a0_3).toList)) else (none)) else (none)) = some r := H
                have A45 := Aside0.mk A450
                clear A450
                by_cases c46 : ((a0_0 ++ (⟨#[58]⟩ : ByteArray)) ++ t139).size + 2 ≤ 9223372036854775807
                · rw [if_pos c46] at H
                  have c46b0 := eq_true c46
                  have c46b1 : decide (((a0_0 ++ (⟨#[58]⟩ : ByteArray)) ++ t139).size + 2 ≤ 9223372036854775807) = true := decide_eq_true c46
                  try have c46b2 : (9223372036854775807 < ((a0_0 ++ (⟨#[58]⟩ : ByteArray)) ++ t139).size + 2) = False := eq_false (Nat.not_lt.2 c46)
                  have c46b3 : (9223372036854775807 < a0_0.size + 1 + t139.size + 2) = False := eq_false (by have h := c46; simp only [app_size, show (⟨#[58]⟩ : ByteArray).size = 1 from rfl, show (⟨#[58, 32]⟩ : ByteArray).size = 2 from rfl] at h; omega)
                  by_cases c47 : (((a0_0 ++ (⟨#[58]⟩ : ByteArray)) ++ t139) ++ (⟨#[58, 32]⟩ : ByteArray)).size + a0_3.size ≤ 9223372036854775807
                  · rw [if_pos c47] at H
                    have c47b0 := eq_true c47
                    have c47b1 : decide ((((a0_0 ++ (⟨#[58]⟩ : ByteArray)) ++ t139) ++ (⟨#[58, 32]⟩ : ByteArray)).size + a0_3.size ≤ 9223372036854775807) = true := decide_eq_true c47
                    try have c47b2 : (9223372036854775807 < (((a0_0 ++ (⟨#[58]⟩ : ByteArray)) ++ t139) ++ (⟨#[58, 32]⟩ : ByteArray)).size + a0_3.size) = False := eq_false (Nat.not_lt.2 c47)
                    have c47b3 : (9223372036854775807 < a0_0.size + 1 + t139.size + 2 + a0_3.size) = False := eq_false (by have h := c47; simp only [app_size, show (⟨#[58]⟩ : ByteArray).size = 1 from rfl, show (⟨#[58, 32]⟩ : ByteArray).size = 2 from rfl] at h; omega)
                    obtain rfl := Option.some.inj H
                    try go_wp2
                    have n0_ := Aside0.mk (blk_drew BK133.out)
                    have n1_ := Aside0.mk (below_drew1 HB.out)
                    clear BK133
                    clear HB
                    have BK133 := n0_
                    have HB := n1_
                    clear n0_ n1_
                    refine start_ (n := 8) (S := fun w' => w'.cell? ⟨gb133, 0, none⟩ = some (.string a0_0) ∧ w'.cell? ⟨gb133, 1, none⟩ = some (.int .i64 a0_1) ∧ w'.cell? ⟨gb133, 2, none⟩ = some (.int .i64 a0_2) ∧ w'.cell? ⟨gb133, 3, none⟩ = some (.string a0_3)) (ds := []) #[false, false, false, false, false, false, false, false] (by kernel_rfl) rfl rfl ⟨(blk_cell BK133.out 0).trans rfl, (blk_cell BK133.out 1).trans rfl, (blk_cell BK133.out 2).trans rfl, (blk_cell BK133.out 3).trans rfl⟩ (fun hHeld => ?_); refine with_tabW laws_FnFaultText.tab5 laws_FnFaultText.bits5 (fun HT_ HW_ => ?_)
                    generalize wc.drew = w48 at BK133 HB hHeld ⊢
                    refine pure_ (i := 0) (N := some 21) (v := ?_) (a' := ?_) #[true, false, false, false, false, false, false, false] rfl rfl (any_of HT_.out (by kernel_rfl)) (fun _ _ _ h => h) (Or.inl ⟨by rfl, ?_⟩) ?_ ?_
                    rotate_left
                    · intro w'
                      go_simp
                      with_reducible rfl
                    rotate_left
                    · simp only [Act.put, List.setIfInBounds_toArray, List.set_cons_zero, List.set_cons_succ, i64_w, i32_w]
                      rfl
                    refine pure_ (i := 3) (N := some 24) (v := ?_) (a' := ?_) #[true, false, false, true, false, false, false, false] rfl rfl (any_of HT_.out (by kernel_rfl)) (fun _ _ _ h => h) (Or.inl ⟨by rfl, ?_⟩) ?_ ?_
                    rotate_left
                    · intro w'
                      go_simp
                      with_reducible rfl
                    rotate_left
                    · simp only [Act.put, List.setIfInBounds_toArray, List.set_cons_zero, List.set_cons_succ, i64_w, i32_w]
                      rfl
                    refine take_ (i := 1) (N := some 22) (v := ?_) (a' := ?_) #[true, true, false, true, false, false, false, false] rfl rfl (take_ofW HT_.out HW_.out (by kernel_rfl)) (fun _ _ _ h => h) (Or.inl ⟨by rfl, ?_⟩) hHeld ?_ ?_
                    rotate_left
                    · rintro w' ⟨s0, s1, s2, s3⟩
                      go_simp
                      with_reducible rfl
                    rotate_left
                    · simp only [Act.put, List.setIfInBounds_toArray, List.set_cons_zero, List.set_cons_succ, i64_w, i32_w]
                      rfl
                    refine pure_ (i := 2) (N := some 23) (v := ?_) (a' := ?_) #[true, true, true, true, false, false, false, false] rfl rfl (any_of HT_.out (by kernel_rfl)) (fun _ _ _ h => h) (Or.inl ⟨by rfl, ?_⟩) ?_ ?_
                    rotate_left
                    · intro w'
                      go_simp
                      with_reducible rfl
                    rotate_left
                    · simp only [Act.put, List.setIfInBounds_toArray, List.set_cons_zero, List.set_cons_succ, i64_w, i32_w]
                      rfl
                    refine take_ (i := 4) (N := some 25) (v := ?_) (a' := ?_) #[true, true, true, true, true, false, false, false] rfl rfl (take_ofW HT_.out HW_.out (by kernel_rfl)) (fun _ _ _ h => h) (Or.inl ⟨by rfl, ?_⟩) hHeld ?_ ?_
                    rotate_left
                    · rintro w' ⟨s0, s1, s2, s3⟩
                      go_simp
                      with_reducible rfl
                    rotate_left
                    · simp only [Act.put, List.setIfInBounds_toArray, List.set_cons_zero, List.set_cons_succ, i64_w, i32_w]
                      rfl
                    refine one_ (i := 5) (N := some 26) #[true, true, true, true, true, true, false, false] rfl rfl (one_of HT_.out (by kernel_rfl)) (by decide) (fun K hK => ?_)
                    refine goes_ Tryf.func6 (by kernel_rfl) rfl #[.int .i64 a0_1] (by rfl) rfl rfl (by (try simp only [List.map_toArray, List.map_cons, List.map_nil]); first | done | rfl | (simp only [List.length_drop, List.length_take]; rfl)) ?_
                    with_reducible refine (strconv_Itoa_6.calls a0_1 t139 _ A30.out (henv _ (by repeat (first | (with_reducible first | exact HB.out | apply below_alloc | apply pw_below_drewN | apply below_drew1 | refine below_set ?_ GE133.out) | exact HB.out)))).mono ?_
                    rintro e w49 ⟨rfl, hb⟩
                    refine ⟨_, rfl, ?_⟩
                    have n0_ := Aside0.mk (blk_below (g := gb133) (o := .cells #[.string a0_0, .int .i64 a0_1, .int .i64 a0_2, .string a0_3] 23 (0, 0)) (by (with_reducible repeat (first | refine blk_drewN ?_ _ | refine blk_drew ?_ | refine blk_alloc ?_ _)); exact BK133.out) hb)
                    have n1_ := Aside0.mk (below_step (by repeat (first | (with_reducible first | exact HB.out | apply below_alloc | apply pw_below_drewN | apply below_drew1 | refine below_set ?_ GE133.out) | exact HB.out)) hb)
                    clear BK133
                    clear HB
                    have BK133 := n0_
                    have HB := n1_
                    clear n0_ n1_
                    (try clear hb)
                    (try clear hb2)
                    (try clear hk)
                    (try clear hi)
                    refine hK.out _ _ ⟨(blk_cell BK133.out 0).trans rfl, (blk_cell BK133.out 1).trans rfl, (blk_cell BK133.out 2).trans rfl, (blk_cell BK133.out 3).trans rfl⟩ (fun hHeld => ?_)
                    clear hK K
                    refine norm_ (a' := ?_) ?_ ?_
                    rotate_left
                    · show Act.put _ (some 26) _ = _
                      simp only [Act.put, List.setIfInBounds_toArray, List.set_cons_zero, List.set_cons_succ, i64_w, i32_w]
                      rfl
                    refine pure_ (i := 6) (N := some 27) (v := ?_) (a' := ?_) #[true, true, true, true, true, true, true, false] rfl rfl (any_of HT_.out (by kernel_rfl)) (fun _ _ _ h => h) (Or.inl ⟨by rfl, ?_⟩) ?_ ?_
                    rotate_left
                    · intro w'
                      go_simp
                      with_reducible rfl
                    rotate_left
                    · simp only [Act.put, List.setIfInBounds_toArray, List.set_cons_zero, List.set_cons_succ, i64_w, i32_w]
                      rfl
                    refine pure_ (i := 7) (N := some 3) (v := ?_) (a' := ?_) #[true, true, true, true, true, true, true, true] rfl rfl (any_of HT_.out (by kernel_rfl)) (fun _ _ _ h => h) (Or.inl ⟨by rfl, ?_⟩) ?_ ?_
                    rotate_left
                    · intro w'
                      go_simp
                      with_reducible rfl
                    rotate_left
                    · simp only [Act.put, List.setIfInBounds_toArray, List.set_cons_zero, List.set_cons_succ, i64_w, i32_w]
                      rfl
                    refine done_ (done_of HT_.out (by kernel_rfl)) ?_
                    have hcz50_0 : w49.cell? ⟨gb133, 0, none⟩ = some (.string a0_0) := (blk_cell BK133.out 0).trans rfl
                    have hcz50_1 : w49.cell? ⟨gb133, 1, none⟩ = some (.int .i64 a0_1) := (blk_cell BK133.out 1).trans rfl
                    have hcz50_2 : w49.cell? ⟨gb133, 2, none⟩ = some (.int .i64 a0_2) := (blk_cell BK133.out 2).trans rfl
                    have hcz50_3 : w49.cell? ⟨gb133, 3, none⟩ = some (.string a0_3) := (blk_cell BK133.out 3).trans rfl
                    have hfz50_0 := blk_frozen BK133.out 0
                    have hfz50_1 := blk_frozen BK133.out 1
                    have hfz50_2 := blk_frozen BK133.out 2
                    have hfz50_3 := blk_frozen BK133.out 3
                    try go_wp2
                    have n0_ := Aside0.mk (blk_drew BK133.out)
                    have n1_ := Aside0.mk (below_drew1 HB.out)
                    clear BK133
                    clear HB
                    have BK133 := n0_
                    have HB := n1_
                    clear n0_ n1_
                    refine start_ (n := 9) (S := fun w' => w'.cell? ⟨gb133, 0, none⟩ = some (.string a0_0) ∧ w'.cell? ⟨gb133, 1, none⟩ = some (.int .i64 a0_1) ∧ w'.cell? ⟨gb133, 2, none⟩ = some (.int .i64 a0_2) ∧ w'.cell? ⟨gb133, 3, none⟩ = some (.string a0_3)) (ds := []) #[false, false, false, false, false, false, false, false, false] (by kernel_rfl) rfl rfl ⟨(blk_cell BK133.out 0).trans rfl, (blk_cell BK133.out 1).trans rfl, (blk_cell BK133.out 2).trans rfl, (blk_cell BK133.out 3).trans rfl⟩ (fun hHeld => ?_); refine with_tabW laws_FnFaultText.tab8 laws_FnFaultText.bits8 (fun HT_ HW_ => ?_)
                    generalize w49.drew = w51 at BK133 HB hHeld ⊢
                    refine pure_ (i := 2) (N := some 39) (v := ?_) (a' := ?_) #[false, false, true, false, false, false, false, false, false] rfl rfl (any_of HT_.out (by kernel_rfl)) (fun _ _ _ h => h) (Or.inl ⟨by rfl, ?_⟩) ?_ ?_
                    rotate_left
                    · intro w'
                      go_simp
                      with_reducible rfl
                    rotate_left
                    · simp only [Act.put, List.setIfInBounds_toArray, List.set_cons_zero, List.set_cons_succ, i64_w, i32_w]
                      rfl
                    refine pure_ (i := 3) (N := some 40) (v := ?_) (a' := ?_) #[false, false, true, true, false, false, false, false, false] rfl rfl (any_of HT_.out (by kernel_rfl)) (fun _ _ _ h => h) (Or.inl ⟨by rfl, ?_⟩) ?_ ?_
                    rotate_left
                    · intro w'
                      go_simp
                      with_reducible rfl
                    rotate_left
                    · simp only [Act.put, List.setIfInBounds_toArray, List.set_cons_zero, List.set_cons_succ, i64_w, i32_w]
                      rfl
                    refine pure_ (i := 4) (N := some 41) (v := ?_) (a' := ?_) #[false, false, true, true, true, false, false, false, false] rfl rfl (any_of HT_.out (by kernel_rfl)) (fun _ _ _ h => h) (Or.inl ⟨by rfl, ?_⟩) ?_ ?_
                    rotate_left
                    · intro w'
                      go_simp
                      with_reducible rfl
                    rotate_left
                    · simp only [Act.put, List.setIfInBounds_toArray, List.set_cons_zero, List.set_cons_succ, i64_w, i32_w]
                      rfl
                    refine take_ (i := 0) (N := some 37) (v := ?_) (a' := ?_) #[true, false, true, true, true, false, false, false, false] rfl rfl (take_ofW HT_.out HW_.out (by kernel_rfl)) (fun _ _ _ h => h) (Or.inl ⟨by rfl, ?_⟩) hHeld ?_ ?_
                    rotate_left
                    · rintro w' ⟨s0, s1, s2, s3⟩
                      go_simp
                      with_reducible rfl
                    rotate_left
                    · simp only [Act.put, List.setIfInBounds_toArray, List.set_cons_zero, List.set_cons_succ, i64_w, i32_w]
                      rfl
                    refine take_ (i := 5) (N := some 42) (v := ?_) (a' := ?_) #[true, false, true, true, true, true, false, false, false] rfl rfl (take_ofW HT_.out HW_.out (by kernel_rfl)) (fun _ _ _ h => h) (Or.inl ⟨by rfl, ?_⟩) hHeld ?_ ?_
                    rotate_left
                    · rintro w' ⟨s0, s1, s2, s3⟩
                      go_simp
                      with_reducible rfl
                    rotate_left
                    · simp only [Act.put, List.setIfInBounds_toArray, List.set_cons_zero, List.set_cons_succ, i64_w, i32_w]
                      rfl
                    refine pure_ (i := 6) (N := some 43) (v := ?_) (a' := ?_) #[true, false, true, true, true, true, true, false, false] rfl rfl (any_of HT_.out (by kernel_rfl)) (fun _ _ _ h => h) (Or.inl ⟨by rfl, ?_⟩) ?_ ?_
                    rotate_left
                    · intro w'
                      go_simp
                      with_reducible rfl
                    rotate_left
                    · simp only [Act.put, List.setIfInBounds_toArray, List.set_cons_zero, List.set_cons_succ, i64_w, i32_w]
                      rfl
                    refine one_ (i := 1) (N := some 38) #[true, true, true, true, true, true, true, false, false] rfl rfl (one_of HT_.out (by kernel_rfl)) (by decide) (fun K hK => ?_)
                    refine goes_ Tryf.func7 (by kernel_rfl) rfl #[.agg #[.string a0_0, .int .i64 a0_1, .int .i64 a0_2, .string a0_3]] (by rfl) rfl rfl (by (try simp only [List.map_toArray, List.map_cons, List.map_nil]); first | done | rfl | (simp only [List.length_drop, List.length_take]; rfl)) ?_
                    with_reducible refine (impl_FaultText.calls a0_0 a0_1 a0_2 a0_3 t142 _ A45.out (henv _ (by repeat (first | (with_reducible first | exact HB.out | apply below_alloc | apply pw_below_drewN | apply below_drew1 | refine below_set ?_ GE133.out) | exact HB.out)))).mono ?_
                    rintro e w52 ⟨rfl, hb⟩
                    refine ⟨_, rfl, ?_⟩
                    have n0_ := Aside0.mk (blk_below (g := gb133) (o := .cells #[.string a0_0, .int .i64 a0_1, .int .i64 a0_2, .string a0_3] 23 (0, 0)) (by (with_reducible repeat (first | refine blk_drewN ?_ _ | refine blk_drew ?_ | refine blk_alloc ?_ _)); exact BK133.out) hb)
                    have n1_ := Aside0.mk (below_step (by repeat (first | (with_reducible first | exact HB.out | apply below_alloc | apply pw_below_drewN | apply below_drew1 | refine below_set ?_ GE133.out) | exact HB.out)) hb)
                    clear BK133
                    clear HB
                    have BK133 := n0_
                    have HB := n1_
                    clear n0_ n1_
                    (try clear hb)
                    (try clear hb2)
                    (try clear hk)
                    (try clear hi)
                    refine hK.out _ _ ⟨(blk_cell BK133.out 0).trans rfl, (blk_cell BK133.out 1).trans rfl, (blk_cell BK133.out 2).trans rfl, (blk_cell BK133.out 3).trans rfl⟩ (fun hHeld => ?_)
                    clear hK K
                    refine norm_ (a' := ?_) ?_ ?_
                    rotate_left
                    · show Act.put _ (some 38) _ = _
                      simp only [Act.put, List.setIfInBounds_toArray, List.set_cons_zero, List.set_cons_succ, i64_w, i32_w]
                      rfl
                    refine pure_ (i := 7) (N := some 44) (v := ?_) (a' := ?_) #[true, true, true, true, true, true, true, true, false] rfl rfl (any_of HT_.out (by kernel_rfl)) (fun _ _ _ h => h) (Or.inl ⟨by rfl, ?_⟩) ?_ ?_
                    rotate_left
                    · intro w'
                      go_simp
                      with_reducible rfl
                    rotate_left
                    · simp only [Act.put, List.setIfInBounds_toArray, List.set_cons_zero, List.set_cons_succ, i64_w, i32_w]
                      rfl
                    refine pure_ (i := 8) (N := some 2) (v := ?_) (a' := ?_) #[true, true, true, true, true, true, true, true, true] rfl rfl (any_of HT_.out (by kernel_rfl)) (fun _ _ _ h => h) (Or.inl ⟨by rfl, ?_⟩) ?_ ?_
                    rotate_left
                    · intro w'
                      go_simp
                      with_reducible rfl
                    rotate_left
                    · simp only [Act.put, List.setIfInBounds_toArray, List.set_cons_zero, List.set_cons_succ, i64_w, i32_w]
                      rfl
                    refine done_ (done_of HT_.out (by kernel_rfl)) ?_
                    try go_wp2
                    go_ret
                    exact ⟨by first | rfl | (simp [errW_none, errW_some] <;> rfl) | (simp [*, errW_none, errW_some] <;> rfl), by repeat (first | (with_reducible first | exact HB.out | apply below_alloc | apply pw_below_drewN | apply below_drew1 | refine below_set ?_ GE133.out) | exact HB.out)⟩
                  · rw [if_neg c47] at H
                    exact absurd H (by simp)
                · rw [if_neg c46] at H
                  exact absurd H (by simp)
            · rw [if_neg c31] at H
              exact absurd H (by simp)
          · rw [if_neg c29] at H
            exact absurd H (by simp)
  · replace c3 := Bool.eq_false_iff.mpr c3
    subst c3
    have H1 : (some true) = some r := by rw [if_neg (show ¬ (false = true) by decide)] at H; exact H
    clear H
    have H := H1
    clear H1
    obtain rfl := Option.some.inj H
    go_enter Tryf.func3, Tryf.ntmps3
    go_wp2_with (first | ((with_reducible refine gate_dst (N := 1) rfl ?_); refine box_event ?hg (N := 1) ?hd (cs := #[.string a0_0, .int .i64 a0_1, .int .i64 a0_2, .string a0_3]) (t := 23) ?hr ?_; (case hd => rfl); (case hg => rfl); (case hr => first | (go_simp; done) | (go_simp; rfl)); intro gb133 hg w53 hbox hb; have n0_ := Aside0.mk (below_step (by repeat (first | (with_reducible first | exact HB.out | apply below_alloc | apply pw_below_drewN | apply below_drew1) | exact HB.out)) hb); have n1_ := Aside0.mk (hbox); have n2_ := Aside0.mk ((by rw [hg]; exact (below_size (by repeat (first | (with_reducible first | exact HB.out | apply below_alloc | apply pw_below_drewN | apply below_drew1) | exact HB.out))) : w.heap.size ≤ gb133)); have n3_ := Aside0.mk ((by rw [hg]; exact (below_size (by repeat (first | (with_reducible first | exact HB.out | apply below_alloc | apply pw_below_drewN | apply below_drew1) | exact HB.out))) : w.heap.size ≤ gb133)); clear HB; have HB := n0_; have BK133 := n1_; have GW133 := n2_; have GE133 := n3_; clear n0_ n1_ n2_ n3_; clear hb hbox hg; have hcz54_0 : w53.cell? ⟨gb133, 0, none⟩ = some (.string a0_0) := (blk_cell BK133.out 0).trans rfl; have hcz54_1 : w53.cell? ⟨gb133, 1, none⟩ = some (.int .i64 a0_1) := (blk_cell BK133.out 1).trans rfl; have hcz54_2 : w53.cell? ⟨gb133, 2, none⟩ = some (.int .i64 a0_2) := (blk_cell BK133.out 2).trans rfl; have hcz54_3 : w53.cell? ⟨gb133, 3, none⟩ = some (.string a0_3) := (blk_cell BK133.out 3).trans rfl; have hfz54_0 := blk_frozen BK133.out 0; have hfz54_1 := blk_frozen BK133.out 1; have hfz54_2 := blk_frozen BK133.out 2; have hfz54_3 := blk_frozen BK133.out 3) | ((with_reducible refine gate_callee (f := 4) rfl ?_); refine goesL_ (some 5) rfl rfl Tryf.func4 (by kernel_rfl) rfl #[.agg #[.string a0_0, .int .i64 a0_1, .int .i64 a0_2, .string a0_3]] rfl (by (try simp only [List.map_toArray, List.map_cons, List.map_nil]); first | done | rfl | (simp only [List.length_drop, List.length_take]; rfl)) ?_; (with_reducible refine (laws_zzFits5.calls a0_0 a0_1 a0_2 a0_3 false _ A2.out).mono ?_); rintro e w55 ⟨rfl, hb⟩; refine ⟨_, rfl, ?_⟩; have n0_ := Aside0.mk (blk_below (g := gb133) (o := .cells #[.string a0_0, .int .i64 a0_1, .int .i64 a0_2, .string a0_3] 23 (0, 0)) (by (with_reducible repeat (first | refine blk_drewN ?_ _ | refine blk_drew ?_ | refine blk_alloc ?_ _)); exact BK133.out) hb); have n1_ := Aside0.mk (below_step (by repeat (first | (with_reducible first | exact HB.out | apply below_alloc | apply pw_below_drewN | apply below_drew1 | refine below_set ?_ GE133.out) | exact HB.out)) hb); clear BK133; clear HB; have BK133 := n0_; have HB := n1_; clear n0_ n1_; (try clear hb); (try clear hb2); (try clear hk); (try clear hi)))
    go_ret
    exact ⟨by first | rfl | (simp [errW_none, errW_some] <;> rfl) | (simp [*, errW_none, errW_some] <;> rfl), by repeat (first | (with_reducible first | exact HB.out | apply below_alloc | apply pw_below_drewN | apply below_drew1 | refine below_set ?_ GE133.out) | exact HB.out)⟩

end Go.Proofs.YtdmeackaiamkcaaFmt.A
