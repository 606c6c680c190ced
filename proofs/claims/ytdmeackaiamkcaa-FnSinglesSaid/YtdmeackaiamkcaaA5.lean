-- Written by a program of this session (gprint.py) out of the kit's print of the translation. Not trusted: Lean checks it.
import Derived.Test.YtdmeackaiamkcaaA0
import Derived.Test.YtdmeackaiamkcaaA2
import Derived.Test.YtdmeackaiamkcaaA4
import Derived.Test.YtdmeackaiamkcaaGSort
namespace Go.Proofs.Ytdmeackaiamkcaa.A
open Go.RowKit Go.Proofs.YtdmeackaiamkcaaW.PrintWords Go.Proofs.YtdmeackaiamkcaaW.PrintLast Go.Proofs.YtdmeackaiamkcaaW.PrintMore
attribute [local go_sem] max2_int min2_int max_two min_two max_three min_three max_four min_four   -- for this text's walks alone
set_option linter.unusedVariables false
set_option linter.unusedSimpArgs false

/-! ### laws_isSorted9: function 18 -/
def laws_isSorted9.l0 : Nat → List (S26) → Int → Option (Bool)
  | 0, _, _ => none
  | k + 1, x0, x3 => if x3 < (x0.length : Int) then (if 0 ≤ x3 then (if 0 ≤ (wrap64 (x3 - 1)) then (if (wrap64 (x3 - 1)) < (x0.length : Int) then ((laws_before9.f ((rd_T26 x0 x3).f0) ((rd_T26 x0 x3).f1) ((rd_T26 x0 x3).f2) ((rd_T26 x0 x3).f3) ((rd_T26 x0 (wrap64 (x3 - 1))).f0) ((rd_T26 x0 (wrap64 (x3 - 1))).f1) ((rd_T26 x0 (wrap64 (x3 - 1))).f2) ((rd_T26 x0 (wrap64 (x3 - 1))).f3)).bind fun t143 => (if t143 = true then (some false) else (laws_isSorted9.l0 k x0 (wrap64 (x3 + 1))))) else (none)) else (none)) else (none)) else (some true)
def laws_isSorted9.f (k : Nat) (l0 : List (S26)) : Option (Bool) := laws_isSorted9.l0 k l0 1
theorem laws_isSorted9.mono_l : ∀ k, (∀ y0 y1, LeO (laws_isSorted9.l0 k y0 y1) (laws_isSorted9.l0 (k + 1) y0 y1))
  | 0 => fun _ _ r h => by simp [laws_isSorted9.l0] at h
  | k + 1 => by
    have ih0 := laws_isSorted9.mono_l k
    · intro y0 y1
      unfold laws_isSorted9.l0
      repeat' first
      | (with_reducible exact ih0 _ _)
      | (with_reducible exact LeO.refl _)
      | (with_reducible exact LeO.none _)
      | (with_reducible refine LeO.ite ?_ ?_)
      | (with_reducible refine LeO.bind ?_ (fun _ => ?_))
      | exact ih0 _ _
      | exact LeO.none _
      | refine LeO.ite ?_ ?_
      | refine LeO.bind ?_ (fun _ => ?_)
theorem laws_isSorted9.mono : ∀ a0 k, LeO (laws_isSorted9.f k a0) (laws_isSorted9.f (k + 1) a0) := by
  intro a0 k
  have ih0 := laws_isSorted9.mono_l k
  unfold laws_isSorted9.f
  repeat' first
      | (with_reducible exact ih0 _ _)
      | (with_reducible exact LeO.refl _)
      | (with_reducible exact LeO.none _)
      | (with_reducible refine LeO.ite ?_ ?_)
      | (with_reducible refine LeO.bind ?_ (fun _ => ?_))
      | exact ih0 _ _
      | exact LeO.none _
      | refine LeO.ite ?_ ?_
      | refine LeO.bind ?_ (fun _ => ?_)
def laws_isSorted9.T4 : Bool × List (List Nat × List Nat) := (true, [([], []), ([], []), ([0, 1], [0, 1]), ([2], [2]), ([], []), ([], []), ([5], [5]), ([4, 6], [4, 6]), ([7], [7]), ([3, 8], [3, 8])])
def laws_isSorted9.B4 : List Nat := [0, 0, 3, 7, 0, 0, 32, 112, 240, 511]
theorem laws_isSorted9.tab4 : rtab .any (opsOf Try.f18 4) = laws_isSorted9.T4 := by kernel_rfl
theorem laws_isSorted9.bits4 : waitsOk laws_isSorted9.T4.2 laws_isSorted9.B4 = true := by kernel_rfl
set_option maxHeartbeats 8000000 in
set_option maxRecDepth 100000 in
theorem laws_isSorted9.calls (k : Nat) (A0 : Option Addr) (c0 : Nat) (l0 : List (S26)) (r : Bool) (w : World) (hr0 : Kd.C k26 w A0 l0.length l0) (hc0 : l0.length ≤ c0) (h : laws_isSorted9.f k l0 = some r) :
    Calls Try.prog 18 #[.slice A0 l0.length c0] w fun e w' => e = .returned (.bool r) ∧ Below w.heap.size w w' := by
  have hu26 := Try.underlying26
  have HR0 := Aside0.mk hr0
  have HC0 := Aside0.mk hc0
  clear hr0 hc0
  have HB := Aside0.mk (Below.refl w.heap.size w)
  have H : (laws_isSorted9.l0 k l0 1) = some r := h
  clear h
  have H' := Aside0.mk H
  clear H
  go_enter Try.func18, Try.ntmps18
  go_wp2
  go_loopg [3] k (fun kq v3 w' => ∃ (x3_1 : Int), v3 = .int .i64 x3_1 ∧ Aside0 (laws_isSorted9.l0 kq l0 x3_1 = some r) ∧ Aside0 (kq ≤ k) ∧ Aside0 (Below w.heap.size w w'))
  case atStart => exact ⟨(1), (by first | rfl | (simp; done) | (simp [*]; done)), H', ⟨Nat.le_refl _⟩, ⟨by repeat (first | (with_reducible first | exact HB.out | apply below_alloc | apply pw_below_drewN | apply below_drew1) | exact HB.out)⟩⟩
  case round =>
    clear H'
    try clear c1
    obtain ⟨x3_1, rfl, HA, HK1, HB⟩ := hrel
    cases gk with
    | zero => exact absurd HA.out (by simp [laws_isSorted9.l0])
    | succ k1 =>
      have H := HA.out
      clear HA
      simp only [laws_isSorted9.l0] at H
      by_cases c2 : x3_1 < (l0.length : Int)
      · rw [if_pos c2] at H
        have c2b0 : decide (x3_1 < (l0.length : Int)) = true := decide_eq_true c2
        clear c2
        by_cases c3 : 0 ≤ x3_1
        · rw [if_pos c3] at H
          have c3b0 : decide (0 ≤ x3_1) = true := decide_eq_true c3
          clear c3
          obtain ⟨ji4, hji4⟩ : ∃ j_ : Int, (wrap64 (x3_1 - 1)) = j_ := ⟨_, rfl⟩
          replace H : (if 0 ≤ (ji4) then (if (ji4) < (l0.length : Int) then ((laws_before9.f ((rd_T26 l0 x3_1).f0) ((rd_T26 l0 x3_1).f1) ((rd_T26 l0 x3_1).f2) ((rd_T26 l0 x3_1).f3) ((rd_T26 l0 (ji4)).f0) ((rd_T26 l0 (ji4)).f1) ((rd_T26 l0 (ji4)).f2) ((rd_T26 l0 (ji4)).f3)).bind fun t143 => (if t143 = true then (some false) else (laws_isSorted9.l0 k1 l0 (wrap64 (x3_1 + 1))))) else (none)) else (none)) = some r := by first | (rw [hji4] at H; exact H) | (simp only [hji4] at H ⊢; exact H)
          have hji4w : (IntKind.i64.wrap (x3_1 - 1)) = ji4 := (i64_w _).trans hji4
          by_cases c5 : 0 ≤ (ji4)
          · rw [if_pos c5] at H
            have c5b0 : decide (0 ≤ (ji4)) = true := decide_eq_true c5
            clear c5
            by_cases c6 : (ji4) < (l0.length : Int)
            · rw [if_pos c6] at H
              have c6b0 : decide ((ji4) < (l0.length : Int)) = true := decide_eq_true c6
              clear c6
              replace H := Option.bind_eq_some_iff.mp H
              obtain ⟨t143, A70, H⟩ := H
              replace H : (if t143 = true then (some false) else (laws_isSorted9.l0 k1 l0 (wrap64 (x3_1 + 1)))) = some r := H
              have A7 := Aside0.mk A70
              clear A70
              by_cases c8 : t143 = true
              · subst c8
                have H1 : (some false) = some r := by rw [if_pos rfl] at H; exact H
                clear H
                have H := H1
                clear H1
                obtain rfl := Option.some.inj H
                try go_wp2
                have n0_ := Aside0.mk (below_drew1 HB.out)
                clear HB
                have HB := n0_
                clear n0_
                have p141 : 0 ≤ (x3_1 : Int) := of_decide_eq_true (by first | (with_reducible assumption) | assumption)
                have q141 : x3_1 < (l0.length : Int) := of_decide_eq_true (by first | (with_reducible assumption) | assumption)
                obtain ⟨ad141, e141, hx141_0, hx141_1, hx141_2, hx141_3⟩ := at_T26 HR0.out x3_1 p141 q141
                have hw141_3 := hx141_3
                have hw141_2 := hx141_2
                have hw141_1 := hx141_1
                have hw141_0 := hx141_0
                cases e141
                replace hx141_0 := (HB.out.cell (World.block_lt_of_cell? w _ hx141_0)).trans hx141_0
                replace hx141_1 := (HB.out.cell (World.block_lt_of_cell? w _ hx141_1)).trans hx141_1
                replace hx141_2 := (HB.out.cell (World.block_lt_of_cell? w _ hx141_2)).trans hx141_2
                replace hx141_3 := (HB.out.cell (World.block_lt_of_cell? w _ hx141_3)).trans hx141_3
                replace p141 := eq_true p141
                replace q141 := eq_true q141
                have p142 : 0 ≤ ((ji4) : Int) := of_decide_eq_true (by first | (with_reducible assumption) | assumption)
                have q142 : (ji4) < (l0.length : Int) := of_decide_eq_true (by first | (with_reducible assumption) | assumption)
                obtain ⟨ad142, e142, hx142_0, hx142_1, hx142_2, hx142_3⟩ := at_T26 HR0.out (ji4) p142 q142
                have hw142_3 := hx142_3
                have hw142_2 := hx142_2
                have hw142_1 := hx142_1
                have hw142_0 := hx142_0
                obtain rfl : ad141 = ad142 := (by injection e142)
                replace hx142_0 := (HB.out.cell (World.block_lt_of_cell? w _ hx142_0)).trans hx142_0
                replace hx142_1 := (HB.out.cell (World.block_lt_of_cell? w _ hx142_1)).trans hx142_1
                replace hx142_2 := (HB.out.cell (World.block_lt_of_cell? w _ hx142_2)).trans hx142_2
                replace hx142_3 := (HB.out.cell (World.block_lt_of_cell? w _ hx142_3)).trans hx142_3
                replace p142 := eq_true p142
                replace q142 := eq_true q142
                refine start_ (n := 10) (S := fun w' => w'.cell? (ad141.add ((x3_1).toNat * 4)) = some (.string ((rd_T26 l0 x3_1).f0)) ∧ w'.cell? ⟨(ad141.add ((x3_1).toNat * 4)).block, (ad141.add ((x3_1).toNat * 4)).off + 1, none⟩ = some (.int .i64 ((rd_T26 l0 x3_1).f1)) ∧ w'.cell? ⟨(ad141.add ((x3_1).toNat * 4)).block, (ad141.add ((x3_1).toNat * 4)).off + 2, none⟩ = some (.int .i64 ((rd_T26 l0 x3_1).f2)) ∧ w'.cell? ⟨(ad141.add ((x3_1).toNat * 4)).block, (ad141.add ((x3_1).toNat * 4)).off + 3, none⟩ = some (.string ((rd_T26 l0 x3_1).f3)) ∧ w'.cell? (ad141.add (((ji4)).toNat * 4)) = some (.string ((rd_T26 l0 (ji4)).f0)) ∧ w'.cell? ⟨(ad141.add (((ji4)).toNat * 4)).block, (ad141.add (((ji4)).toNat * 4)).off + 1, none⟩ = some (.int .i64 ((rd_T26 l0 (ji4)).f1)) ∧ w'.cell? ⟨(ad141.add (((ji4)).toNat * 4)).block, (ad141.add (((ji4)).toNat * 4)).off + 2, none⟩ = some (.int .i64 ((rd_T26 l0 (ji4)).f2)) ∧ w'.cell? ⟨(ad141.add (((ji4)).toNat * 4)).block, (ad141.add (((ji4)).toNat * 4)).off + 3, none⟩ = some (.string ((rd_T26 l0 (ji4)).f3))) (ds := []) #[false, false, false, false, false, false, false, false, false, false] (by kernel_rfl) rfl rfl ⟨((HB.out.cell (World.block_lt_of_cell? w _ hw141_0)).trans hw141_0), ((HB.out.cell (World.block_lt_of_cell? w _ hw141_1)).trans hw141_1), ((HB.out.cell (World.block_lt_of_cell? w _ hw141_2)).trans hw141_2), ((HB.out.cell (World.block_lt_of_cell? w _ hw141_3)).trans hw141_3), ((HB.out.cell (World.block_lt_of_cell? w _ hw142_0)).trans hw142_0), ((HB.out.cell (World.block_lt_of_cell? w _ hw142_1)).trans hw142_1), ((HB.out.cell (World.block_lt_of_cell? w _ hw142_2)).trans hw142_2), ((HB.out.cell (World.block_lt_of_cell? w _ hw142_3)).trans hw142_3)⟩ (fun hHeld => ?_); refine with_tabW laws_isSorted9.tab4 laws_isSorted9.bits4 (fun HT_ HW_ => ?_)
                generalize wr.drew = w9 at HB hx141_0 hx141_1 hx141_2 hx141_3 hx142_0 hx142_1 hx142_2 hx142_3 hHeld ⊢
                refine pure_ (i := 0) (N := some 10) (v := ?_) (a' := ?_) #[true, false, false, false, false, false, false, false, false, false] rfl rfl (any_of HT_.out (by kernel_rfl)) (fun _ _ _ h => h) (Or.inl ⟨by rfl, ?_⟩) ?_ ?_
                rotate_left
                · intro w'
                  go_simp
                  with_reducible rfl
                rotate_left
                · simp only [Act.put, List.setIfInBounds_toArray, List.set_cons_zero, List.set_cons_succ, i64_w, i32_w]
                  rfl
                refine pure_ (i := 1) (N := some 11) (v := ?_) (a' := ?_) #[true, true, false, false, false, false, false, false, false, false] rfl rfl (any_of HT_.out (by kernel_rfl)) (fun _ _ _ h => h) (Or.inl ⟨by rfl, ?_⟩) ?_ ?_
                rotate_left
                · intro w'
                  go_simp
                  with_reducible rfl
                rotate_left
                · simp only [Act.put, List.setIfInBounds_toArray, List.set_cons_zero, List.set_cons_succ, i64_w, i32_w]
                  rfl
                refine pure_ (i := 2) (N := some 12) (v := ?_) (a' := ?_) #[true, true, true, false, false, false, false, false, false, false] rfl rfl (any_of HT_.out (by kernel_rfl)) (fun _ _ _ h => h) (Or.inl ⟨by rfl, ?_⟩) ?_ ?_
                rotate_left
                · intro w'
                  go_simp
                  with_reducible rfl
                rotate_left
                · simp only [Act.put, List.setIfInBounds_toArray, List.set_cons_zero, List.set_cons_succ, i64_w, i32_w]
                  rfl
                refine pure_ (i := 4) (N := some 14) (v := ?_) (a' := ?_) #[true, true, true, false, true, false, false, false, false, false] rfl rfl (any_of HT_.out (by kernel_rfl)) (fun _ _ _ h => h) (Or.inl ⟨by rfl, ?_⟩) ?_ ?_
                rotate_left
                · intro w'
                  go_simp
                  with_reducible rfl
                rotate_left
                · simp only [Act.put, List.setIfInBounds_toArray, List.set_cons_zero, List.set_cons_succ, i64_w, i32_w]
                  rfl
                refine pure_ (i := 5) (N := some 15) (v := ?_) (a' := ?_) #[true, true, true, false, true, true, false, false, false, false] rfl rfl (any_of HT_.out (by kernel_rfl)) (fun _ _ _ h => h) (Or.inl ⟨by rfl, ?_⟩) ?_ ?_
                rotate_left
                · intro w'
                  go_simp
                  with_reducible rfl
                rotate_left
                · simp only [Act.put, List.setIfInBounds_toArray, List.set_cons_zero, List.set_cons_succ, i64_w, i32_w]
                  rfl
                refine pure_ (i := 6) (N := some 16) (v := ?_) (a' := ?_) #[true, true, true, false, true, true, true, false, false, false] rfl rfl (any_of HT_.out (by kernel_rfl)) (fun _ _ _ h => h) (Or.inl ⟨by rfl, ?_⟩) ?_ ?_
                rotate_left
                · intro w'
                  go_simp
                  with_reducible rfl
                rotate_left
                · simp only [Act.put, List.setIfInBounds_toArray, List.set_cons_zero, List.set_cons_succ, i64_w, i32_w]
                  rfl
                refine pure_ (i := 7) (N := some 17) (v := ?_) (a' := ?_) #[true, true, true, false, true, true, true, true, false, false] rfl rfl (any_of HT_.out (by kernel_rfl)) (fun _ _ _ h => h) (Or.inl ⟨by rfl, ?_⟩) ?_ ?_
                rotate_left
                · intro w'
                  go_simp
                  with_reducible rfl
                rotate_left
                · simp only [Act.put, List.setIfInBounds_toArray, List.set_cons_zero, List.set_cons_succ, i64_w, i32_w]
                  rfl
                refine take_ (i := 3) (N := some 13) (v := ?_) (a' := ?_) #[true, true, true, true, true, true, true, true, false, false] rfl rfl (take_ofW HT_.out HW_.out (by kernel_rfl)) (fun _ _ _ h => h) (Or.inl ⟨by rfl, ?_⟩) hHeld ?_ ?_
                rotate_left
                · rintro w' ⟨s0, s1, s2, s3, s4, s5, s6, s7⟩
                  go_simp
                  with_reducible rfl
                rotate_left
                · simp only [Act.put, List.setIfInBounds_toArray, List.set_cons_zero, List.set_cons_succ, i64_w, i32_w]
                  rfl
                refine take_ (i := 8) (N := some 18) (v := ?_) (a' := ?_) #[true, true, true, true, true, true, true, true, true, false] rfl rfl (take_ofW HT_.out HW_.out (by kernel_rfl)) (fun _ _ _ h => h) (Or.inl ⟨by rfl, ?_⟩) hHeld ?_ ?_
                rotate_left
                · rintro w' ⟨s0, s1, s2, s3, s4, s5, s6, s7⟩
                  go_simp
                  with_reducible rfl
                rotate_left
                · simp only [Act.put, List.setIfInBounds_toArray, List.set_cons_zero, List.set_cons_succ, i64_w, i32_w]
                  rfl
                refine one_ (i := 9) (N := some 19) #[true, true, true, true, true, true, true, true, true, true] rfl rfl (one_of HT_.out (by kernel_rfl)) (by decide) (fun K hK => ?_)
                refine goes_ Try.func10 (by kernel_rfl) rfl #[.agg #[.string ((rd_T26 l0 x3_1).f0), .int .i64 ((rd_T26 l0 x3_1).f1), .int .i64 ((rd_T26 l0 x3_1).f2), .string ((rd_T26 l0 x3_1).f3)], .agg #[.string ((rd_T26 l0 (ji4)).f0), .int .i64 ((rd_T26 l0 (ji4)).f1), .int .i64 ((rd_T26 l0 (ji4)).f2), .string ((rd_T26 l0 (ji4)).f3)]] (by rfl) rfl rfl (by (try simp only [List.map_toArray, List.map_cons, List.map_nil]); first | done | (simp only [hji4]; rfl) | rfl | (simp only [List.length_drop, List.length_take]; rfl)) ?_
                with_reducible refine (laws_before9.calls ((rd_T26 l0 x3_1).f0) ((rd_T26 l0 x3_1).f1) ((rd_T26 l0 x3_1).f2) ((rd_T26 l0 x3_1).f3) ((rd_T26 l0 (ji4)).f0) ((rd_T26 l0 (ji4)).f1) ((rd_T26 l0 (ji4)).f2) ((rd_T26 l0 (ji4)).f3) true _ A7.out).mono ?_
                rintro e w10 ⟨rfl, hb⟩
                refine ⟨_, rfl, ?_⟩
                have n0_ := Aside0.mk (below_step (by repeat (first | (with_reducible first | exact HB.out | apply below_alloc | apply pw_below_drewN | apply below_drew1) | exact HB.out)) hb)
                clear HB
                have HB := n0_
                clear n0_
                (try clear hb)
                (try clear hb2)
                (try clear hk)
                (try clear hi)
                refine hK.out _ _ ⟨((HB.out.cell (World.block_lt_of_cell? w _ hw141_0)).trans hw141_0), ((HB.out.cell (World.block_lt_of_cell? w _ hw141_1)).trans hw141_1), ((HB.out.cell (World.block_lt_of_cell? w _ hw141_2)).trans hw141_2), ((HB.out.cell (World.block_lt_of_cell? w _ hw141_3)).trans hw141_3), ((HB.out.cell (World.block_lt_of_cell? w _ hw142_0)).trans hw142_0), ((HB.out.cell (World.block_lt_of_cell? w _ hw142_1)).trans hw142_1), ((HB.out.cell (World.block_lt_of_cell? w _ hw142_2)).trans hw142_2), ((HB.out.cell (World.block_lt_of_cell? w _ hw142_3)).trans hw142_3)⟩ (fun hHeld => ?_)
                clear hK K
                refine norm_ (a' := ?_) ?_ ?_
                rotate_left
                · show Act.put _ (some 19) _ = _
                  simp only [Act.put, List.setIfInBounds_toArray, List.set_cons_zero, List.set_cons_succ, i64_w, i32_w]
                  rfl
                refine done_ (done_of HT_.out (by kernel_rfl)) ?_
                try go_wp2
                go_ret
                exact ⟨by first | rfl | (simp [errW_none, errW_some] <;> rfl) | (simp only [← hji4]; first | rfl | (simp [errW_none, errW_some] <;> rfl)) | (simp [*, errW_none, errW_some] <;> rfl), by repeat (first | (with_reducible first | exact HB.out | apply below_alloc | apply pw_below_drewN | apply below_drew1) | exact HB.out)⟩
              · replace c8 := Bool.eq_false_iff.mpr c8
                subst c8
                have H1 : (laws_isSorted9.l0 k1 l0 (wrap64 (x3_1 + 1))) = some r := by rw [if_neg (show ¬ (false = true) by decide)] at H; exact H
                clear H
                have H := H1
                clear H1
                have H' := Aside0.mk H
                clear H
                try go_wp2
                have n0_ := Aside0.mk (below_drew1 HB.out)
                clear HB
                have HB := n0_
                clear n0_
                have p141 : 0 ≤ (x3_1 : Int) := of_decide_eq_true (by first | (with_reducible assumption) | assumption)
                have q141 : x3_1 < (l0.length : Int) := of_decide_eq_true (by first | (with_reducible assumption) | assumption)
                obtain ⟨ad141, e141, hx141_0, hx141_1, hx141_2, hx141_3⟩ := at_T26 HR0.out x3_1 p141 q141
                have hw141_3 := hx141_3
                have hw141_2 := hx141_2
                have hw141_1 := hx141_1
                have hw141_0 := hx141_0
                cases e141
                replace hx141_0 := (HB.out.cell (World.block_lt_of_cell? w _ hx141_0)).trans hx141_0
                replace hx141_1 := (HB.out.cell (World.block_lt_of_cell? w _ hx141_1)).trans hx141_1
                replace hx141_2 := (HB.out.cell (World.block_lt_of_cell? w _ hx141_2)).trans hx141_2
                replace hx141_3 := (HB.out.cell (World.block_lt_of_cell? w _ hx141_3)).trans hx141_3
                replace p141 := eq_true p141
                replace q141 := eq_true q141
                have p142 : 0 ≤ ((ji4) : Int) := of_decide_eq_true (by first | (with_reducible assumption) | assumption)
                have q142 : (ji4) < (l0.length : Int) := of_decide_eq_true (by first | (with_reducible assumption) | assumption)
                obtain ⟨ad142, e142, hx142_0, hx142_1, hx142_2, hx142_3⟩ := at_T26 HR0.out (ji4) p142 q142
                have hw142_3 := hx142_3
                have hw142_2 := hx142_2
                have hw142_1 := hx142_1
                have hw142_0 := hx142_0
                obtain rfl : ad141 = ad142 := (by injection e142)
                replace hx142_0 := (HB.out.cell (World.block_lt_of_cell? w _ hx142_0)).trans hx142_0
                replace hx142_1 := (HB.out.cell (World.block_lt_of_cell? w _ hx142_1)).trans hx142_1
                replace hx142_2 := (HB.out.cell (World.block_lt_of_cell? w _ hx142_2)).trans hx142_2
                replace hx142_3 := (HB.out.cell (World.block_lt_of_cell? w _ hx142_3)).trans hx142_3
                replace p142 := eq_true p142
                replace q142 := eq_true q142
                refine start_ (n := 10) (S := fun w' => w'.cell? (ad141.add ((x3_1).toNat * 4)) = some (.string ((rd_T26 l0 x3_1).f0)) ∧ w'.cell? ⟨(ad141.add ((x3_1).toNat * 4)).block, (ad141.add ((x3_1).toNat * 4)).off + 1, none⟩ = some (.int .i64 ((rd_T26 l0 x3_1).f1)) ∧ w'.cell? ⟨(ad141.add ((x3_1).toNat * 4)).block, (ad141.add ((x3_1).toNat * 4)).off + 2, none⟩ = some (.int .i64 ((rd_T26 l0 x3_1).f2)) ∧ w'.cell? ⟨(ad141.add ((x3_1).toNat * 4)).block, (ad141.add ((x3_1).toNat * 4)).off + 3, none⟩ = some (.string ((rd_T26 l0 x3_1).f3)) ∧ w'.cell? (ad141.add (((ji4)).toNat * 4)) = some (.string ((rd_T26 l0 (ji4)).f0)) ∧ w'.cell? ⟨(ad141.add (((ji4)).toNat * 4)).block, (ad141.add (((ji4)).toNat * 4)).off + 1, none⟩ = some (.int .i64 ((rd_T26 l0 (ji4)).f1)) ∧ w'.cell? ⟨(ad141.add (((ji4)).toNat * 4)).block, (ad141.add (((ji4)).toNat * 4)).off + 2, none⟩ = some (.int .i64 ((rd_T26 l0 (ji4)).f2)) ∧ w'.cell? ⟨(ad141.add (((ji4)).toNat * 4)).block, (ad141.add (((ji4)).toNat * 4)).off + 3, none⟩ = some (.string ((rd_T26 l0 (ji4)).f3))) (ds := []) #[false, false, false, false, false, false, false, false, false, false] (by kernel_rfl) rfl rfl ⟨((HB.out.cell (World.block_lt_of_cell? w _ hw141_0)).trans hw141_0), ((HB.out.cell (World.block_lt_of_cell? w _ hw141_1)).trans hw141_1), ((HB.out.cell (World.block_lt_of_cell? w _ hw141_2)).trans hw141_2), ((HB.out.cell (World.block_lt_of_cell? w _ hw141_3)).trans hw141_3), ((HB.out.cell (World.block_lt_of_cell? w _ hw142_0)).trans hw142_0), ((HB.out.cell (World.block_lt_of_cell? w _ hw142_1)).trans hw142_1), ((HB.out.cell (World.block_lt_of_cell? w _ hw142_2)).trans hw142_2), ((HB.out.cell (World.block_lt_of_cell? w _ hw142_3)).trans hw142_3)⟩ (fun hHeld => ?_); refine with_tabW laws_isSorted9.tab4 laws_isSorted9.bits4 (fun HT_ HW_ => ?_)
                generalize wr.drew = w11 at HB hx141_0 hx141_1 hx141_2 hx141_3 hx142_0 hx142_1 hx142_2 hx142_3 hHeld ⊢
                refine pure_ (i := 0) (N := some 10) (v := ?_) (a' := ?_) #[true, false, false, false, false, false, false, false, false, false] rfl rfl (any_of HT_.out (by kernel_rfl)) (fun _ _ _ h => h) (Or.inl ⟨by rfl, ?_⟩) ?_ ?_
                rotate_left
                · intro w'
                  go_simp
                  with_reducible rfl
                rotate_left
                · simp only [Act.put, List.setIfInBounds_toArray, List.set_cons_zero, List.set_cons_succ, i64_w, i32_w]
                  rfl
                refine pure_ (i := 1) (N := some 11) (v := ?_) (a' := ?_) #[true, true, false, false, false, false, false, false, false, false] rfl rfl (any_of HT_.out (by kernel_rfl)) (fun _ _ _ h => h) (Or.inl ⟨by rfl, ?_⟩) ?_ ?_
                rotate_left
                · intro w'
                  go_simp
                  with_reducible rfl
                rotate_left
                · simp only [Act.put, List.setIfInBounds_toArray, List.set_cons_zero, List.set_cons_succ, i64_w, i32_w]
                  rfl
                refine pure_ (i := 2) (N := some 12) (v := ?_) (a' := ?_) #[true, true, true, false, false, false, false, false, false, false] rfl rfl (any_of HT_.out (by kernel_rfl)) (fun _ _ _ h => h) (Or.inl ⟨by rfl, ?_⟩) ?_ ?_
                rotate_left
                · intro w'
                  go_simp
                  with_reducible rfl
                rotate_left
                · simp only [Act.put, List.setIfInBounds_toArray, List.set_cons_zero, List.set_cons_succ, i64_w, i32_w]
                  rfl
                refine pure_ (i := 4) (N := some 14) (v := ?_) (a' := ?_) #[true, true, true, false, true, false, false, false, false, false] rfl rfl (any_of HT_.out (by kernel_rfl)) (fun _ _ _ h => h) (Or.inl ⟨by rfl, ?_⟩) ?_ ?_
                rotate_left
                · intro w'
                  go_simp
                  with_reducible rfl
                rotate_left
                · simp only [Act.put, List.setIfInBounds_toArray, List.set_cons_zero, List.set_cons_succ, i64_w, i32_w]
                  rfl
                refine pure_ (i := 5) (N := some 15) (v := ?_) (a' := ?_) #[true, true, true, false, true, true, false, false, false, false] rfl rfl (any_of HT_.out (by kernel_rfl)) (fun _ _ _ h => h) (Or.inl ⟨by rfl, ?_⟩) ?_ ?_
                rotate_left
                · intro w'
                  go_simp
                  with_reducible rfl
                rotate_left
                · simp only [Act.put, List.setIfInBounds_toArray, List.set_cons_zero, List.set_cons_succ, i64_w, i32_w]
                  rfl
                refine pure_ (i := 6) (N := some 16) (v := ?_) (a' := ?_) #[true, true, true, false, true, true, true, false, false, false] rfl rfl (any_of HT_.out (by kernel_rfl)) (fun _ _ _ h => h) (Or.inl ⟨by rfl, ?_⟩) ?_ ?_
                rotate_left
                · intro w'
                  go_simp
                  with_reducible rfl
                rotate_left
                · simp only [Act.put, List.setIfInBounds_toArray, List.set_cons_zero, List.set_cons_succ, i64_w, i32_w]
                  rfl
                refine pure_ (i := 7) (N := some 17) (v := ?_) (a' := ?_) #[true, true, true, false, true, true, true, true, false, false] rfl rfl (any_of HT_.out (by kernel_rfl)) (fun _ _ _ h => h) (Or.inl ⟨by rfl, ?_⟩) ?_ ?_
                rotate_left
                · intro w'
                  go_simp
                  with_reducible rfl
                rotate_left
                · simp only [Act.put, List.setIfInBounds_toArray, List.set_cons_zero, List.set_cons_succ, i64_w, i32_w]
                  rfl
                refine take_ (i := 3) (N := some 13) (v := ?_) (a' := ?_) #[true, true, true, true, true, true, true, true, false, false] rfl rfl (take_ofW HT_.out HW_.out (by kernel_rfl)) (fun _ _ _ h => h) (Or.inl ⟨by rfl, ?_⟩) hHeld ?_ ?_
                rotate_left
                · rintro w' ⟨s0, s1, s2, s3, s4, s5, s6, s7⟩
                  go_simp
                  with_reducible rfl
                rotate_left
                · simp only [Act.put, List.setIfInBounds_toArray, List.set_cons_zero, List.set_cons_succ, i64_w, i32_w]
                  rfl
                refine take_ (i := 8) (N := some 18) (v := ?_) (a' := ?_) #[true, true, true, true, true, true, true, true, true, false] rfl rfl (take_ofW HT_.out HW_.out (by kernel_rfl)) (fun _ _ _ h => h) (Or.inl ⟨by rfl, ?_⟩) hHeld ?_ ?_
                rotate_left
                · rintro w' ⟨s0, s1, s2, s3, s4, s5, s6, s7⟩
                  go_simp
                  with_reducible rfl
                rotate_left
                · simp only [Act.put, List.setIfInBounds_toArray, List.set_cons_zero, List.set_cons_succ, i64_w, i32_w]
                  rfl
                refine one_ (i := 9) (N := some 19) #[true, true, true, true, true, true, true, true, true, true] rfl rfl (one_of HT_.out (by kernel_rfl)) (by decide) (fun K hK => ?_)
                refine goes_ Try.func10 (by kernel_rfl) rfl #[.agg #[.string ((rd_T26 l0 x3_1).f0), .int .i64 ((rd_T26 l0 x3_1).f1), .int .i64 ((rd_T26 l0 x3_1).f2), .string ((rd_T26 l0 x3_1).f3)], .agg #[.string ((rd_T26 l0 (ji4)).f0), .int .i64 ((rd_T26 l0 (ji4)).f1), .int .i64 ((rd_T26 l0 (ji4)).f2), .string ((rd_T26 l0 (ji4)).f3)]] (by rfl) rfl rfl (by (try simp only [List.map_toArray, List.map_cons, List.map_nil]); first | done | (simp only [hji4]; rfl) | rfl | (simp only [List.length_drop, List.length_take]; rfl)) ?_
                with_reducible refine (laws_before9.calls ((rd_T26 l0 x3_1).f0) ((rd_T26 l0 x3_1).f1) ((rd_T26 l0 x3_1).f2) ((rd_T26 l0 x3_1).f3) ((rd_T26 l0 (ji4)).f0) ((rd_T26 l0 (ji4)).f1) ((rd_T26 l0 (ji4)).f2) ((rd_T26 l0 (ji4)).f3) false _ A7.out).mono ?_
                rintro e w12 ⟨rfl, hb⟩
                refine ⟨_, rfl, ?_⟩
                have n0_ := Aside0.mk (below_step (by repeat (first | (with_reducible first | exact HB.out | apply below_alloc | apply pw_below_drewN | apply below_drew1) | exact HB.out)) hb)
                clear HB
                have HB := n0_
                clear n0_
                (try clear hb)
                (try clear hb2)
                (try clear hk)
                (try clear hi)
                refine hK.out _ _ ⟨((HB.out.cell (World.block_lt_of_cell? w _ hw141_0)).trans hw141_0), ((HB.out.cell (World.block_lt_of_cell? w _ hw141_1)).trans hw141_1), ((HB.out.cell (World.block_lt_of_cell? w _ hw141_2)).trans hw141_2), ((HB.out.cell (World.block_lt_of_cell? w _ hw141_3)).trans hw141_3), ((HB.out.cell (World.block_lt_of_cell? w _ hw142_0)).trans hw142_0), ((HB.out.cell (World.block_lt_of_cell? w _ hw142_1)).trans hw142_1), ((HB.out.cell (World.block_lt_of_cell? w _ hw142_2)).trans hw142_2), ((HB.out.cell (World.block_lt_of_cell? w _ hw142_3)).trans hw142_3)⟩ (fun hHeld => ?_)
                clear hK K
                refine norm_ (a' := ?_) ?_ ?_
                rotate_left
                · show Act.put _ (some 19) _ = _
                  simp only [Act.put, List.setIfInBounds_toArray, List.set_cons_zero, List.set_cons_succ, i64_w, i32_w]
                  rfl
                refine done_ (done_of HT_.out (by kernel_rfl)) ?_
                try go_wp2
                go_roundg k1
                case measure => have := HK1.out; omega
                case rel => exact ⟨(wrap64 (x3_1 + 1)), (by first | rfl | (simp; done) | (simp [*]; done)), H', ⟨by have := HK1.out; omega⟩, ⟨by repeat (first | (with_reducible first | exact HB.out | apply below_alloc | apply pw_below_drewN | apply below_drew1) | exact HB.out)⟩⟩
            · rw [if_neg c6] at H
              exact absurd H (by simp)
          · rw [if_neg c5] at H
            exact absurd H (by simp)
        · rw [if_neg c3] at H
          exact absurd H (by simp)
      · rw [if_neg c2] at H
        have c2b0 : decide (x3_1 < (l0.length : Int)) = false := decide_eq_false c2
        clear c2
        obtain rfl := Option.some.inj H
        go_wp2
        go_ret
        exact ⟨by first | rfl | (simp [errW_none, errW_some] <;> rfl) | (simp [*, errW_none, errW_some] <;> rfl), by repeat (first | (with_reducible first | exact HB.out | apply below_alloc | apply pw_below_drewN | apply below_drew1) | exact HB.out)⟩

/-! ### laws_FnSorted: function 5 -/
def laws_FnSorted.l0 : Nat → List (S26) → List (S26) → List (S26) → Int → Int → Option (Bool)
  | 0, _, _, _, _, _ => none
  | k + 1, x0, x3, x14, x15, x16 => if x16 < x15 then (if 0 ≤ x16 then (if x16 < (x14.length : Int) then ((laws_times9.f k x3 ((rd_T26 x14 x16).f0) ((rd_T26 x14 x16).f1) ((rd_T26 x14 x16).f2) ((rd_T26 x14 x16).f3)).bind fun t152 => ((laws_times9.f k x0 ((rd_T26 x14 x16).f0) ((rd_T26 x14 x16).f1) ((rd_T26 x14 x16).f2) ((rd_T26 x14 x16).f3)).bind fun t153 => (if t152 = t153 then (laws_FnSorted.l0 k x0 x3 x14 x15 (wrap64 (x16 + 1))) else (some false)))) else (none)) else (none)) else (if (x3.length : Int) = (x0.length : Int) then ((laws_isSorted9.f k x3).bind fun t149 => (some t149)) else (some false))
def laws_FnSorted.f (k : Nat) (l0 : List (S26)) : Option (Bool) := (laws_zzFits4.f k l0).bind fun t144 => (if t144 = true then ((laws_fewFaults9.f k l0).bind fun t145 => (if t145 = true then ((impl_Sorted.f l0).bind fun t146 => (laws_FnSorted.l0 k l0 t146 l0 (l0.length : Int) 0)) else (some true))) else (some true))
theorem laws_FnSorted.mono_l : ∀ k, (∀ y0 y1 y2 y3 y4, LeO (laws_FnSorted.l0 k y0 y1 y2 y3 y4) (laws_FnSorted.l0 (k + 1) y0 y1 y2 y3 y4))
  | 0 => fun _ _ _ _ _ r h => by simp [laws_FnSorted.l0] at h
  | k + 1 => by
    have ih0 := laws_FnSorted.mono_l k
    · intro y0 y1 y2 y3 y4
      unfold laws_FnSorted.l0
      repeat' first
      | (with_reducible exact ih0 _ _ _ _ _)
      | (with_reducible exact laws_fewFaults9.mono _ _)
      | (with_reducible exact laws_isSorted9.mono _ _)
      | (with_reducible exact laws_times9.mono _ _ _ _ _ _)
      | (with_reducible exact laws_zzFits4.mono _ _)
      | (with_reducible exact LeO.refl _)
      | (with_reducible exact LeO.none _)
      | (with_reducible refine LeO.ite ?_ ?_)
      | (with_reducible refine LeO.bind ?_ (fun _ => ?_))
      | exact ih0 _ _ _ _ _
      | exact laws_fewFaults9.mono _ _
      | exact laws_isSorted9.mono _ _
      | exact laws_times9.mono _ _ _ _ _ _
      | exact laws_zzFits4.mono _ _
      | exact LeO.none _
      | refine LeO.ite ?_ ?_
      | refine LeO.bind ?_ (fun _ => ?_)
theorem laws_FnSorted.mono : ∀ a0 k, LeO (laws_FnSorted.f k a0) (laws_FnSorted.f (k + 1) a0) := by
  intro a0 k
  have ih0 := laws_FnSorted.mono_l k
  unfold laws_FnSorted.f
  repeat' first
      | (with_reducible exact ih0 _ _ _ _ _)
      | (with_reducible exact laws_fewFaults9.mono _ _)
      | (with_reducible exact laws_isSorted9.mono _ _)
      | (with_reducible exact laws_times9.mono _ _ _ _ _ _)
      | (with_reducible exact laws_zzFits4.mono _ _)
      | (with_reducible exact LeO.refl _)
      | (with_reducible exact LeO.none _)
      | (with_reducible refine LeO.ite ?_ ?_)
      | (with_reducible refine LeO.bind ?_ (fun _ => ?_))
      | exact ih0 _ _ _ _ _
      | exact laws_fewFaults9.mono _ _
      | exact laws_isSorted9.mono _ _
      | exact laws_times9.mono _ _ _ _ _ _
      | exact laws_zzFits4.mono _ _
      | exact LeO.none _
      | refine LeO.ite ?_ ?_
      | refine LeO.bind ?_ (fun _ => ?_)
set_option maxHeartbeats 8000000 in
set_option maxRecDepth 100000 in
theorem laws_FnSorted.calls (k : Nat) (A0 : Option Addr) (c0 : Nat) (l0 : List (S26)) (r : Bool) (w : World) (hr0 : Kd.C k26 w A0 l0.length l0) (hc0 : l0.length ≤ c0) (h : laws_FnSorted.f k l0 = some r) :
    Calls Try.prog 5 #[.slice A0 l0.length c0] w fun e w' => e = .returned (.bool r) ∧ Below w.heap.size w w' := by
  have hu26 := Try.underlying26
  have HR0 := Aside0.mk hr0
  have HC0 := Aside0.mk hc0
  clear hr0 hc0
  have HB := Aside0.mk (Below.refl w.heap.size w)
  have H : ((laws_zzFits4.f k l0).bind fun t144 => (if t144 = true then ((laws_fewFaults9.f k l0).bind fun t145 => (if t145 = true then ((impl_Sorted.f l0).bind fun t146 => (laws_FnSorted.l0 k l0 t146 l0 (l0.length : Int) 0)) else (some true))) else (some true))) = some r := h
  clear h
  replace H := Option.bind_eq_some_iff.mp H
  obtain ⟨t144, A20, H⟩ := H
  replace H : (if t144 = true then ((laws_fewFaults9.f k l0).bind fun t145 => (if t145 = true then ((impl_Sorted.f l0).bind fun t146 => (laws_FnSorted.l0 k l0 t146 l0 (l0.length : Int) 0)) else (some true))) else (some true)) = some r := H
  have A2 := Aside0.mk A20
  clear A20
  by_cases c3 : t144 = true
  · subst c3
    have H1 : ((laws_fewFaults9.f k l0).bind fun t145 => (if t145 = true then ((impl_Sorted.f l0).bind fun t146 => (laws_FnSorted.l0 k l0 t146 l0 (l0.length : Int) 0)) else (some true))) = some r := by rw [if_pos rfl] at H; exact H
    clear H
    have H := H1
    clear H1
    replace H := Option.bind_eq_some_iff.mp H
    obtain ⟨t145, A40, H⟩ := H
    replace H : (if t145 = true then ((impl_Sorted.f l0).bind fun t146 => (laws_FnSorted.l0 k l0 t146 l0 (l0.length : Int) 0)) else (some true)) = some r := H
    have A4 := Aside0.mk A40
    clear A40
    by_cases c5 : t145 = true
    · subst c5
      have H1 : ((impl_Sorted.f l0).bind fun t146 => (laws_FnSorted.l0 k l0 t146 l0 (l0.length : Int) 0)) = some r := by rw [if_pos rfl] at H; exact H
      clear H
      have H := H1
      clear H1
      replace H := Option.bind_eq_some_iff.mp H
      obtain ⟨t146, A60, H⟩ := H
      replace H : (laws_FnSorted.l0 k l0 t146 l0 (l0.length : Int) 0) = some r := H
      have A6 := Aside0.mk A60
      clear A60
      have H' := Aside0.mk H
      clear H
      go_enter Try.func5, Try.ntmps5
      go_wp2_with (first | ((with_reducible refine gate_callee (f := 8) rfl ?_); refine goesL_ (some 7) rfl rfl Try.func8 (by kernel_rfl) rfl #[.slice A0 l0.length c0] rfl (by (try simp only [List.map_toArray, List.map_cons, List.map_nil]); first | done | rfl | (simp only [List.length_drop, List.length_take]; rfl)) ?_; (with_reducible refine (laws_zzFits4.calls k _ _ l0 true _ ?side1 ?side2 A2.out).mono ?_); (case side1 => repeat (first | exact HR0.out | (with_reducible refine Kd.C_alloc ?_ _) | (with_reducible refine Kd.C_drewN ?_ _) | (with_reducible refine Kd.C_drew ?_))); (case side2 => exact HC0.out); rintro e w7 ⟨rfl, hb⟩; refine ⟨_, rfl, ?_⟩; have n0_ := Aside0.mk (below_step (by repeat (first | (with_reducible first | exact HB.out | apply below_alloc | apply pw_below_drewN | apply below_drew1) | exact HB.out)) hb); clear HB; have HB := n0_; clear n0_; (try clear hb); (try clear hb2); (try clear hk); (try clear hi)) | ((with_reducible refine gate_callee (f := 9) rfl ?_); refine goesL_ (some 10) rfl rfl Try.func9 (by kernel_rfl) rfl #[.slice A0 l0.length c0] rfl (by (try simp only [List.map_toArray, List.map_cons, List.map_nil]); first | done | rfl | (simp only [List.length_drop, List.length_take]; rfl)) ?_; (with_reducible refine (laws_fewFaults9.calls k _ _ l0 true _ ?side1 ?side2 A4.out).mono ?_); (case side1 => repeat (first | exact (Kd.C_below HR0.out HB.out) | (with_reducible refine Kd.C_alloc ?_ _) | (with_reducible refine Kd.C_drewN ?_ _) | (with_reducible refine Kd.C_drew ?_))); (case side2 => exact HC0.out); rintro e w8 ⟨rfl, hb⟩; refine ⟨_, rfl, ?_⟩; have n0_ := Aside0.mk (below_step (by repeat (first | (with_reducible first | exact HB.out | apply below_alloc | apply pw_below_drewN | apply below_drew1) | exact HB.out)) hb); clear HB; have HB := n0_; clear n0_; (try clear hb); (try clear hb2); (try clear hk); (try clear hi)) | ((with_reducible refine gate_callee (f := 16) rfl ?_); refine goesL_ (some 13) rfl rfl Try.func16 (by kernel_rfl) rfl #[.slice A0 l0.length c0] rfl (by (try simp only [List.map_toArray, List.map_cons, List.map_nil]); first | done | rfl | (simp only [List.length_drop, List.length_take]; rfl)) ?_; (with_reducible refine (impl_Sorted.calls _ _ l0 t146 _ ?side1 ?side2 A6.out).mono ?_); (case side1 => repeat (first | exact (Kd.C_below HR0.out HB.out) | (with_reducible refine Kd.C_alloc ?_ _) | (with_reducible refine Kd.C_drewN ?_ _) | (with_reducible refine Kd.C_drew ?_))); (case side2 => exact HC0.out); rintro e w9 ⟨v147, rfl, ho0, hb⟩; refine ⟨_, rfl, ?_⟩; have n0_ := Aside0.mk (Kd.R_lower ho0 (below_size (by repeat (first | (with_reducible first | exact HB.out | apply below_alloc | apply pw_below_drewN | apply below_drew1) | exact HB.out)))); have n1_ := Aside0.mk (below_step (by repeat (first | (with_reducible first | exact HB.out | apply below_alloc | apply pw_below_drewN | apply below_drew1) | exact HB.out)) hb); clear HB; have HO148 := n0_; have HB := n1_; clear n0_ n1_; (try clear hb); (try clear hb2); (try clear hk); (try clear hi); (try clear ho0)))
      go_loopg [16] k (fun kq v16 w' => ∃ (x16_1 : Int), v16 = .int .i64 x16_1 ∧ Aside0 (laws_FnSorted.l0 kq l0 t146 l0 (l0.length : Int) x16_1 = some r) ∧ Aside0 (kq ≤ k) ∧ Aside0 (Kd.R k26 26 w' w.heap.size (fun _ => True) v147 t146) ∧ Aside0 (Below w.heap.size w w'))
      case atStart => exact ⟨(0), (by first | rfl | (simp; done) | (simp [*]; done)), H', ⟨Nat.le_refl _⟩, ⟨by (with_reducible repeat (first | apply Kd.R_alloc | apply Kd.R_drewN | apply Kd.R_drew)); exact HO148.out⟩, ⟨by repeat (first | (with_reducible first | exact HB.out | apply below_alloc | apply pw_below_drewN | apply below_drew1) | exact HB.out)⟩⟩
      case round =>
        clear H'
        try clear c1
        try clear p2
        try clear c3
        try clear c5
        try clear c8
        try clear c9
        obtain ⟨x16_1, rfl, HA, HK1, HO_3, HB⟩ := hrel
        cases gk with
        | zero => exact absurd HA.out (by simp [laws_FnSorted.l0])
        | succ k1 =>
          have H := HA.out
          clear HA
          simp only [laws_FnSorted.l0] at H
          by_cases c10 : x16_1 < (l0.length : Int)
          · rw [if_pos c10] at H
            have c10b0 : decide (x16_1 < (l0.length : Int)) = true := decide_eq_true c10
            clear c10
            by_cases c11 : 0 ≤ x16_1
            · rw [if_pos c11] at H
              have c11b0 : decide (0 ≤ x16_1) = true := decide_eq_true c11
              clear c11
              by_cases c12 : x16_1 < (l0.length : Int)
              · rw [if_pos c12] at H
                have c12b0 : decide (x16_1 < (l0.length : Int)) = true := decide_eq_true c12
                clear c12
                replace H := Option.bind_eq_some_iff.mp H
                obtain ⟨t152, A130, H⟩ := H
                replace H : ((laws_times9.f k1 l0 ((rd_T26 l0 x16_1).f0) ((rd_T26 l0 x16_1).f1) ((rd_T26 l0 x16_1).f2) ((rd_T26 l0 x16_1).f3)).bind fun t153 => (if t152 = t153 then (laws_FnSorted.l0 k1 l0 t146 l0 (l0.length : Int) (wrap64 (x16_1 + 1))) else (some false))) = some r := H
                have A13 := Aside0.mk A130
                clear A130
                replace H := Option.bind_eq_some_iff.mp H
                obtain ⟨t153, A140, H⟩ := H
                replace H : (if t152 = t153 then (laws_FnSorted.l0 k1 l0 t146 l0 (l0.length : Int) (wrap64 (x16_1 + 1))) else (some false)) = some r := H
                have A14 := Aside0.mk A140
                clear A140
                by_cases c15 : t152 = t153
                · rw [if_pos c15] at H
                  have c15b0 : (t152 == t153) = true := beq_iff_eq.mpr c15
                  have c15b1 : (t152 != t153) = false := bne_eq_false_iff_eq.mpr c15
                  clear c15
                  have H' := Aside0.mk H
                  clear H
                  have p150 : 0 ≤ (x16_1 : Int) := of_decide_eq_true (by first | (with_reducible assumption) | assumption)
                  have q150 : x16_1 < (l0.length : Int) := of_decide_eq_true (by first | (with_reducible assumption) | assumption)
                  obtain ⟨ad150, e150, hx150_0, hx150_1, hx150_2, hx150_3⟩ := at_T26 HR0.out x16_1 p150 q150
                  cases e150
                  replace hx150_0 := (HB.out.cell (World.block_lt_of_cell? w _ hx150_0)).trans hx150_0
                  replace hx150_1 := (HB.out.cell (World.block_lt_of_cell? w _ hx150_1)).trans hx150_1
                  replace hx150_2 := (HB.out.cell (World.block_lt_of_cell? w _ hx150_2)).trans hx150_2
                  replace hx150_3 := (HB.out.cell (World.block_lt_of_cell? w _ hx150_3)).trans hx150_3
                  replace p150 := eq_true p150
                  replace q150 := eq_true q150
                  try go_wp2_with (first | ((with_reducible refine gate_dst (N := 5) rfl ?_); refine box_event ?hg (N := 5) ?hd (cs := #[.string (⟨#[]⟩ : ByteArray), .int .i64 0, .int .i64 0, .string (⟨#[]⟩ : ByteArray)]) (t := 26) ?hr ?_; (case hd => rfl); (case hg => rfl); (case hr => first | (go_simp; done) | (go_simp; rfl)); intro gb151 hg w16 hbox hb; have n0_ := Aside0.mk (Kd.R_below (Kd.R_elderB (by (with_reducible repeat (first | apply Kd.R_alloc | apply Kd.R_drewN | apply Kd.R_drew)); exact HO_3.out) gb151 (Nat.le_of_eq hg.symm)) hb); have n1_ := Aside0.mk (below_step (by repeat (first | (with_reducible first | exact HB.out | apply below_alloc | apply pw_below_drewN | apply below_drew1) | exact HB.out)) hb); have n2_ := Aside0.mk (hbox); have n3_ := Aside0.mk ((by rw [hg]; exact (below_size (by repeat (first | (with_reducible first | exact HB.out | apply below_alloc | apply pw_below_drewN | apply below_drew1) | exact HB.out))) : w.heap.size ≤ gb151)); have n4_ := Aside0.mk ((by rw [hg]; exact (below_size (by repeat (first | (with_reducible first | exact HB.out | apply below_alloc | apply pw_below_drewN | apply below_drew1) | exact HB.out))) : w.heap.size ≤ gb151)); clear HO_3; clear HB; have HO_3 := n0_; have HB := n1_; have BK151 := n2_; have GW151 := n3_; have GE151 := n4_; clear n0_ n1_ n2_ n3_ n4_; clear hb hbox hg; have hcz17_0 : w16.cell? ⟨gb151, 0, none⟩ = some (.string (⟨#[]⟩ : ByteArray)) := (blk_cell BK151.out 0).trans rfl; have hcz17_1 : w16.cell? ⟨gb151, 1, none⟩ = some (.int .i64 0) := (blk_cell BK151.out 1).trans rfl; have hcz17_2 : w16.cell? ⟨gb151, 2, none⟩ = some (.int .i64 0) := (blk_cell BK151.out 2).trans rfl; have hcz17_3 : w16.cell? ⟨gb151, 3, none⟩ = some (.string (⟨#[]⟩ : ByteArray)) := (blk_cell BK151.out 3).trans rfl; have hfz17_0 := blk_frozen BK151.out 0; have hfz17_1 := blk_frozen BK151.out 1; have hfz17_2 := blk_frozen BK151.out 2; have hfz17_3 := blk_frozen BK151.out 3))
                  have n0_ : Aside0 (Kd.R k26 26 ((((w16.setCell ⟨gb151, 0, none⟩ (.string ((rd_T26 l0 x16_1).f0))).setCell ⟨gb151, 1, none⟩ (.int .i64 ((rd_T26 l0 x16_1).f1))).setCell ⟨gb151, 2, none⟩ (.int .i64 ((rd_T26 l0 x16_1).f2))).setCell ⟨gb151, 3, none⟩ (.string ((rd_T26 l0 x16_1).f3))) w.heap.size (fun k_ => k_ ≠ gb151) v147 t146) := ⟨by (with_reducible repeat (first | apply Kd.R_alloc | apply Kd.R_drewN | apply Kd.R_drew)); exact Kd.R_mono (Kd.R_far (p := ⟨gb151, 3, none⟩) (Kd.R_far (p := ⟨gb151, 2, none⟩) (Kd.R_far (p := ⟨gb151, 1, none⟩) (Kd.R_far (p := ⟨gb151, 0, none⟩) (Kd.R_mono HO_3.out (fun k_ hk => (⟨hk, hk.2⟩ : _ ∧ k_ ≠ gb151))) (fun _ hk => hk.2) (.string ((rd_T26 l0 x16_1).f0))) (fun _ hk => hk.2) (.int .i64 ((rd_T26 l0 x16_1).f1))) (fun _ hk => hk.2) (.int .i64 ((rd_T26 l0 x16_1).f2))) (fun _ hk => hk.2) (.string ((rd_T26 l0 x16_1).f3))) (fun _ hk => hk.1.2)⟩
                  have n1_ : Aside0 (((((w16.setCell ⟨gb151, 0, none⟩ (.string ((rd_T26 l0 x16_1).f0))).setCell ⟨gb151, 1, none⟩ (.int .i64 ((rd_T26 l0 x16_1).f1))).setCell ⟨gb151, 2, none⟩ (.int .i64 ((rd_T26 l0 x16_1).f2))).setCell ⟨gb151, 3, none⟩ (.string ((rd_T26 l0 x16_1).f3))).heap[gb151]? = some (.cells #[.string ((rd_T26 l0 x16_1).f0), .int .i64 ((rd_T26 l0 x16_1).f1), .int .i64 ((rd_T26 l0 x16_1).f2), .string ((rd_T26 l0 x16_1).f3)] 26 (0, 0))) := ⟨by (with_reducible repeat (first | refine blk_drewN ?_ _ | refine blk_drew ?_ | refine blk_alloc ?_ _)); refine blk_put (cs := #[.string ((rd_T26 l0 x16_1).f0), .int .i64 ((rd_T26 l0 x16_1).f1), .int .i64 ((rd_T26 l0 x16_1).f2), .string (⟨#[]⟩ : ByteArray)]) ?_ 3 _ rfl; (with_reducible repeat (first | refine blk_drewN ?_ _ | refine blk_drew ?_ | refine blk_alloc ?_ _)); refine blk_put (cs := #[.string ((rd_T26 l0 x16_1).f0), .int .i64 ((rd_T26 l0 x16_1).f1), .int .i64 0, .string (⟨#[]⟩ : ByteArray)]) ?_ 2 _ rfl; (with_reducible repeat (first | refine blk_drewN ?_ _ | refine blk_drew ?_ | refine blk_alloc ?_ _)); refine blk_put (cs := #[.string ((rd_T26 l0 x16_1).f0), .int .i64 0, .int .i64 0, .string (⟨#[]⟩ : ByteArray)]) ?_ 1 _ rfl; (with_reducible repeat (first | refine blk_drewN ?_ _ | refine blk_drew ?_ | refine blk_alloc ?_ _)); refine blk_put (cs := #[.string (⟨#[]⟩ : ByteArray), .int .i64 0, .int .i64 0, .string (⟨#[]⟩ : ByteArray)]) ?_ 0 _ rfl; (with_reducible repeat (first | refine blk_drewN ?_ _ | refine blk_drew ?_ | refine blk_alloc ?_ _)); exact BK151.out⟩
                  have n2_ : Aside0 (Below w.heap.size w ((((w16.setCell ⟨gb151, 0, none⟩ (.string ((rd_T26 l0 x16_1).f0))).setCell ⟨gb151, 1, none⟩ (.int .i64 ((rd_T26 l0 x16_1).f1))).setCell ⟨gb151, 2, none⟩ (.int .i64 ((rd_T26 l0 x16_1).f2))).setCell ⟨gb151, 3, none⟩ (.string ((rd_T26 l0 x16_1).f3)))) := ⟨by repeat (first | (with_reducible first | exact HB.out | apply below_alloc | apply pw_below_drewN | apply below_drew1 | refine below_set ?_ GE151.out) | exact HB.out)⟩
                  (try clear HO_3)
                  (try clear BK151)
                  (try clear HB)
                  generalize ((((w16.setCell ⟨gb151, 0, none⟩ (.string ((rd_T26 l0 x16_1).f0))).setCell ⟨gb151, 1, none⟩ (.int .i64 ((rd_T26 l0 x16_1).f1))).setCell ⟨gb151, 2, none⟩ (.int .i64 ((rd_T26 l0 x16_1).f2))).setCell ⟨gb151, 3, none⟩ (.string ((rd_T26 l0 x16_1).f3))) = w18 at n0_ n1_ n2_ ⊢
                  have HO_3 := n0_
                  have BK151 := n1_
                  have HB := n2_
                  clear n0_ n1_ n2_
                  have n0_ := Aside0.mk (Kd.R_drew HO_3.out)
                  have n1_ := Aside0.mk (blk_drew BK151.out)
                  have n2_ := Aside0.mk (below_drew1 HB.out)
                  clear HO_3
                  clear BK151
                  clear HB
                  have HO_3 := n0_
                  have BK151 := n1_
                  have HB := n2_
                  clear n0_ n1_ n2_
                  obtain ⟨Ao20, co20, eo20⟩ := Kd.R_slice HO_3.out
                  (first | subst eo20 | (injection eo20 with f1_ f2_ f3_; have f4_ := f1_.symm; have f5_ := f3_.symm; clear f1_ f2_ f3_; subst f4_; subst f5_))
                  refine start_ (n := 7) (S := fun w' => w'.cell? ⟨gb151, 0, none⟩ = some (.string ((rd_T26 l0 x16_1).f0)) ∧ w'.cell? ⟨gb151, 1, none⟩ = some (.int .i64 ((rd_T26 l0 x16_1).f1)) ∧ w'.cell? ⟨gb151, 2, none⟩ = some (.int .i64 ((rd_T26 l0 x16_1).f2)) ∧ w'.cell? ⟨gb151, 3, none⟩ = some (.string ((rd_T26 l0 x16_1).f3))) (ds := []) #[false, false, false, false, false, false, false] (by kernel_rfl) rfl rfl ⟨(blk_cell BK151.out 0).trans rfl, (blk_cell BK151.out 1).trans rfl, (blk_cell BK151.out 2).trans rfl, (blk_cell BK151.out 3).trans rfl⟩ (fun hHeld => ?_)
                  generalize w18.drew = w19 at HO_3 BK151 HB hHeld ⊢
                  refine pure_ (i := 0) (N := some 20) (v := ?_) (a' := ?_) #[true, false, false, false, false, false, false] rfl rfl (by kernel_rfl) (fun _ _ _ h => h) (Or.inl ⟨by rfl, ?_⟩) ?_ ?_
                  rotate_left
                  · intro w'
                    go_simp
                    with_reducible rfl
                  rotate_left
                  · simp only [Act.put, List.setIfInBounds_toArray, List.set_cons_zero, List.set_cons_succ, i64_w, i32_w]
                    rfl
                  refine pure_ (i := 3) (N := some 23) (v := ?_) (a' := ?_) #[true, false, false, true, false, false, false] rfl rfl (by kernel_rfl) (fun _ _ _ h => h) (Or.inl ⟨by rfl, ?_⟩) ?_ ?_
                  rotate_left
                  · intro w'
                    go_simp
                    with_reducible rfl
                  rotate_left
                  · simp only [Act.put, List.setIfInBounds_toArray, List.set_cons_zero, List.set_cons_succ, i64_w, i32_w]
                    rfl
                  refine take_ (i := 1) (N := some 21) (v := ?_) (a' := ?_) #[true, true, false, true, false, false, false] rfl rfl (by kernel_rfl) (fun _ _ _ h => h) (Or.inl ⟨by rfl, ?_⟩) hHeld ?_ ?_
                  rotate_left
                  · rintro w' ⟨s0, s1, s2, s3⟩
                    go_simp
                    with_reducible rfl
                  rotate_left
                  · simp only [Act.put, List.setIfInBounds_toArray, List.set_cons_zero, List.set_cons_succ, i64_w, i32_w]
                    rfl
                  refine take_ (i := 4) (N := some 24) (v := ?_) (a' := ?_) #[true, true, false, true, true, false, false] rfl rfl (by kernel_rfl) (fun _ _ _ h => h) (Or.inl ⟨by rfl, ?_⟩) hHeld ?_ ?_
                  rotate_left
                  · rintro w' ⟨s0, s1, s2, s3⟩
                    go_simp
                    with_reducible rfl
                  rotate_left
                  · simp only [Act.put, List.setIfInBounds_toArray, List.set_cons_zero, List.set_cons_succ, i64_w, i32_w]
                    rfl
                  refine one_ (i := 2) (N := some 22) #[true, true, true, true, true, false, false] rfl rfl (by kernel_rfl) (by decide) (fun K hK => ?_)
                  refine goes_ Try.func17 (by kernel_rfl) rfl #[.slice Ao20 t146.length co20, .agg #[.string ((rd_T26 l0 x16_1).f0), .int .i64 ((rd_T26 l0 x16_1).f1), .int .i64 ((rd_T26 l0 x16_1).f2), .string ((rd_T26 l0 x16_1).f3)]] (by rfl) rfl rfl (by (try simp only [List.map_toArray, List.map_cons, List.map_nil]); first | done | rfl | (simp only [List.length_drop, List.length_take]; rfl)) ?_
                  with_reducible refine (laws_times9.calls k1 _ _ t146 ((rd_T26 l0 x16_1).f0) ((rd_T26 l0 x16_1).f1) ((rd_T26 l0 x16_1).f2) ((rd_T26 l0 x16_1).f3) t152 _ ?side1 ?side2 A13.out).mono ?_
                  (case side1 => repeat (first | exact (Kd.R_reads' HO_3.out).2.2 | (with_reducible refine Kd.C_alloc ?_ _) | (with_reducible refine Kd.C_drewN ?_ _) | (with_reducible refine Kd.C_drew ?_)))
                  (case side2 => exact (Kd.R_reads' HO_3.out).2.1)
                  rintro e w21 ⟨rfl, hb⟩
                  refine ⟨_, rfl, ?_⟩
                  have n0_ := Aside0.mk (Kd.R_below (by (with_reducible repeat (first | apply Kd.R_alloc | apply Kd.R_drewN | apply Kd.R_drew)); exact HO_3.out) hb)
                  have n1_ := Aside0.mk (blk_below (g := gb151) (o := .cells #[.string ((rd_T26 l0 x16_1).f0), .int .i64 ((rd_T26 l0 x16_1).f1), .int .i64 ((rd_T26 l0 x16_1).f2), .string ((rd_T26 l0 x16_1).f3)] 26 (0, 0)) (by (with_reducible repeat (first | refine blk_drewN ?_ _ | refine blk_drew ?_ | refine blk_alloc ?_ _)); exact BK151.out) hb)
                  have n2_ := Aside0.mk (below_step (by repeat (first | (with_reducible first | exact HB.out | apply below_alloc | apply pw_below_drewN | apply below_drew1 | refine below_set ?_ GE151.out) | exact HB.out)) hb)
                  clear HO_3
                  clear BK151
                  clear HB
                  have HO_3 := n0_
                  have BK151 := n1_
                  have HB := n2_
                  clear n0_ n1_ n2_
                  (try clear hb)
                  (try clear hb2)
                  (try clear hk)
                  (try clear hi)
                  refine hK.out _ _ ⟨(blk_cell BK151.out 0).trans rfl, (blk_cell BK151.out 1).trans rfl, (blk_cell BK151.out 2).trans rfl, (blk_cell BK151.out 3).trans rfl⟩ (fun hHeld => ?_)
                  clear hK K
                  refine norm_ (a' := ?_) ?_ ?_
                  rotate_left
                  · show Act.put _ (some 22) _ = _
                    simp only [Act.put, List.setIfInBounds_toArray, List.set_cons_zero, List.set_cons_succ, i64_w, i32_w]
                    rfl
                  refine one_ (i := 5) (N := some 25) #[true, true, true, true, true, true, false] rfl rfl (by kernel_rfl) (by decide) (fun K hK => ?_)
                  refine goes_ Try.func17 (by kernel_rfl) rfl #[.slice (some ad150) l0.length c0, .agg #[.string ((rd_T26 l0 x16_1).f0), .int .i64 ((rd_T26 l0 x16_1).f1), .int .i64 ((rd_T26 l0 x16_1).f2), .string ((rd_T26 l0 x16_1).f3)]] (by rfl) rfl rfl (by (try simp only [List.map_toArray, List.map_cons, List.map_nil]); first | done | rfl | (simp only [List.length_drop, List.length_take]; rfl)) ?_
                  with_reducible refine (laws_times9.calls k1 _ _ l0 ((rd_T26 l0 x16_1).f0) ((rd_T26 l0 x16_1).f1) ((rd_T26 l0 x16_1).f2) ((rd_T26 l0 x16_1).f3) t153 _ ?side1 ?side2 A14.out).mono ?_
                  (case side1 => repeat (first | exact (Kd.C_below HR0.out HB.out) | (with_reducible refine Kd.C_alloc ?_ _) | (with_reducible refine Kd.C_drewN ?_ _) | (with_reducible refine Kd.C_drew ?_)))
                  (case side2 => exact HC0.out)
                  rintro e w22 ⟨rfl, hb⟩
                  refine ⟨_, rfl, ?_⟩
                  have n0_ := Aside0.mk (Kd.R_below (by (with_reducible repeat (first | apply Kd.R_alloc | apply Kd.R_drewN | apply Kd.R_drew)); exact HO_3.out) hb)
                  have n1_ := Aside0.mk (blk_below (g := gb151) (o := .cells #[.string ((rd_T26 l0 x16_1).f0), .int .i64 ((rd_T26 l0 x16_1).f1), .int .i64 ((rd_T26 l0 x16_1).f2), .string ((rd_T26 l0 x16_1).f3)] 26 (0, 0)) (by (with_reducible repeat (first | refine blk_drewN ?_ _ | refine blk_drew ?_ | refine blk_alloc ?_ _)); exact BK151.out) hb)
                  have n2_ := Aside0.mk (below_step (by repeat (first | (with_reducible first | exact HB.out | apply below_alloc | apply pw_below_drewN | apply below_drew1 | refine below_set ?_ GE151.out) | exact HB.out)) hb)
                  clear HO_3
                  clear BK151
                  clear HB
                  have HO_3 := n0_
                  have BK151 := n1_
                  have HB := n2_
                  clear n0_ n1_ n2_
                  (try clear hb)
                  (try clear hb2)
                  (try clear hk)
                  (try clear hi)
                  refine hK.out _ _ ⟨(blk_cell BK151.out 0).trans rfl, (blk_cell BK151.out 1).trans rfl, (blk_cell BK151.out 2).trans rfl, (blk_cell BK151.out 3).trans rfl⟩ (fun hHeld => ?_)
                  clear hK K
                  refine norm_ (a' := ?_) ?_ ?_
                  rotate_left
                  · show Act.put _ (some 25) _ = _
                    simp only [Act.put, List.setIfInBounds_toArray, List.set_cons_zero, List.set_cons_succ, i64_w, i32_w]
                    rfl
                  refine pure_ (i := 6) (N := some 26) (v := ?_) (a' := ?_) #[true, true, true, true, true, true, true] rfl rfl (by kernel_rfl) (fun _ _ _ h => h) (Or.inl ⟨by rfl, ?_⟩) ?_ ?_
                  rotate_left
                  · intro w'
                    go_simp
                    with_reducible rfl
                  rotate_left
                  · simp only [Act.put, List.setIfInBounds_toArray, List.set_cons_zero, List.set_cons_succ, i64_w, i32_w]
                    rfl
                  refine done_ (by kernel_rfl) ?_
                  try go_wp2
                  go_roundg k1
                  case measure => have := HK1.out; omega
                  case rel => exact ⟨(wrap64 (x16_1 + 1)), (by first | rfl | (simp; done) | (simp [*]; done)), H', ⟨by have := HK1.out; omega⟩, ⟨by (with_reducible repeat (first | apply Kd.R_alloc | apply Kd.R_drewN | apply Kd.R_drew)); exact Kd.R_mono HO_3.out (fun _ hk => trivial)⟩, ⟨by repeat (first | (with_reducible first | exact HB.out | apply below_alloc | apply pw_below_drewN | apply below_drew1 | refine below_set ?_ GE151.out) | exact HB.out)⟩⟩
                · rw [if_neg c15] at H
                  have c15b0 : (t152 == t153) = false := beq_eq_false_iff_ne.mpr c15
                  have c15b1 : (t152 != t153) = true := bne_iff_ne.mpr c15
                  obtain rfl := Option.some.inj H
                  have p150 : 0 ≤ (x16_1 : Int) := of_decide_eq_true (by first | (with_reducible assumption) | assumption)
                  have q150 : x16_1 < (l0.length : Int) := of_decide_eq_true (by first | (with_reducible assumption) | assumption)
                  obtain ⟨ad150, e150, hx150_0, hx150_1, hx150_2, hx150_3⟩ := at_T26 HR0.out x16_1 p150 q150
                  cases e150
                  replace hx150_0 := (HB.out.cell (World.block_lt_of_cell? w _ hx150_0)).trans hx150_0
                  replace hx150_1 := (HB.out.cell (World.block_lt_of_cell? w _ hx150_1)).trans hx150_1
                  replace hx150_2 := (HB.out.cell (World.block_lt_of_cell? w _ hx150_2)).trans hx150_2
                  replace hx150_3 := (HB.out.cell (World.block_lt_of_cell? w _ hx150_3)).trans hx150_3
                  replace p150 := eq_true p150
                  replace q150 := eq_true q150
                  try go_wp2_with (first | ((with_reducible refine gate_dst (N := 5) rfl ?_); refine box_event ?hg (N := 5) ?hd (cs := #[.string (⟨#[]⟩ : ByteArray), .int .i64 0, .int .i64 0, .string (⟨#[]⟩ : ByteArray)]) (t := 26) ?hr ?_; (case hd => rfl); (case hg => rfl); (case hr => first | (go_simp; done) | (go_simp; rfl)); intro gb151 hg w23 hbox hb; have n0_ := Aside0.mk (Kd.R_below (Kd.R_elderB (by (with_reducible repeat (first | apply Kd.R_alloc | apply Kd.R_drewN | apply Kd.R_drew)); exact HO_3.out) gb151 (Nat.le_of_eq hg.symm)) hb); have n1_ := Aside0.mk (below_step (by repeat (first | (with_reducible first | exact HB.out | apply below_alloc | apply pw_below_drewN | apply below_drew1) | exact HB.out)) hb); have n2_ := Aside0.mk (hbox); have n3_ := Aside0.mk ((by rw [hg]; exact (below_size (by repeat (first | (with_reducible first | exact HB.out | apply below_alloc | apply pw_below_drewN | apply below_drew1) | exact HB.out))) : w.heap.size ≤ gb151)); have n4_ := Aside0.mk ((by rw [hg]; exact (below_size (by repeat (first | (with_reducible first | exact HB.out | apply below_alloc | apply pw_below_drewN | apply below_drew1) | exact HB.out))) : w.heap.size ≤ gb151)); clear HO_3; clear HB; have HO_3 := n0_; have HB := n1_; have BK151 := n2_; have GW151 := n3_; have GE151 := n4_; clear n0_ n1_ n2_ n3_ n4_; clear hb hbox hg; have hcz24_0 : w23.cell? ⟨gb151, 0, none⟩ = some (.string (⟨#[]⟩ : ByteArray)) := (blk_cell BK151.out 0).trans rfl; have hcz24_1 : w23.cell? ⟨gb151, 1, none⟩ = some (.int .i64 0) := (blk_cell BK151.out 1).trans rfl; have hcz24_2 : w23.cell? ⟨gb151, 2, none⟩ = some (.int .i64 0) := (blk_cell BK151.out 2).trans rfl; have hcz24_3 : w23.cell? ⟨gb151, 3, none⟩ = some (.string (⟨#[]⟩ : ByteArray)) := (blk_cell BK151.out 3).trans rfl; have hfz24_0 := blk_frozen BK151.out 0; have hfz24_1 := blk_frozen BK151.out 1; have hfz24_2 := blk_frozen BK151.out 2; have hfz24_3 := blk_frozen BK151.out 3))
                  have n0_ : Aside0 (Kd.R k26 26 ((((w23.setCell ⟨gb151, 0, none⟩ (.string ((rd_T26 l0 x16_1).f0))).setCell ⟨gb151, 1, none⟩ (.int .i64 ((rd_T26 l0 x16_1).f1))).setCell ⟨gb151, 2, none⟩ (.int .i64 ((rd_T26 l0 x16_1).f2))).setCell ⟨gb151, 3, none⟩ (.string ((rd_T26 l0 x16_1).f3))) w.heap.size (fun k_ => k_ ≠ gb151) v147 t146) := ⟨by (with_reducible repeat (first | apply Kd.R_alloc | apply Kd.R_drewN | apply Kd.R_drew)); exact Kd.R_mono (Kd.R_far (p := ⟨gb151, 3, none⟩) (Kd.R_far (p := ⟨gb151, 2, none⟩) (Kd.R_far (p := ⟨gb151, 1, none⟩) (Kd.R_far (p := ⟨gb151, 0, none⟩) (Kd.R_mono HO_3.out (fun k_ hk => (⟨hk, hk.2⟩ : _ ∧ k_ ≠ gb151))) (fun _ hk => hk.2) (.string ((rd_T26 l0 x16_1).f0))) (fun _ hk => hk.2) (.int .i64 ((rd_T26 l0 x16_1).f1))) (fun _ hk => hk.2) (.int .i64 ((rd_T26 l0 x16_1).f2))) (fun _ hk => hk.2) (.string ((rd_T26 l0 x16_1).f3))) (fun _ hk => hk.1.2)⟩
                  have n1_ : Aside0 (((((w23.setCell ⟨gb151, 0, none⟩ (.string ((rd_T26 l0 x16_1).f0))).setCell ⟨gb151, 1, none⟩ (.int .i64 ((rd_T26 l0 x16_1).f1))).setCell ⟨gb151, 2, none⟩ (.int .i64 ((rd_T26 l0 x16_1).f2))).setCell ⟨gb151, 3, none⟩ (.string ((rd_T26 l0 x16_1).f3))).heap[gb151]? = some (.cells #[.string ((rd_T26 l0 x16_1).f0), .int .i64 ((rd_T26 l0 x16_1).f1), .int .i64 ((rd_T26 l0 x16_1).f2), .string ((rd_T26 l0 x16_1).f3)] 26 (0, 0))) := ⟨by (with_reducible repeat (first | refine blk_drewN ?_ _ | refine blk_drew ?_ | refine blk_alloc ?_ _)); refine blk_put (cs := #[.string ((rd_T26 l0 x16_1).f0), .int .i64 ((rd_T26 l0 x16_1).f1), .int .i64 ((rd_T26 l0 x16_1).f2), .string (⟨#[]⟩ : ByteArray)]) ?_ 3 _ rfl; (with_reducible repeat (first | refine blk_drewN ?_ _ | refine blk_drew ?_ | refine blk_alloc ?_ _)); refine blk_put (cs := #[.string ((rd_T26 l0 x16_1).f0), .int .i64 ((rd_T26 l0 x16_1).f1), .int .i64 0, .string (⟨#[]⟩ : ByteArray)]) ?_ 2 _ rfl; (with_reducible repeat (first | refine blk_drewN ?_ _ | refine blk_drew ?_ | refine blk_alloc ?_ _)); refine blk_put (cs := #[.string ((rd_T26 l0 x16_1).f0), .int .i64 0, .int .i64 0, .string (⟨#[]⟩ : ByteArray)]) ?_ 1 _ rfl; (with_reducible repeat (first | refine blk_drewN ?_ _ | refine blk_drew ?_ | refine blk_alloc ?_ _)); refine blk_put (cs := #[.string (⟨#[]⟩ : ByteArray), .int .i64 0, .int .i64 0, .string (⟨#[]⟩ : ByteArray)]) ?_ 0 _ rfl; (with_reducible repeat (first | refine blk_drewN ?_ _ | refine blk_drew ?_ | refine blk_alloc ?_ _)); exact BK151.out⟩
                  have n2_ : Aside0 (Below w.heap.size w ((((w23.setCell ⟨gb151, 0, none⟩ (.string ((rd_T26 l0 x16_1).f0))).setCell ⟨gb151, 1, none⟩ (.int .i64 ((rd_T26 l0 x16_1).f1))).setCell ⟨gb151, 2, none⟩ (.int .i64 ((rd_T26 l0 x16_1).f2))).setCell ⟨gb151, 3, none⟩ (.string ((rd_T26 l0 x16_1).f3)))) := ⟨by repeat (first | (with_reducible first | exact HB.out | apply below_alloc | apply pw_below_drewN | apply below_drew1 | refine below_set ?_ GE151.out) | exact HB.out)⟩
                  (try clear HO_3)
                  (try clear BK151)
                  (try clear HB)
                  generalize ((((w23.setCell ⟨gb151, 0, none⟩ (.string ((rd_T26 l0 x16_1).f0))).setCell ⟨gb151, 1, none⟩ (.int .i64 ((rd_T26 l0 x16_1).f1))).setCell ⟨gb151, 2, none⟩ (.int .i64 ((rd_T26 l0 x16_1).f2))).setCell ⟨gb151, 3, none⟩ (.string ((rd_T26 l0 x16_1).f3))) = w25 at n0_ n1_ n2_ ⊢
                  have HO_3 := n0_
                  have BK151 := n1_
                  have HB := n2_
                  clear n0_ n1_ n2_
                  have n0_ := Aside0.mk (Kd.R_drew HO_3.out)
                  have n1_ := Aside0.mk (blk_drew BK151.out)
                  have n2_ := Aside0.mk (below_drew1 HB.out)
                  clear HO_3
                  clear BK151
                  clear HB
                  have HO_3 := n0_
                  have BK151 := n1_
                  have HB := n2_
                  clear n0_ n1_ n2_
                  obtain ⟨Ao27, co27, eo27⟩ := Kd.R_slice HO_3.out
                  (first | subst eo27 | (injection eo27 with f1_ f2_ f3_; have f4_ := f1_.symm; have f5_ := f3_.symm; clear f1_ f2_ f3_; subst f4_; subst f5_))
                  refine start_ (n := 7) (S := fun w' => w'.cell? ⟨gb151, 0, none⟩ = some (.string ((rd_T26 l0 x16_1).f0)) ∧ w'.cell? ⟨gb151, 1, none⟩ = some (.int .i64 ((rd_T26 l0 x16_1).f1)) ∧ w'.cell? ⟨gb151, 2, none⟩ = some (.int .i64 ((rd_T26 l0 x16_1).f2)) ∧ w'.cell? ⟨gb151, 3, none⟩ = some (.string ((rd_T26 l0 x16_1).f3))) (ds := []) #[false, false, false, false, false, false, false] (by kernel_rfl) rfl rfl ⟨(blk_cell BK151.out 0).trans rfl, (blk_cell BK151.out 1).trans rfl, (blk_cell BK151.out 2).trans rfl, (blk_cell BK151.out 3).trans rfl⟩ (fun hHeld => ?_)
                  generalize w25.drew = w26 at HO_3 BK151 HB hHeld ⊢
                  refine pure_ (i := 0) (N := some 20) (v := ?_) (a' := ?_) #[true, false, false, false, false, false, false] rfl rfl (by kernel_rfl) (fun _ _ _ h => h) (Or.inl ⟨by rfl, ?_⟩) ?_ ?_
                  rotate_left
                  · intro w'
                    go_simp
                    with_reducible rfl
                  rotate_left
                  · simp only [Act.put, List.setIfInBounds_toArray, List.set_cons_zero, List.set_cons_succ, i64_w, i32_w]
                    rfl
                  refine pure_ (i := 3) (N := some 23) (v := ?_) (a' := ?_) #[true, false, false, true, false, false, false] rfl rfl (by kernel_rfl) (fun _ _ _ h => h) (Or.inl ⟨by rfl, ?_⟩) ?_ ?_
                  rotate_left
                  · intro w'
                    go_simp
                    with_reducible rfl
                  rotate_left
                  · simp only [Act.put, List.setIfInBounds_toArray, List.set_cons_zero, List.set_cons_succ, i64_w, i32_w]
                    rfl
                  refine take_ (i := 1) (N := some 21) (v := ?_) (a' := ?_) #[true, true, false, true, false, false, false] rfl rfl (by kernel_rfl) (fun _ _ _ h => h) (Or.inl ⟨by rfl, ?_⟩) hHeld ?_ ?_
                  rotate_left
                  · rintro w' ⟨s0, s1, s2, s3⟩
                    go_simp
                    with_reducible rfl
                  rotate_left
                  · simp only [Act.put, List.setIfInBounds_toArray, List.set_cons_zero, List.set_cons_succ, i64_w, i32_w]
                    rfl
                  refine take_ (i := 4) (N := some 24) (v := ?_) (a' := ?_) #[true, true, false, true, true, false, false] rfl rfl (by kernel_rfl) (fun _ _ _ h => h) (Or.inl ⟨by rfl, ?_⟩) hHeld ?_ ?_
                  rotate_left
                  · rintro w' ⟨s0, s1, s2, s3⟩
                    go_simp
                    with_reducible rfl
                  rotate_left
                  · simp only [Act.put, List.setIfInBounds_toArray, List.set_cons_zero, List.set_cons_succ, i64_w, i32_w]
                    rfl
                  refine one_ (i := 2) (N := some 22) #[true, true, true, true, true, false, false] rfl rfl (by kernel_rfl) (by decide) (fun K hK => ?_)
                  refine goes_ Try.func17 (by kernel_rfl) rfl #[.slice Ao27 t146.length co27, .agg #[.string ((rd_T26 l0 x16_1).f0), .int .i64 ((rd_T26 l0 x16_1).f1), .int .i64 ((rd_T26 l0 x16_1).f2), .string ((rd_T26 l0 x16_1).f3)]] (by rfl) rfl rfl (by (try simp only [List.map_toArray, List.map_cons, List.map_nil]); first | done | rfl | (simp only [List.length_drop, List.length_take]; rfl)) ?_
                  with_reducible refine (laws_times9.calls k1 _ _ t146 ((rd_T26 l0 x16_1).f0) ((rd_T26 l0 x16_1).f1) ((rd_T26 l0 x16_1).f2) ((rd_T26 l0 x16_1).f3) t152 _ ?side1 ?side2 A13.out).mono ?_
                  (case side1 => repeat (first | exact (Kd.R_reads' HO_3.out).2.2 | (with_reducible refine Kd.C_alloc ?_ _) | (with_reducible refine Kd.C_drewN ?_ _) | (with_reducible refine Kd.C_drew ?_)))
                  (case side2 => exact (Kd.R_reads' HO_3.out).2.1)
                  rintro e w28 ⟨rfl, hb⟩
                  refine ⟨_, rfl, ?_⟩
                  have n0_ := Aside0.mk (Kd.R_below (by (with_reducible repeat (first | apply Kd.R_alloc | apply Kd.R_drewN | apply Kd.R_drew)); exact HO_3.out) hb)
                  have n1_ := Aside0.mk (blk_below (g := gb151) (o := .cells #[.string ((rd_T26 l0 x16_1).f0), .int .i64 ((rd_T26 l0 x16_1).f1), .int .i64 ((rd_T26 l0 x16_1).f2), .string ((rd_T26 l0 x16_1).f3)] 26 (0, 0)) (by (with_reducible repeat (first | refine blk_drewN ?_ _ | refine blk_drew ?_ | refine blk_alloc ?_ _)); exact BK151.out) hb)
                  have n2_ := Aside0.mk (below_step (by repeat (first | (with_reducible first | exact HB.out | apply below_alloc | apply pw_below_drewN | apply below_drew1 | refine below_set ?_ GE151.out) | exact HB.out)) hb)
                  clear HO_3
                  clear BK151
                  clear HB
                  have HO_3 := n0_
                  have BK151 := n1_
                  have HB := n2_
                  clear n0_ n1_ n2_
                  (try clear hb)
                  (try clear hb2)
                  (try clear hk)
                  (try clear hi)
                  refine hK.out _ _ ⟨(blk_cell BK151.out 0).trans rfl, (blk_cell BK151.out 1).trans rfl, (blk_cell BK151.out 2).trans rfl, (blk_cell BK151.out 3).trans rfl⟩ (fun hHeld => ?_)
                  clear hK K
                  refine norm_ (a' := ?_) ?_ ?_
                  rotate_left
                  · show Act.put _ (some 22) _ = _
                    simp only [Act.put, List.setIfInBounds_toArray, List.set_cons_zero, List.set_cons_succ, i64_w, i32_w]
                    rfl
                  refine one_ (i := 5) (N := some 25) #[true, true, true, true, true, true, false] rfl rfl (by kernel_rfl) (by decide) (fun K hK => ?_)
                  refine goes_ Try.func17 (by kernel_rfl) rfl #[.slice (some ad150) l0.length c0, .agg #[.string ((rd_T26 l0 x16_1).f0), .int .i64 ((rd_T26 l0 x16_1).f1), .int .i64 ((rd_T26 l0 x16_1).f2), .string ((rd_T26 l0 x16_1).f3)]] (by rfl) rfl rfl (by (try simp only [List.map_toArray, List.map_cons, List.map_nil]); first | done | rfl | (simp only [List.length_drop, List.length_take]; rfl)) ?_
                  with_reducible refine (laws_times9.calls k1 _ _ l0 ((rd_T26 l0 x16_1).f0) ((rd_T26 l0 x16_1).f1) ((rd_T26 l0 x16_1).f2) ((rd_T26 l0 x16_1).f3) t153 _ ?side1 ?side2 A14.out).mono ?_
                  (case side1 => repeat (first | exact (Kd.C_below HR0.out HB.out) | (with_reducible refine Kd.C_alloc ?_ _) | (with_reducible refine Kd.C_drewN ?_ _) | (with_reducible refine Kd.C_drew ?_)))
                  (case side2 => exact HC0.out)
                  rintro e w29 ⟨rfl, hb⟩
                  refine ⟨_, rfl, ?_⟩
                  have n0_ := Aside0.mk (Kd.R_below (by (with_reducible repeat (first | apply Kd.R_alloc | apply Kd.R_drewN | apply Kd.R_drew)); exact HO_3.out) hb)
                  have n1_ := Aside0.mk (blk_below (g := gb151) (o := .cells #[.string ((rd_T26 l0 x16_1).f0), .int .i64 ((rd_T26 l0 x16_1).f1), .int .i64 ((rd_T26 l0 x16_1).f2), .string ((rd_T26 l0 x16_1).f3)] 26 (0, 0)) (by (with_reducible repeat (first | refine blk_drewN ?_ _ | refine blk_drew ?_ | refine blk_alloc ?_ _)); exact BK151.out) hb)
                  have n2_ := Aside0.mk (below_step (by repeat (first | (with_reducible first | exact HB.out | apply below_alloc | apply pw_below_drewN | apply below_drew1 | refine below_set ?_ GE151.out) | exact HB.out)) hb)
                  clear HO_3
                  clear BK151
                  clear HB
                  have HO_3 := n0_
                  have BK151 := n1_
                  have HB := n2_
                  clear n0_ n1_ n2_
                  (try clear hb)
                  (try clear hb2)
                  (try clear hk)
                  (try clear hi)
                  refine hK.out _ _ ⟨(blk_cell BK151.out 0).trans rfl, (blk_cell BK151.out 1).trans rfl, (blk_cell BK151.out 2).trans rfl, (blk_cell BK151.out 3).trans rfl⟩ (fun hHeld => ?_)
                  clear hK K
                  refine norm_ (a' := ?_) ?_ ?_
                  rotate_left
                  · show Act.put _ (some 25) _ = _
                    simp only [Act.put, List.setIfInBounds_toArray, List.set_cons_zero, List.set_cons_succ, i64_w, i32_w]
                    rfl
                  refine pure_ (i := 6) (N := some 26) (v := ?_) (a' := ?_) #[true, true, true, true, true, true, true] rfl rfl (by kernel_rfl) (fun _ _ _ h => h) (Or.inl ⟨by rfl, ?_⟩) ?_ ?_
                  rotate_left
                  · intro w'
                    go_simp
                    with_reducible rfl
                  rotate_left
                  · simp only [Act.put, List.setIfInBounds_toArray, List.set_cons_zero, List.set_cons_succ, i64_w, i32_w]
                    rfl
                  refine done_ (by kernel_rfl) ?_
                  try go_wp2
                  go_ret
                  exact ⟨by first | rfl | (simp [errW_none, errW_some] <;> rfl) | (simp [*, errW_none, errW_some] <;> rfl), by repeat (first | (with_reducible first | exact HB.out | apply below_alloc | apply pw_below_drewN | apply below_drew1 | refine below_set ?_ GE151.out) | exact HB.out)⟩
              · rw [if_neg c12] at H
                exact absurd H (by simp)
            · rw [if_neg c11] at H
              exact absurd H (by simp)
          · rw [if_neg c10] at H
            have c10b0 : decide (x16_1 < (l0.length : Int)) = false := decide_eq_false c10
            clear c10
            by_cases c30 : (t146.length : Int) = (l0.length : Int)
            · rw [if_pos c30] at H
              have c30b0 : ((t146.length : Int) == (l0.length : Int)) = true := beq_iff_eq.mpr c30
              have c30b1 : ((t146.length : Int) != (l0.length : Int)) = false := bne_eq_false_iff_eq.mpr c30
              have c30b2 : (t146.length == l0.length) = true := by first | simpa using c30 | (simp at c30 ⊢; omega)
              clear c30
              replace H := Option.bind_eq_some_iff.mp H
              obtain ⟨t149, A310, H⟩ := H
              replace H : (some t149) = some r := H
              have A31 := Aside0.mk A310
              clear A310
              obtain rfl := Option.some.inj H
              obtain ⟨Ao32, co32, eo32⟩ := Kd.R_slice HO_3.out
              subst eo32
              go_wp2_with (first | (go_at_call 18; (with_reducible refine (laws_isSorted9.calls k1 _ _ t146 t149 _ ?side1 ?side2 A31.out).mono ?_); (case side1 => repeat (first | exact (Kd.R_reads' HO_3.out).2.2 | (with_reducible refine Kd.C_alloc ?_ _) | (with_reducible refine Kd.C_drewN ?_ _) | (with_reducible refine Kd.C_drew ?_))); (case side2 => exact (Kd.R_reads' HO_3.out).2.1); rintro e w33 ⟨rfl, hb⟩; have n0_ := Aside0.mk (Kd.R_below (by (with_reducible repeat (first | apply Kd.R_alloc | apply Kd.R_drewN | apply Kd.R_drew)); exact HO_3.out) hb); have n1_ := Aside0.mk (below_step (by repeat (first | (with_reducible first | exact HB.out | apply below_alloc | apply pw_below_drewN | apply below_drew1) | exact HB.out)) hb); clear HO_3; clear HB; have HO_3 := n0_; have HB := n1_; clear n0_ n1_; (try clear hb); (try clear hb2); (try clear hk); (try clear hi)))
              go_ret
              exact ⟨by first | rfl | (simp [errW_none, errW_some] <;> rfl) | (simp [*, errW_none, errW_some] <;> rfl), by repeat (first | (with_reducible first | exact HB.out | apply below_alloc | apply pw_below_drewN | apply below_drew1) | exact HB.out)⟩
            · rw [if_neg c30] at H
              have c30b0 : ((t146.length : Int) == (l0.length : Int)) = false := beq_eq_false_iff_ne.mpr c30
              have c30b1 : ((t146.length : Int) != (l0.length : Int)) = true := bne_iff_ne.mpr c30
              have c30b2 : (t146.length == l0.length) = false := by first | simpa using c30 | (simp at c30 ⊢; omega)
              obtain rfl := Option.some.inj H
              obtain ⟨Ao34, co34, eo34⟩ := Kd.R_slice HO_3.out
              subst eo34
              go_wp2
              go_ret
              exact ⟨by first | rfl | (simp [errW_none, errW_some] <;> rfl) | (simp [*, errW_none, errW_some] <;> rfl), by repeat (first | (with_reducible first | exact HB.out | apply below_alloc | apply pw_below_drewN | apply below_drew1) | exact HB.out)⟩
    · replace c5 := Bool.eq_false_iff.mpr c5
      subst c5
      have H1 : (some true) = some r := by rw [if_neg (show ¬ (false = true) by decide)] at H; exact H
      clear H
      have H := H1
      clear H1
      obtain rfl := Option.some.inj H
      go_enter Try.func5, Try.ntmps5
      go_wp2_with (first | ((with_reducible refine gate_callee (f := 8) rfl ?_); refine goesL_ (some 7) rfl rfl Try.func8 (by kernel_rfl) rfl #[.slice A0 l0.length c0] rfl (by (try simp only [List.map_toArray, List.map_cons, List.map_nil]); first | done | rfl | (simp only [List.length_drop, List.length_take]; rfl)) ?_; (with_reducible refine (laws_zzFits4.calls k _ _ l0 true _ ?side1 ?side2 A2.out).mono ?_); (case side1 => repeat (first | exact HR0.out | (with_reducible refine Kd.C_alloc ?_ _) | (with_reducible refine Kd.C_drewN ?_ _) | (with_reducible refine Kd.C_drew ?_))); (case side2 => exact HC0.out); rintro e w35 ⟨rfl, hb⟩; refine ⟨_, rfl, ?_⟩; have n0_ := Aside0.mk (below_step (by repeat (first | (with_reducible first | exact HB.out | apply below_alloc | apply pw_below_drewN | apply below_drew1) | exact HB.out)) hb); clear HB; have HB := n0_; clear n0_; (try clear hb); (try clear hb2); (try clear hk); (try clear hi)) | ((with_reducible refine gate_callee (f := 9) rfl ?_); refine goesL_ (some 10) rfl rfl Try.func9 (by kernel_rfl) rfl #[.slice A0 l0.length c0] rfl (by (try simp only [List.map_toArray, List.map_cons, List.map_nil]); first | done | rfl | (simp only [List.length_drop, List.length_take]; rfl)) ?_; (with_reducible refine (laws_fewFaults9.calls k _ _ l0 false _ ?side1 ?side2 A4.out).mono ?_); (case side1 => repeat (first | exact (Kd.C_below HR0.out HB.out) | (with_reducible refine Kd.C_alloc ?_ _) | (with_reducible refine Kd.C_drewN ?_ _) | (with_reducible refine Kd.C_drew ?_))); (case side2 => exact HC0.out); rintro e w36 ⟨rfl, hb⟩; refine ⟨_, rfl, ?_⟩; have n0_ := Aside0.mk (below_step (by repeat (first | (with_reducible first | exact HB.out | apply below_alloc | apply pw_below_drewN | apply below_drew1) | exact HB.out)) hb); clear HB; have HB := n0_; clear n0_; (try clear hb); (try clear hb2); (try clear hk); (try clear hi)))
      go_ret
      exact ⟨by first | rfl | (simp [errW_none, errW_some] <;> rfl) | (simp [*, errW_none, errW_some] <;> rfl), by repeat (first | (with_reducible first | exact HB.out | apply below_alloc | apply pw_below_drewN | apply below_drew1) | exact HB.out)⟩
  · replace c3 := Bool.eq_false_iff.mpr c3
    subst c3
    have H1 : (some true) = some r := by rw [if_neg (show ¬ (false = true) by decide)] at H; exact H
    clear H
    have H := H1
    clear H1
    obtain rfl := Option.some.inj H
    go_enter Try.func5, Try.ntmps5
    go_wp2_with (first | ((with_reducible refine gate_callee (f := 8) rfl ?_); refine goesL_ (some 7) rfl rfl Try.func8 (by kernel_rfl) rfl #[.slice A0 l0.length c0] rfl (by (try simp only [List.map_toArray, List.map_cons, List.map_nil]); first | done | rfl | (simp only [List.length_drop, List.length_take]; rfl)) ?_; (with_reducible refine (laws_zzFits4.calls k _ _ l0 false _ ?side1 ?side2 A2.out).mono ?_); (case side1 => repeat (first | exact HR0.out | (with_reducible refine Kd.C_alloc ?_ _) | (with_reducible refine Kd.C_drewN ?_ _) | (with_reducible refine Kd.C_drew ?_))); (case side2 => exact HC0.out); rintro e w37 ⟨rfl, hb⟩; refine ⟨_, rfl, ?_⟩; have n0_ := Aside0.mk (below_step (by repeat (first | (with_reducible first | exact HB.out | apply below_alloc | apply pw_below_drewN | apply below_drew1) | exact HB.out)) hb); clear HB; have HB := n0_; clear n0_; (try clear hb); (try clear hb2); (try clear hk); (try clear hi)))
    go_ret
    exact ⟨by first | rfl | (simp [errW_none, errW_some] <;> rfl) | (simp [*, errW_none, errW_some] <;> rfl), by repeat (first | (with_reducible first | exact HB.out | apply below_alloc | apply pw_below_drewN | apply below_drew1) | exact HB.out)⟩

end Go.Proofs.Ytdmeackaiamkcaa.A
