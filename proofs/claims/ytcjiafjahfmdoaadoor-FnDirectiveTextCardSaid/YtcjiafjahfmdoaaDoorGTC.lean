-- Written by a program of this session (lift.py) out of the kit's print, and turned. Not trusted: Lean checks it.
import Derived.Test.YtcjiafjahfmdoaaDoorA2
import Derived.Test.YtcjiafjahfmdoaaDoorA3
import Derived.Test.YtcjiafjahfmdoaaDoorA12
import Derived.Test.YtcjiafjahfmdoaaDoorA13
namespace Go.Proofs.YtcjiafjahfmdoaaDoor.A
open Go.RowKit Go.Proofs.YtcjiafjahfmdoaaDoorW.PrintWords Go.Proofs.YtcjiafjahfmdoaaDoorW.PrintLast Go.Proofs.YtcjiafjahfmdoaaDoorW.PrintMore
attribute [local go_sem] max2_int min2_int max_two min_two max_three min_three max_four min_four   -- for this text's walks alone
set_option linter.unusedVariables false
set_option linter.unusedSimpArgs false

/-! ### spec_TextComments: function 17 -/
def spec_TextComments.l0 : Nat → ByteArray → List ByteArray → Int → Option (List ByteArray × Bool)
  | 0, _, _, _ => none
  | k + 1, x0, x4, x5 => if x5 < (x0.size : Int) then (if 0 ≤ x5 then (if x5 ≤ (x0.size : Int) then ((spec_begins.f (x0.extract (x5 : Int).toNat x0.size) (⟨#[47, 47]⟩ : ByteArray)).bind fun t119 => (if t119 = true then ((spec_lineEnd.f k (x0.extract (x5 : Int).toNat x0.size)).bind fun t120 => (if 0 ≤ t120 then (if t120 ≤ ((x0.extract (x5 : Int).toNat x0.size).size : Int) then (if x4.length < 8796093022208 then (if t120 = 0 then (some (([] : List ByteArray), false)) else (spec_TextComments.l0 k x0 (x4 ++ [(x0.extract (x5 : Int).toNat x0.size).extract 0 (t120 : Int).toNat]) (wrap64 (x5 + t120)))) else (none)) else (none)) else (none))) else ((spec_begins.f (x0.extract (x5 : Int).toNat x0.size) (⟨#[47, 42]⟩ : ByteArray)).bind fun t124 => (if t124 = true then (if 2 ≤ ((x0.extract (x5 : Int).toNat x0.size).size : Int) then ((spec_find.f k ((x0.extract (x5 : Int).toNat x0.size).extract 2 (x0.extract (x5 : Int).toNat x0.size).size) (⟨#[42, 47]⟩ : ByteArray)).bind fun t125 => (if t125 < 0 then (some (([] : List ByteArray), false)) else (if 0 ≤ (wrap64 (t125 + 4)) then (if (wrap64 (t125 + 4)) ≤ ((x0.extract (x5 : Int).toNat x0.size).size : Int) then (if x4.length < 8796093022208 then (if (wrap64 (t125 + 4)) = 0 then (some (([] : List ByteArray), false)) else (spec_TextComments.l0 k x0 (x4 ++ [(x0.extract (x5 : Int).toNat x0.size).extract 0 ((wrap64 (t125 + 4)) : Int).toNat]) (wrap64 (x5 + (wrap64 (t125 + 4)))))) else (none)) else (none)) else (none)))) else (none)) else (if 0 ≤ 1 then (if 1 ≤ ((x0.extract (x5 : Int).toNat x0.size).size : Int) then ((spec_has.f k (⟨#[34, 39, 96]⟩ : ByteArray) ((x0.extract (x5 : Int).toNat x0.size).extract 0 1)).bind fun t129 => (if t129 = true then ((spec_quoted.f k (x0.extract (x5 : Int).toNat x0.size)).bind fun t130 => (if t130 = 0 then (some (([] : List ByteArray), false)) else (spec_TextComments.l0 k x0 x4 (wrap64 (x5 + t130))))) else (if 1 = 0 then (some (([] : List ByteArray), false)) else (spec_TextComments.l0 k x0 x4 (wrap64 (x5 + 1)))))) else (none)) else (none)))))) else (none)) else (none)) else (some (x4, true))
def spec_TextComments.f (k : Nat) (a0 : ByteArray) : Option (List ByteArray × Bool) := spec_TextComments.l0 k a0 (([] : List ByteArray)) 0
theorem spec_TextComments.mono_l : ∀ k, (∀ y0 y1 y2, LeO (spec_TextComments.l0 k y0 y1 y2) (spec_TextComments.l0 (k + 1) y0 y1 y2))
  | 0 => fun _ _ _ r h => by simp [spec_TextComments.l0] at h
  | k + 1 => by
    have ih0 := spec_TextComments.mono_l k
    · intro y0 y1 y2
      unfold spec_TextComments.l0
      repeat' first
      | (with_reducible exact ih0 _ _ _)
      | (with_reducible exact spec_find.mono _ _ _)
      | (with_reducible exact spec_has.mono _ _ _)
      | (with_reducible exact spec_lineEnd.mono _ _)
      | (with_reducible exact spec_quoted.mono _ _)
      | (with_reducible exact LeO.refl _)
      | (with_reducible exact LeO.none _)
      | (with_reducible refine LeO.ite ?_ ?_)
      | (with_reducible refine LeO.bind ?_ (fun _ => ?_))
      | exact ih0 _ _ _
      | exact spec_find.mono _ _ _
      | exact spec_has.mono _ _ _
      | exact spec_lineEnd.mono _ _
      | exact spec_quoted.mono _ _
      | exact LeO.none _
      | refine LeO.ite ?_ ?_
      | refine LeO.bind ?_ (fun _ => ?_)
theorem spec_TextComments.mono : ∀ a0 k, LeO (spec_TextComments.f k a0) (spec_TextComments.f (k + 1) a0) := by
  intro a0 k
  have ih0 := spec_TextComments.mono_l k
  unfold spec_TextComments.f
  repeat' first
      | (with_reducible exact ih0 _ _ _)
      | (with_reducible exact spec_find.mono _ _ _)
      | (with_reducible exact spec_has.mono _ _ _)
      | (with_reducible exact spec_lineEnd.mono _ _)
      | (with_reducible exact spec_quoted.mono _ _)
      | (with_reducible exact LeO.refl _)
      | (with_reducible exact LeO.none _)
      | (with_reducible refine LeO.ite ?_ ?_)
      | (with_reducible refine LeO.bind ?_ (fun _ => ?_))
      | exact ih0 _ _ _
      | exact spec_find.mono _ _ _
      | exact spec_has.mono _ _ _
      | exact spec_lineEnd.mono _ _
      | exact spec_quoted.mono _ _
      | exact LeO.none _
      | refine LeO.ite ?_ ?_
      | refine LeO.bind ?_ (fun _ => ?_)
set_option maxHeartbeats 8000000 in
set_option maxRecDepth 100000 in
theorem spec_TextComments.calls (k : Nat) (a0 : ByteArray) (r1 : List ByteArray) (r2 : Bool) (w : World) (h : spec_TextComments.f k a0 = some (r1, r2)) :
    Calls Tryd.prog 17 #[.string a0] w fun e w' => ∃ v0_ : Value, e = .returned (.tuple #[v0_, .bool r2]) ∧ Kd.R Kd.string 9 w' w.heap.size (fun _ => True) v0_ r1 ∧ Below w.heap.size w w' := by
  have HB := Aside0.mk (Below.refl w.heap.size w)
  have H : (spec_TextComments.l0 k a0 (([] : List ByteArray)) 0) = some (r1, r2) := h
  clear h
  obtain ⟨y116, hy116⟩ : ∃ y_ : List ByteArray, y_ = (([] : List ByteArray)) := ⟨_, rfl⟩
  replace H : (spec_TextComments.l0 k a0 y116 0) = some (r1, r2) := by first | (rw [hy116]; with_reducible exact H) | (have H2_ := (Option.bind_some _ _).symm.trans H; rw [hy116]; with_reducible exact H2_) | (have H2_ := (Option.bind_some _ _).symm.trans H; with_reducible exact H2_) | with_reducible exact H | (rw [hy116]; exact H) | exact H
  have Ny116 := Aside0.mk hy116
  clear hy116
  have H' := Aside0.mk H
  clear H
  go_enter Tryd.func17, Tryd.ntmps17
  go_wp2_with (first | ((with_reducible refine gate_dst (N := 9) rfl ?_); refine Kd.R_lit Kd.string _ 9 ?hg (N := 9) ?hd (xs := ([] : List ByteArray)) (inner := []) (ok := fun _ => True) (okp := fun _ => True) ?hr ?hp (fun _ hk => hk) trivial (Below.refl _ _) (Nat.le_refl _) (by simp) ?_; (case hd => rfl); (case hg => rfl); (case hr => first | (go_simp; done) | (go_simp; rfl)); (case hp => exact (Reps.none _ _)); intro v117 w2 ho3 hb hg_ hnew_; clear hg_ hnew_; (first | rw [← Ny116.out] at ho3 | (simp only [Int.reduceToNat] at ho3; rw [← Ny116.out] at ho3)); have n0_ := Aside0.mk (Kd.R_lower ho3 (below_size (by repeat (first | (with_reducible first | exact HB.out | apply below_alloc | apply pw_below_drewN | apply below_drew1) | exact HB.out)))); have n1_ := Aside0.mk (below_step (by repeat (first | (with_reducible first | exact HB.out | apply below_alloc | apply pw_below_drewN | apply below_drew1) | exact HB.out)) hb); clear HB; have HO118 := n0_; have HB := n1_; clear n0_ n1_; clear hb ho3))
  go_loopg [4, 5] k (fun kq v4 v5 w' => ∃ (x4_1 : List ByteArray) (x5_1 : Int), v5 = .int .i64 x5_1 ∧ Aside0 (spec_TextComments.l0 kq a0 x4_1 x5_1 = some (r1, r2)) ∧ Aside0 (kq ≤ k) ∧ Aside0 (Kd.R Kd.string 9 w' w.heap.size (fun _ => True) v4 x4_1) ∧ Aside0 (Below w.heap.size w w'))
  case atStart => exact ⟨(y116), (0), (by first | rfl | (simp; done) | (simp [*]; done)), H', ⟨Nat.le_refl _⟩, ⟨by (with_reducible repeat (first | apply Kd.R_alloc | apply Kd.R_drewN | apply Kd.R_drew)); exact HO118.out⟩, ⟨by repeat (first | (with_reducible first | exact HB.out | apply below_alloc | apply pw_below_drewN | apply below_drew1) | exact HB.out)⟩⟩
  case round =>
    clear H'
    try clear c2
    try clear p2
    obtain ⟨x4_1, x5_1, rfl, HA, HK1, HO_4, HB⟩ := hrel
    cases gk with
    | zero => exact absurd HA.out (by simp [spec_TextComments.l0])
    | succ k1 =>
      have H := HA.out
      clear HA
      simp only [spec_TextComments.l0] at H
      by_cases c4 : x5_1 < (a0.size : Int)
      · rw [if_pos c4] at H
        have c4b0 : decide (x5_1 < (a0.size : Int)) = true := decide_eq_true c4
        clear c4
        by_cases c5 : 0 ≤ x5_1
        · rw [if_pos c5] at H
          have c5b0 := eq_true c5
          have c5b1 : decide (0 ≤ x5_1) = true := decide_eq_true c5
          clear c5
          by_cases c6 : x5_1 ≤ (a0.size : Int)
          · rw [if_pos c6] at H
            have c6b0 := eq_true c6
            have c6b1 : decide (x5_1 ≤ (a0.size : Int)) = true := decide_eq_true c6
            clear c6
            obtain ⟨rs, hrs⟩ : ∃ rs, a0.extract (x5_1 : Int).toNat a0.size = rs := ⟨_, rfl⟩
            rw [hrs] at H
            replace H := Option.bind_eq_some_iff.mp H
            obtain ⟨t119, A70, H⟩ := H
            replace H : (if t119 = true then ((spec_lineEnd.f k1 rs).bind fun t120 => (if 0 ≤ t120 then (if t120 ≤ (rs.size : Int) then (if x4_1.length < 8796093022208 then (if t120 = 0 then (some (([] : List ByteArray), false)) else (spec_TextComments.l0 k1 a0 (x4_1 ++ [rs.extract 0 (t120 : Int).toNat]) (wrap64 (x5_1 + t120)))) else (none)) else (none)) else (none))) else ((spec_begins.f rs (⟨#[47, 42]⟩ : ByteArray)).bind fun t124 => (if t124 = true then (if 2 ≤ (rs.size : Int) then ((spec_find.f k1 (rs.extract 2 rs.size) (⟨#[42, 47]⟩ : ByteArray)).bind fun t125 => (if t125 < 0 then (some (([] : List ByteArray), false)) else (if 0 ≤ (wrap64 (t125 + 4)) then (if (wrap64 (t125 + 4)) ≤ (rs.size : Int) then (if x4_1.length < 8796093022208 then (if (wrap64 (t125 + 4)) = 0 then (some (([] : List ByteArray), false)) else (spec_TextComments.l0 k1 a0 (x4_1 ++ [rs.extract 0 ((wrap64 (t125 + 4)) : Int).toNat]) (wrap64 (x5_1 + (wrap64 (t125 + 4)))))) else (none)) else (none)) else (none)))) else (none)) else (if 0 ≤ 1 then (if 1 ≤ (rs.size : Int) then ((spec_has.f k1 (⟨#[34, 39, 96]⟩ : ByteArray) (rs.extract 0 1)).bind fun t129 => (if t129 = true then ((spec_quoted.f k1 rs).bind fun t130 => (if t130 = 0 then (some (([] : List ByteArray), false)) else (spec_TextComments.l0 k1 a0 x4_1 (wrap64 (x5_1 + t130))))) else (if 1 = 0 then (some (([] : List ByteArray), false)) else (spec_TextComments.l0 k1 a0 x4_1 (wrap64 (x5_1 + 1)))))) else (none)) else (none))))) = some (r1, r2) := H
            have A7 := Aside0.mk A70
            clear A70
            by_cases c8 : t119 = true
            · subst c8
              have H1 : ((spec_lineEnd.f k1 rs).bind fun t120 => (if 0 ≤ t120 then (if t120 ≤ (rs.size : Int) then (if x4_1.length < 8796093022208 then (if t120 = 0 then (some (([] : List ByteArray), false)) else (spec_TextComments.l0 k1 a0 (x4_1 ++ [rs.extract 0 (t120 : Int).toNat]) (wrap64 (x5_1 + t120)))) else (none)) else (none)) else (none))) = some (r1, r2) := by rw [if_pos rfl] at H; exact H
              clear H
              have H := H1
              clear H1
              replace H := Option.bind_eq_some_iff.mp H
              obtain ⟨t120, A90, H⟩ := H
              replace H : (if 0 ≤ t120 then (if t120 ≤ (rs.size : Int) then (if x4_1.length < 8796093022208 then (if t120 = 0 then (some (([] : List ByteArray), false)) else (spec_TextComments.l0 k1 a0 (x4_1 ++ [rs.extract 0 (t120 : Int).toNat]) (wrap64 (x5_1 + t120)))) else (none)) else (none)) else (none)) = some (r1, r2) := H
              have A9 := Aside0.mk A90
              clear A90
              by_cases c10 : 0 ≤ t120
              · rw [if_pos c10] at H
                have c10b0 := eq_true c10
                have c10b1 : decide (0 ≤ t120) = true := decide_eq_true c10
                clear c10
                by_cases c11 : t120 ≤ (rs.size : Int)
                · rw [if_pos c11] at H
                  have c11b0 := eq_true c11
                  have c11b1 : decide (t120 ≤ (rs.size : Int)) = true := decide_eq_true c11
                  clear c11
                  by_cases c12 : x4_1.length < 8796093022208
                  · rw [if_pos c12] at H
                    have LMc12 := Aside0.mk c12
                    clear c12
                    obtain ⟨y121, hy121⟩ : ∃ y_ : List ByteArray, y_ = (x4_1 ++ [rs.extract 0 (t120 : Int).toNat]) := ⟨_, rfl⟩
                    replace H : (if t120 = 0 then (some (([] : List ByteArray), false)) else (spec_TextComments.l0 k1 a0 y121 (wrap64 (x5_1 + t120)))) = some (r1, r2) := by first | (rw [hy121]; with_reducible exact H) | (have H2_ := (Option.bind_some _ _).symm.trans H; rw [hy121]; with_reducible exact H2_) | (have H2_ := (Option.bind_some _ _).symm.trans H; with_reducible exact H2_) | with_reducible exact H | (rw [hy121]; exact H) | exact H
                    have Ny121 := Aside0.mk hy121
                    clear hy121
                    by_cases c13 : t120 = 0
                    · rw [if_pos c13] at H
                      have c13b0 : (t120 == 0) = true := beq_iff_eq.mpr c13
                      have c13b1 : (t120 != 0) = false := bne_eq_false_iff_eq.mpr c13
                      clear c13
                      simp only [Option.some.injEq, Prod.mk.injEq] at H
                      obtain ⟨rfl, rfl⟩ := H
                      go_wp2_with (first | ((with_reducible refine gate_callee (f := 12) rfl ?_); refine goesL_ (some 19) rfl rfl Tryd.func12 (by kernel_rfl) rfl #[.string rs, .string (⟨#[47, 47]⟩ : ByteArray)] rfl (by (try simp only [List.map_toArray, List.map_cons, List.map_nil]); first | done | rfl | (simp only [List.length_drop, List.length_take]; rfl)) ?_; (with_reducible refine (spec_begins.calls rs (⟨#[47, 47]⟩ : ByteArray) true _ A7.out).mono ?_); rintro e w' ⟨rfl, ⟨nd, rfl⟩⟩; refine ⟨_, rfl, ?_⟩) | ((with_reducible refine gate_callee (f := 29) rfl ?_); refine goesL_ (some 21) rfl rfl Tryd.func29 (by kernel_rfl) rfl #[.string rs] rfl (by (try simp only [List.map_toArray, List.map_cons, List.map_nil]); first | done | rfl | (simp only [List.length_drop, List.length_take]; rfl)) ?_; (with_reducible refine (spec_lineEnd.calls k1 rs t120 _ A9.out).mono ?_); rintro e w' ⟨rfl, ⟨nd, rfl⟩⟩; refine ⟨_, rfl, ?_⟩) | ((with_reducible refine gate_builtin (b := .append) (xs := #[.tmp 22, .tmp 26]) rfl ?_); at_builtin; refine Kd.R_append Kd.string (w0 := w) w.heap.size rfl (.tmp 22) (.tmp 26) 29 9 (.string ⟨#[]⟩) 16 rfl Tryd.underlying29 info9 rfl (by decide) (by omega) u4 x4_1 (rs.extract 0 (t120 : Int).toNat) [.string (rs.extract 0 (t120 : Int).toNat)] (fun _ => True) (fun _ => False) rfl rfl ?aP (fun _ hk => hk.elim) ?aF ?aO ?aB ?aS ?aL ?_; (case aP => exact rfl); (case aB => exact (by repeat (first | (with_reducible first | exact HB.out | apply below_alloc | apply pw_below_drewN | apply below_drew1) | exact HB.out))); (case aF => exact (fun _ _ => trivial)); (case aO => exact (by (with_reducible repeat (first | apply Kd.R_alloc | apply Kd.R_drewN | apply Kd.R_drew)); exact HO_4.out)); (case aS => exact (below_size (by repeat (first | (with_reducible first | exact HB.out | apply below_alloc | apply pw_below_drewN | apply below_drew1) | exact HB.out)))); (case aL => have := LMc12.out; omega); intro v122 w14 ho hb hg hat; rw [← Ny121.out] at ho; have n0_ := Aside0.mk (hb); have n1_ := Aside0.mk (ho); clear HB; clear HO_4; have HB := n0_; have HO123 := n1_; clear n0_ n1_; clear ho hb hg hat))
                      go_ret2
                      exact ⟨_, by first | rfl | (simp [errW_none, errW_some] <;> rfl) | (simp [*, errW_none, errW_some] <;> rfl), by first | exact Kd.R_nil _ _ _ _ _ | exact Kd.N_nil _ _ _ _ _ | exact Kd.V_nil _ _ _ _ _ | exact Kd.Q_nil _ _ _ _ _ | exact Kd.S_nil _ _ _ _ _, by repeat (first | (with_reducible first | exact HB.out | apply below_alloc | apply pw_below_drewN | apply below_drew1) | exact HB.out)⟩
                    · rw [if_neg c13] at H
                      have c13b0 : (t120 == 0) = false := beq_eq_false_iff_ne.mpr c13
                      have c13b1 : (t120 != 0) = true := bne_iff_ne.mpr c13
                      have H' := Aside0.mk H
                      clear H
                      go_wp2_with (first | ((with_reducible refine gate_callee (f := 12) rfl ?_); refine goesL_ (some 19) rfl rfl Tryd.func12 (by kernel_rfl) rfl #[.string rs, .string (⟨#[47, 47]⟩ : ByteArray)] rfl (by (try simp only [List.map_toArray, List.map_cons, List.map_nil]); first | done | rfl | (simp only [List.length_drop, List.length_take]; rfl)) ?_; (with_reducible refine (spec_begins.calls rs (⟨#[47, 47]⟩ : ByteArray) true _ A7.out).mono ?_); rintro e w' ⟨rfl, ⟨nd, rfl⟩⟩; refine ⟨_, rfl, ?_⟩) | ((with_reducible refine gate_callee (f := 29) rfl ?_); refine goesL_ (some 21) rfl rfl Tryd.func29 (by kernel_rfl) rfl #[.string rs] rfl (by (try simp only [List.map_toArray, List.map_cons, List.map_nil]); first | done | rfl | (simp only [List.length_drop, List.length_take]; rfl)) ?_; (with_reducible refine (spec_lineEnd.calls k1 rs t120 _ A9.out).mono ?_); rintro e w' ⟨rfl, ⟨nd, rfl⟩⟩; refine ⟨_, rfl, ?_⟩) | ((with_reducible refine gate_builtin (b := .append) (xs := #[.tmp 22, .tmp 26]) rfl ?_); at_builtin; refine Kd.R_append Kd.string (w0 := w) w.heap.size rfl (.tmp 22) (.tmp 26) 29 9 (.string ⟨#[]⟩) 16 rfl Tryd.underlying29 info9 rfl (by decide) (by omega) u4 x4_1 (rs.extract 0 (t120 : Int).toNat) [.string (rs.extract 0 (t120 : Int).toNat)] (fun _ => True) (fun _ => False) rfl rfl ?aP (fun _ hk => hk.elim) ?aF ?aO ?aB ?aS ?aL ?_; (case aP => exact rfl); (case aB => exact (by repeat (first | (with_reducible first | exact HB.out | apply below_alloc | apply pw_below_drewN | apply below_drew1) | exact HB.out))); (case aF => exact (fun _ _ => trivial)); (case aO => exact (by (with_reducible repeat (first | apply Kd.R_alloc | apply Kd.R_drewN | apply Kd.R_drew)); exact HO_4.out)); (case aS => exact (below_size (by repeat (first | (with_reducible first | exact HB.out | apply below_alloc | apply pw_below_drewN | apply below_drew1) | exact HB.out)))); (case aL => have := LMc12.out; omega); intro v122 w15 ho hb hg hat; rw [← Ny121.out] at ho; have n0_ := Aside0.mk (hb); have n1_ := Aside0.mk (ho); clear HB; clear HO_4; have HB := n0_; have HO123 := n1_; clear n0_ n1_; clear ho hb hg hat))
                      go_roundg k1
                      case measure => have := HK1.out; omega
                      case rel => exact ⟨(y121), (wrap64 (x5_1 + t120)), (by first | rfl | (simp; done) | (simp [*]; done)), H', ⟨by have := HK1.out; omega⟩, ⟨by (with_reducible repeat (first | apply Kd.R_alloc | apply Kd.R_drewN | apply Kd.R_drew)); exact HO123.out⟩, ⟨by repeat (first | (with_reducible first | exact HB.out | apply below_alloc | apply pw_below_drewN | apply below_drew1) | exact HB.out)⟩⟩
                  · rw [if_neg c12] at H
                    exact absurd H (by simp)
                · rw [if_neg c11] at H
                  exact absurd H (by simp)
              · rw [if_neg c10] at H
                exact absurd H (by simp)
            · replace c8 := Bool.eq_false_iff.mpr c8
              subst c8
              have H1 : ((spec_begins.f rs (⟨#[47, 42]⟩ : ByteArray)).bind fun t124 => (if t124 = true then (if 2 ≤ (rs.size : Int) then ((spec_find.f k1 (rs.extract 2 rs.size) (⟨#[42, 47]⟩ : ByteArray)).bind fun t125 => (if t125 < 0 then (some (([] : List ByteArray), false)) else (if 0 ≤ (wrap64 (t125 + 4)) then (if (wrap64 (t125 + 4)) ≤ (rs.size : Int) then (if x4_1.length < 8796093022208 then (if (wrap64 (t125 + 4)) = 0 then (some (([] : List ByteArray), false)) else (spec_TextComments.l0 k1 a0 (x4_1 ++ [rs.extract 0 ((wrap64 (t125 + 4)) : Int).toNat]) (wrap64 (x5_1 + (wrap64 (t125 + 4)))))) else (none)) else (none)) else (none)))) else (none)) else (if 0 ≤ 1 then (if 1 ≤ (rs.size : Int) then ((spec_has.f k1 (⟨#[34, 39, 96]⟩ : ByteArray) (rs.extract 0 1)).bind fun t129 => (if t129 = true then ((spec_quoted.f k1 rs).bind fun t130 => (if t130 = 0 then (some (([] : List ByteArray), false)) else (spec_TextComments.l0 k1 a0 x4_1 (wrap64 (x5_1 + t130))))) else (if 1 = 0 then (some (([] : List ByteArray), false)) else (spec_TextComments.l0 k1 a0 x4_1 (wrap64 (x5_1 + 1)))))) else (none)) else (none)))) = some (r1, r2) := by rw [if_neg (show ¬ (false = true) by decide)] at H; exact H
              clear H
              have H := H1
              clear H1
              replace H := Option.bind_eq_some_iff.mp H
              obtain ⟨t124, A160, H⟩ := H
              replace H : (if t124 = true then (if 2 ≤ (rs.size : Int) then ((spec_find.f k1 (rs.extract 2 rs.size) (⟨#[42, 47]⟩ : ByteArray)).bind fun t125 => (if t125 < 0 then (some (([] : List ByteArray), false)) else (if 0 ≤ (wrap64 (t125 + 4)) then (if (wrap64 (t125 + 4)) ≤ (rs.size : Int) then (if x4_1.length < 8796093022208 then (if (wrap64 (t125 + 4)) = 0 then (some (([] : List ByteArray), false)) else (spec_TextComments.l0 k1 a0 (x4_1 ++ [rs.extract 0 ((wrap64 (t125 + 4)) : Int).toNat]) (wrap64 (x5_1 + (wrap64 (t125 + 4)))))) else (none)) else (none)) else (none)))) else (none)) else (if 0 ≤ 1 then (if 1 ≤ (rs.size : Int) then ((spec_has.f k1 (⟨#[34, 39, 96]⟩ : ByteArray) (rs.extract 0 1)).bind fun t129 => (if t129 = true then ((spec_quoted.f k1 rs).bind fun t130 => (if t130 = 0 then (some (([] : List ByteArray), false)) else (spec_TextComments.l0 k1 a0 x4_1 (wrap64 (x5_1 + t130))))) else (if 1 = 0 then (some (([] : List ByteArray), false)) else (spec_TextComments.l0 k1 a0 x4_1 (wrap64 (x5_1 + 1)))))) else (none)) else (none))) = some (r1, r2) := H
              have A16 := Aside0.mk A160
              clear A160
              by_cases c17 : t124 = true
              · subst c17
                have H1 : (if 2 ≤ (rs.size : Int) then ((spec_find.f k1 (rs.extract 2 rs.size) (⟨#[42, 47]⟩ : ByteArray)).bind fun t125 => (if t125 < 0 then (some (([] : List ByteArray), false)) else (if 0 ≤ (wrap64 (t125 + 4)) then (if (wrap64 (t125 + 4)) ≤ (rs.size : Int) then (if x4_1.length < 8796093022208 then (if (wrap64 (t125 + 4)) = 0 then (some (([] : List ByteArray), false)) else (spec_TextComments.l0 k1 a0 (x4_1 ++ [rs.extract 0 ((wrap64 (t125 + 4)) : Int).toNat]) (wrap64 (x5_1 + (wrap64 (t125 + 4)))))) else (none)) else (none)) else (none)))) else (none)) = some (r1, r2) := by rw [if_pos rfl] at H; exact H
                clear H
                have H := H1
                clear H1
                by_cases c18 : 2 ≤ (rs.size : Int)
                · rw [if_pos c18] at H
                  have c18b0 := eq_true c18
                  have c18b1 : decide (2 ≤ (rs.size : Int)) = true := decide_eq_true c18
                  clear c18
                  replace H := Option.bind_eq_some_iff.mp H
                  obtain ⟨t125, A190, H⟩ := H
                  replace H : (if t125 < 0 then (some (([] : List ByteArray), false)) else (if 0 ≤ (wrap64 (t125 + 4)) then (if (wrap64 (t125 + 4)) ≤ (rs.size : Int) then (if x4_1.length < 8796093022208 then (if (wrap64 (t125 + 4)) = 0 then (some (([] : List ByteArray), false)) else (spec_TextComments.l0 k1 a0 (x4_1 ++ [rs.extract 0 ((wrap64 (t125 + 4)) : Int).toNat]) (wrap64 (x5_1 + (wrap64 (t125 + 4)))))) else (none)) else (none)) else (none))) = some (r1, r2) := H
                  have A19 := Aside0.mk A190
                  clear A190
                  by_cases c20 : t125 < 0
                  · rw [if_pos c20] at H
                    have c20b0 : decide (t125 < 0) = true := decide_eq_true c20
                    clear c20
                    simp only [Option.some.injEq, Prod.mk.injEq] at H
                    obtain ⟨rfl, rfl⟩ := H
                    go_wp2_with (first | ((with_reducible refine gate_callee (f := 12) rfl ?_); refine goesL_ (some 19) rfl rfl Tryd.func12 (by kernel_rfl) rfl #[.string rs, .string (⟨#[47, 47]⟩ : ByteArray)] rfl (by (try simp only [List.map_toArray, List.map_cons, List.map_nil]); first | done | rfl | (simp only [List.length_drop, List.length_take]; rfl)) ?_; (with_reducible refine (spec_begins.calls rs (⟨#[47, 47]⟩ : ByteArray) false _ A7.out).mono ?_); rintro e w' ⟨rfl, ⟨nd, rfl⟩⟩; refine ⟨_, rfl, ?_⟩) | ((with_reducible refine gate_callee (f := 12) rfl ?_); refine goesL_ (some 30) rfl rfl Tryd.func12 (by kernel_rfl) rfl #[.string rs, .string (⟨#[47, 42]⟩ : ByteArray)] rfl (by (try simp only [List.map_toArray, List.map_cons, List.map_nil]); first | done | rfl | (simp only [List.length_drop, List.length_take]; rfl)) ?_; (with_reducible refine (spec_begins.calls rs (⟨#[47, 42]⟩ : ByteArray) true _ A16.out).mono ?_); rintro e w' ⟨rfl, ⟨nd, rfl⟩⟩; refine ⟨_, rfl, ?_⟩) | ((with_reducible refine gate_callee (f := 30) rfl ?_); refine goesL_ (some 33) rfl rfl Tryd.func30 (by kernel_rfl) rfl #[.string (rs.extract 2 rs.size), .string (⟨#[42, 47]⟩ : ByteArray)] rfl (by (try simp only [List.map_toArray, List.map_cons, List.map_nil]); first | done | rfl | (simp only [List.length_drop, List.length_take]; rfl)) ?_; (with_reducible refine (spec_find.calls k1 (rs.extract 2 rs.size) (⟨#[42, 47]⟩ : ByteArray) t125 _ A19.out).mono ?_); rintro e w' ⟨rfl, ⟨nd, rfl⟩⟩; refine ⟨_, rfl, ?_⟩))
                    go_ret2
                    exact ⟨_, by first | rfl | (simp [errW_none, errW_some] <;> rfl) | (simp [*, errW_none, errW_some] <;> rfl), by first | exact Kd.R_nil _ _ _ _ _ | exact Kd.N_nil _ _ _ _ _ | exact Kd.V_nil _ _ _ _ _ | exact Kd.Q_nil _ _ _ _ _ | exact Kd.S_nil _ _ _ _ _, by repeat (first | (with_reducible first | exact HB.out | apply below_alloc | apply pw_below_drewN | apply below_drew1) | exact HB.out)⟩
                  · rw [if_neg c20] at H
                    have c20b0 : decide (t125 < 0) = false := decide_eq_false c20
                    clear c20
                    obtain ⟨ji21, hji21⟩ : ∃ j_ : Int, (wrap64 (t125 + 4)) = j_ := ⟨_, rfl⟩
                    replace H : (if 0 ≤ (ji21) then (if (ji21) ≤ (rs.size : Int) then (if x4_1.length < 8796093022208 then (if (ji21) = 0 then (some (([] : List ByteArray), false)) else (spec_TextComments.l0 k1 a0 (x4_1 ++ [rs.extract 0 ((ji21) : Int).toNat]) (wrap64 (x5_1 + (ji21))))) else (none)) else (none)) else (none)) = some (r1, r2) := by first | (rw [hji21] at H; exact H) | (simp only [hji21] at H ⊢; exact H)
                    (try rw [hji21] at A7)
                    (try rw [hji21] at A16)
                    (try rw [hji21] at A19)
                    have hji21w : (IntKind.i64.wrap (t125 + 4)) = ji21 := (i64_w _).trans hji21
                    by_cases c22 : 0 ≤ (ji21)
                    · rw [if_pos c22] at H
                      have c22b0 := eq_true c22
                      have c22b1 : decide (0 ≤ (ji21)) = true := decide_eq_true c22
                      clear c22
                      by_cases c23 : (ji21) ≤ (rs.size : Int)
                      · rw [if_pos c23] at H
                        have c23b0 := eq_true c23
                        have c23b1 : decide ((ji21) ≤ (rs.size : Int)) = true := decide_eq_true c23
                        clear c23
                        by_cases c24 : x4_1.length < 8796093022208
                        · rw [if_pos c24] at H
                          have LMc24 := Aside0.mk c24
                          clear c24
                          obtain ⟨y126, hy126⟩ : ∃ y_ : List ByteArray, y_ = (x4_1 ++ [rs.extract 0 ((ji21) : Int).toNat]) := ⟨_, rfl⟩
                          replace H : (if (ji21) = 0 then (some (([] : List ByteArray), false)) else (spec_TextComments.l0 k1 a0 y126 (wrap64 (x5_1 + (ji21))))) = some (r1, r2) := by first | (rw [hy126]; with_reducible exact H) | (have H2_ := (Option.bind_some _ _).symm.trans H; rw [hy126]; with_reducible exact H2_) | (have H2_ := (Option.bind_some _ _).symm.trans H; with_reducible exact H2_) | with_reducible exact H | (rw [hy126]; exact H) | exact H
                          have Ny126 := Aside0.mk hy126
                          clear hy126
                          by_cases c25 : (ji21) = 0
                          · rw [if_pos c25] at H
                            have c25b0 : ((ji21) == 0) = true := beq_iff_eq.mpr c25
                            have c25b1 : ((ji21) != 0) = false := bne_eq_false_iff_eq.mpr c25
                            clear c25
                            simp only [Option.some.injEq, Prod.mk.injEq] at H
                            obtain ⟨rfl, rfl⟩ := H
                            go_wp2_with (first | ((with_reducible refine gate_callee (f := 12) rfl ?_); refine goesL_ (some 19) rfl rfl Tryd.func12 (by kernel_rfl) rfl #[.string rs, .string (⟨#[47, 47]⟩ : ByteArray)] rfl (by (try simp only [List.map_toArray, List.map_cons, List.map_nil]); first | done | rfl | (simp only [List.length_drop, List.length_take]; rfl)) ?_; (with_reducible refine (spec_begins.calls rs (⟨#[47, 47]⟩ : ByteArray) false _ A7.out).mono ?_); rintro e w' ⟨rfl, ⟨nd, rfl⟩⟩; refine ⟨_, rfl, ?_⟩) | ((with_reducible refine gate_callee (f := 12) rfl ?_); refine goesL_ (some 30) rfl rfl Tryd.func12 (by kernel_rfl) rfl #[.string rs, .string (⟨#[47, 42]⟩ : ByteArray)] rfl (by (try simp only [List.map_toArray, List.map_cons, List.map_nil]); first | done | rfl | (simp only [List.length_drop, List.length_take]; rfl)) ?_; (with_reducible refine (spec_begins.calls rs (⟨#[47, 42]⟩ : ByteArray) true _ A16.out).mono ?_); rintro e w' ⟨rfl, ⟨nd, rfl⟩⟩; refine ⟨_, rfl, ?_⟩) | ((with_reducible refine gate_callee (f := 30) rfl ?_); refine goesL_ (some 33) rfl rfl Tryd.func30 (by kernel_rfl) rfl #[.string (rs.extract 2 rs.size), .string (⟨#[42, 47]⟩ : ByteArray)] rfl (by (try simp only [List.map_toArray, List.map_cons, List.map_nil]); first | done | rfl | (simp only [List.length_drop, List.length_take]; rfl)) ?_; (with_reducible refine (spec_find.calls k1 (rs.extract 2 rs.size) (⟨#[42, 47]⟩ : ByteArray) t125 _ A19.out).mono ?_); rintro e w' ⟨rfl, ⟨nd, rfl⟩⟩; refine ⟨_, rfl, ?_⟩) | ((with_reducible refine gate_builtin (b := .append) (xs := #[.tmp 38, .tmp 42]) rfl ?_); at_builtin; refine Kd.R_append Kd.string (w0 := w) w.heap.size rfl (.tmp 38) (.tmp 42) 29 9 (.string ⟨#[]⟩) 16 rfl Tryd.underlying29 info9 rfl (by decide) (by omega) u4 x4_1 (rs.extract 0 ((ji21) : Int).toNat) [.string (rs.extract 0 ((ji21) : Int).toNat)] (fun _ => True) (fun _ => False) rfl rfl ?aP (fun _ hk => hk.elim) ?aF ?aO ?aB ?aS ?aL ?_; (case aP => exact rfl); (case aB => exact (by repeat (first | (with_reducible first | exact HB.out | apply below_alloc | apply pw_below_drewN | apply below_drew1) | exact HB.out))); (case aF => exact (fun _ _ => trivial)); (case aO => exact (by (with_reducible repeat (first | apply Kd.R_alloc | apply Kd.R_drewN | apply Kd.R_drew)); exact HO_4.out)); (case aS => exact (below_size (by repeat (first | (with_reducible first | exact HB.out | apply below_alloc | apply pw_below_drewN | apply below_drew1) | exact HB.out)))); (case aL => have := LMc24.out; omega); intro v127 w26 ho hb hg hat; rw [← Ny126.out] at ho; have n0_ := Aside0.mk (hb); have n1_ := Aside0.mk (ho); clear HB; clear HO_4; have HB := n0_; have HO128 := n1_; clear n0_ n1_; clear ho hb hg hat))
                            go_ret2
                            exact ⟨_, by first | rfl | (simp [errW_none, errW_some] <;> rfl) | (simp only [← hji21]; first | rfl | (simp [errW_none, errW_some] <;> rfl)) | (simp [*, errW_none, errW_some] <;> rfl), by first | exact Kd.R_nil _ _ _ _ _ | exact Kd.N_nil _ _ _ _ _ | exact Kd.V_nil _ _ _ _ _ | exact Kd.Q_nil _ _ _ _ _ | exact Kd.S_nil _ _ _ _ _, by repeat (first | (with_reducible first | exact HB.out | apply below_alloc | apply pw_below_drewN | apply below_drew1) | exact HB.out)⟩
                          · rw [if_neg c25] at H
                            have c25b0 : ((ji21) == 0) = false := beq_eq_false_iff_ne.mpr c25
                            have c25b1 : ((ji21) != 0) = true := bne_iff_ne.mpr c25
                            have H' := Aside0.mk H
                            clear H
                            go_wp2_with (first | ((with_reducible refine gate_callee (f := 12) rfl ?_); refine goesL_ (some 19) rfl rfl Tryd.func12 (by kernel_rfl) rfl #[.string rs, .string (⟨#[47, 47]⟩ : ByteArray)] rfl (by (try simp only [List.map_toArray, List.map_cons, List.map_nil]); first | done | rfl | (simp only [List.length_drop, List.length_take]; rfl)) ?_; (with_reducible refine (spec_begins.calls rs (⟨#[47, 47]⟩ : ByteArray) false _ A7.out).mono ?_); rintro e w' ⟨rfl, ⟨nd, rfl⟩⟩; refine ⟨_, rfl, ?_⟩) | ((with_reducible refine gate_callee (f := 12) rfl ?_); refine goesL_ (some 30) rfl rfl Tryd.func12 (by kernel_rfl) rfl #[.string rs, .string (⟨#[47, 42]⟩ : ByteArray)] rfl (by (try simp only [List.map_toArray, List.map_cons, List.map_nil]); first | done | rfl | (simp only [List.length_drop, List.length_take]; rfl)) ?_; (with_reducible refine (spec_begins.calls rs (⟨#[47, 42]⟩ : ByteArray) true _ A16.out).mono ?_); rintro e w' ⟨rfl, ⟨nd, rfl⟩⟩; refine ⟨_, rfl, ?_⟩) | ((with_reducible refine gate_callee (f := 30) rfl ?_); refine goesL_ (some 33) rfl rfl Tryd.func30 (by kernel_rfl) rfl #[.string (rs.extract 2 rs.size), .string (⟨#[42, 47]⟩ : ByteArray)] rfl (by (try simp only [List.map_toArray, List.map_cons, List.map_nil]); first | done | rfl | (simp only [List.length_drop, List.length_take]; rfl)) ?_; (with_reducible refine (spec_find.calls k1 (rs.extract 2 rs.size) (⟨#[42, 47]⟩ : ByteArray) t125 _ A19.out).mono ?_); rintro e w' ⟨rfl, ⟨nd, rfl⟩⟩; refine ⟨_, rfl, ?_⟩) | ((with_reducible refine gate_builtin (b := .append) (xs := #[.tmp 38, .tmp 42]) rfl ?_); at_builtin; refine Kd.R_append Kd.string (w0 := w) w.heap.size rfl (.tmp 38) (.tmp 42) 29 9 (.string ⟨#[]⟩) 16 rfl Tryd.underlying29 info9 rfl (by decide) (by omega) u4 x4_1 (rs.extract 0 ((ji21) : Int).toNat) [.string (rs.extract 0 ((ji21) : Int).toNat)] (fun _ => True) (fun _ => False) rfl rfl ?aP (fun _ hk => hk.elim) ?aF ?aO ?aB ?aS ?aL ?_; (case aP => exact rfl); (case aB => exact (by repeat (first | (with_reducible first | exact HB.out | apply below_alloc | apply pw_below_drewN | apply below_drew1) | exact HB.out))); (case aF => exact (fun _ _ => trivial)); (case aO => exact (by (with_reducible repeat (first | apply Kd.R_alloc | apply Kd.R_drewN | apply Kd.R_drew)); exact HO_4.out)); (case aS => exact (below_size (by repeat (first | (with_reducible first | exact HB.out | apply below_alloc | apply pw_below_drewN | apply below_drew1) | exact HB.out)))); (case aL => have := LMc24.out; omega); intro v127 w27 ho hb hg hat; rw [← Ny126.out] at ho; have n0_ := Aside0.mk (hb); have n1_ := Aside0.mk (ho); clear HB; clear HO_4; have HB := n0_; have HO128 := n1_; clear n0_ n1_; clear ho hb hg hat))
                            go_roundg k1
                            case measure => have := HK1.out; omega
                            case rel => exact ⟨(y126), (wrap64 (x5_1 + (ji21))), (by first | rfl | (simp; done) | (simp only [← hji21] <;> (first | rfl | simp)) | (simp [*]; done)), H', ⟨by have := HK1.out; omega⟩, ⟨by (with_reducible repeat (first | apply Kd.R_alloc | apply Kd.R_drewN | apply Kd.R_drew)); exact HO128.out⟩, ⟨by repeat (first | (with_reducible first | exact HB.out | apply below_alloc | apply pw_below_drewN | apply below_drew1) | exact HB.out)⟩⟩
                        · rw [if_neg c24] at H
                          exact absurd H (by simp)
                      · rw [if_neg c23] at H
                        exact absurd H (by simp)
                    · rw [if_neg c22] at H
                      exact absurd H (by simp)
                · rw [if_neg c18] at H
                  exact absurd H (by simp)
              · replace c17 := Bool.eq_false_iff.mpr c17
                subst c17
                have H1 : (if 0 ≤ 1 then (if 1 ≤ (rs.size : Int) then ((spec_has.f k1 (⟨#[34, 39, 96]⟩ : ByteArray) (rs.extract 0 1)).bind fun t129 => (if t129 = true then ((spec_quoted.f k1 rs).bind fun t130 => (if t130 = 0 then (some (([] : List ByteArray), false)) else (spec_TextComments.l0 k1 a0 x4_1 (wrap64 (x5_1 + t130))))) else (if 1 = 0 then (some (([] : List ByteArray), false)) else (spec_TextComments.l0 k1 a0 x4_1 (wrap64 (x5_1 + 1)))))) else (none)) else (none)) = some (r1, r2) := by rw [if_neg (show ¬ (false = true) by decide)] at H; exact H
                clear H
                have H := H1
                clear H1
                by_cases c28 : 0 ≤ 1
                · rw [if_pos c28] at H
                  have c28b0 := eq_true c28
                  have c28b1 : decide (0 ≤ 1) = true := decide_eq_true c28
                  clear c28
                  by_cases c29 : 1 ≤ (rs.size : Int)
                  · rw [if_pos c29] at H
                    have c29b0 := eq_true c29
                    have c29b1 : decide (1 ≤ (rs.size : Int)) = true := decide_eq_true c29
                    clear c29
                    replace H := Option.bind_eq_some_iff.mp H
                    obtain ⟨t129, A300, H⟩ := H
                    replace H : (if t129 = true then ((spec_quoted.f k1 rs).bind fun t130 => (if t130 = 0 then (some (([] : List ByteArray), false)) else (spec_TextComments.l0 k1 a0 x4_1 (wrap64 (x5_1 + t130))))) else (if 1 = 0 then (some (([] : List ByteArray), false)) else (spec_TextComments.l0 k1 a0 x4_1 (wrap64 (x5_1 + 1))))) = some (r1, r2) := H
                    have A30 := Aside0.mk A300
                    clear A300
                    by_cases c31 : t129 = true
                    · subst c31
                      have H1 : ((spec_quoted.f k1 rs).bind fun t130 => (if t130 = 0 then (some (([] : List ByteArray), false)) else (spec_TextComments.l0 k1 a0 x4_1 (wrap64 (x5_1 + t130))))) = some (r1, r2) := by rw [if_pos rfl] at H; exact H
                      clear H
                      have H := H1
                      clear H1
                      replace H := Option.bind_eq_some_iff.mp H
                      obtain ⟨t130, A320, H⟩ := H
                      replace H : (if t130 = 0 then (some (([] : List ByteArray), false)) else (spec_TextComments.l0 k1 a0 x4_1 (wrap64 (x5_1 + t130)))) = some (r1, r2) := H
                      have A32 := Aside0.mk A320
                      clear A320
                      by_cases c33 : t130 = 0
                      · rw [if_pos c33] at H
                        have c33b0 : (t130 == 0) = true := beq_iff_eq.mpr c33
                        have c33b1 : (t130 != 0) = false := bne_eq_false_iff_eq.mpr c33
                        clear c33
                        simp only [Option.some.injEq, Prod.mk.injEq] at H
                        obtain ⟨rfl, rfl⟩ := H
                        go_wp2_with (first | ((with_reducible refine gate_callee (f := 12) rfl ?_); refine goesL_ (some 19) rfl rfl Tryd.func12 (by kernel_rfl) rfl #[.string rs, .string (⟨#[47, 47]⟩ : ByteArray)] rfl (by (try simp only [List.map_toArray, List.map_cons, List.map_nil]); first | done | rfl | (simp only [List.length_drop, List.length_take]; rfl)) ?_; (with_reducible refine (spec_begins.calls rs (⟨#[47, 47]⟩ : ByteArray) false _ A7.out).mono ?_); rintro e w' ⟨rfl, ⟨nd, rfl⟩⟩; refine ⟨_, rfl, ?_⟩) | ((with_reducible refine gate_callee (f := 12) rfl ?_); refine goesL_ (some 30) rfl rfl Tryd.func12 (by kernel_rfl) rfl #[.string rs, .string (⟨#[47, 42]⟩ : ByteArray)] rfl (by (try simp only [List.map_toArray, List.map_cons, List.map_nil]); first | done | rfl | (simp only [List.length_drop, List.length_take]; rfl)) ?_; (with_reducible refine (spec_begins.calls rs (⟨#[47, 42]⟩ : ByteArray) false _ A16.out).mono ?_); rintro e w' ⟨rfl, ⟨nd, rfl⟩⟩; refine ⟨_, rfl, ?_⟩) | ((with_reducible refine gate_callee (f := 31) rfl ?_); refine goesL_ (some 47) rfl rfl Tryd.func31 (by kernel_rfl) rfl #[.string (⟨#[34, 39, 96]⟩ : ByteArray), .string (rs.extract 0 1)] rfl (by (try simp only [List.map_toArray, List.map_cons, List.map_nil]); first | done | rfl | (simp only [List.length_drop, List.length_take]; rfl)) ?_; (with_reducible refine (spec_has.calls k1 (⟨#[34, 39, 96]⟩ : ByteArray) (rs.extract 0 1) true _ A30.out).mono ?_); rintro e w' ⟨rfl, ⟨nd, rfl⟩⟩; refine ⟨_, rfl, ?_⟩) | ((with_reducible refine gate_callee (f := 32) rfl ?_); refine goesL_ (some 49) rfl rfl Tryd.func32 (by kernel_rfl) rfl #[.string rs] rfl (by (try simp only [List.map_toArray, List.map_cons, List.map_nil]); first | done | rfl | (simp only [List.length_drop, List.length_take]; rfl)) ?_; (with_reducible refine (spec_quoted.calls k1 rs t130 _ A32.out).mono ?_); rintro e w' ⟨rfl, ⟨nd, rfl⟩⟩; refine ⟨_, rfl, ?_⟩))
                        go_ret2
                        exact ⟨_, by first | rfl | (simp [errW_none, errW_some] <;> rfl) | (simp [*, errW_none, errW_some] <;> rfl), by first | exact Kd.R_nil _ _ _ _ _ | exact Kd.N_nil _ _ _ _ _ | exact Kd.V_nil _ _ _ _ _ | exact Kd.Q_nil _ _ _ _ _ | exact Kd.S_nil _ _ _ _ _, by repeat (first | (with_reducible first | exact HB.out | apply below_alloc | apply pw_below_drewN | apply below_drew1) | exact HB.out)⟩
                      · rw [if_neg c33] at H
                        have c33b0 : (t130 == 0) = false := beq_eq_false_iff_ne.mpr c33
                        have c33b1 : (t130 != 0) = true := bne_iff_ne.mpr c33
                        have H' := Aside0.mk H
                        clear H
                        go_wp2_with (first | ((with_reducible refine gate_callee (f := 12) rfl ?_); refine goesL_ (some 19) rfl rfl Tryd.func12 (by kernel_rfl) rfl #[.string rs, .string (⟨#[47, 47]⟩ : ByteArray)] rfl (by (try simp only [List.map_toArray, List.map_cons, List.map_nil]); first | done | rfl | (simp only [List.length_drop, List.length_take]; rfl)) ?_; (with_reducible refine (spec_begins.calls rs (⟨#[47, 47]⟩ : ByteArray) false _ A7.out).mono ?_); rintro e w' ⟨rfl, ⟨nd, rfl⟩⟩; refine ⟨_, rfl, ?_⟩) | ((with_reducible refine gate_callee (f := 12) rfl ?_); refine goesL_ (some 30) rfl rfl Tryd.func12 (by kernel_rfl) rfl #[.string rs, .string (⟨#[47, 42]⟩ : ByteArray)] rfl (by (try simp only [List.map_toArray, List.map_cons, List.map_nil]); first | done | rfl | (simp only [List.length_drop, List.length_take]; rfl)) ?_; (with_reducible refine (spec_begins.calls rs (⟨#[47, 42]⟩ : ByteArray) false _ A16.out).mono ?_); rintro e w' ⟨rfl, ⟨nd, rfl⟩⟩; refine ⟨_, rfl, ?_⟩) | ((with_reducible refine gate_callee (f := 31) rfl ?_); refine goesL_ (some 47) rfl rfl Tryd.func31 (by kernel_rfl) rfl #[.string (⟨#[34, 39, 96]⟩ : ByteArray), .string (rs.extract 0 1)] rfl (by (try simp only [List.map_toArray, List.map_cons, List.map_nil]); first | done | rfl | (simp only [List.length_drop, List.length_take]; rfl)) ?_; (with_reducible refine (spec_has.calls k1 (⟨#[34, 39, 96]⟩ : ByteArray) (rs.extract 0 1) true _ A30.out).mono ?_); rintro e w' ⟨rfl, ⟨nd, rfl⟩⟩; refine ⟨_, rfl, ?_⟩) | ((with_reducible refine gate_callee (f := 32) rfl ?_); refine goesL_ (some 49) rfl rfl Tryd.func32 (by kernel_rfl) rfl #[.string rs] rfl (by (try simp only [List.map_toArray, List.map_cons, List.map_nil]); first | done | rfl | (simp only [List.length_drop, List.length_take]; rfl)) ?_; (with_reducible refine (spec_quoted.calls k1 rs t130 _ A32.out).mono ?_); rintro e w' ⟨rfl, ⟨nd, rfl⟩⟩; refine ⟨_, rfl, ?_⟩))
                        go_roundg k1
                        case measure => have := HK1.out; omega
                        case rel => exact ⟨(x4_1), (wrap64 (x5_1 + t130)), (by first | rfl | (simp; done) | (simp [*]; done)), H', ⟨by have := HK1.out; omega⟩, ⟨by (with_reducible repeat (first | apply Kd.R_alloc | apply Kd.R_drewN | apply Kd.R_drew)); exact HO_4.out⟩, ⟨by repeat (first | (with_reducible first | exact HB.out | apply below_alloc | apply pw_below_drewN | apply below_drew1) | exact HB.out)⟩⟩
                    · replace c31 := Bool.eq_false_iff.mpr c31
                      subst c31
                      have H1 : (if 1 = 0 then (some (([] : List ByteArray), false)) else (spec_TextComments.l0 k1 a0 x4_1 (wrap64 (x5_1 + 1)))) = some (r1, r2) := by rw [if_neg (show ¬ (false = true) by decide)] at H; exact H
                      clear H
                      have H := H1
                      clear H1
                      by_cases c34 : 1 = 0
                      · exact absurd c34 (by decide)
                      · rw [if_neg c34] at H
                        have c34b0 : (1 == 0) = false := beq_eq_false_iff_ne.mpr c34
                        have c34b1 : (1 != 0) = true := bne_iff_ne.mpr c34
                        have H' := Aside0.mk H
                        clear H
                        go_wp2_with (first | ((with_reducible refine gate_callee (f := 12) rfl ?_); refine goesL_ (some 19) rfl rfl Tryd.func12 (by kernel_rfl) rfl #[.string rs, .string (⟨#[47, 47]⟩ : ByteArray)] rfl (by (try simp only [List.map_toArray, List.map_cons, List.map_nil]); first | done | rfl | (simp only [List.length_drop, List.length_take]; rfl)) ?_; (with_reducible refine (spec_begins.calls rs (⟨#[47, 47]⟩ : ByteArray) false _ A7.out).mono ?_); rintro e w' ⟨rfl, ⟨nd, rfl⟩⟩; refine ⟨_, rfl, ?_⟩) | ((with_reducible refine gate_callee (f := 12) rfl ?_); refine goesL_ (some 30) rfl rfl Tryd.func12 (by kernel_rfl) rfl #[.string rs, .string (⟨#[47, 42]⟩ : ByteArray)] rfl (by (try simp only [List.map_toArray, List.map_cons, List.map_nil]); first | done | rfl | (simp only [List.length_drop, List.length_take]; rfl)) ?_; (with_reducible refine (spec_begins.calls rs (⟨#[47, 42]⟩ : ByteArray) false _ A16.out).mono ?_); rintro e w' ⟨rfl, ⟨nd, rfl⟩⟩; refine ⟨_, rfl, ?_⟩) | ((with_reducible refine gate_callee (f := 31) rfl ?_); refine goesL_ (some 47) rfl rfl Tryd.func31 (by kernel_rfl) rfl #[.string (⟨#[34, 39, 96]⟩ : ByteArray), .string (rs.extract 0 1)] rfl (by (try simp only [List.map_toArray, List.map_cons, List.map_nil]); first | done | rfl | (simp only [List.length_drop, List.length_take]; rfl)) ?_; (with_reducible refine (spec_has.calls k1 (⟨#[34, 39, 96]⟩ : ByteArray) (rs.extract 0 1) false _ A30.out).mono ?_); rintro e w' ⟨rfl, ⟨nd, rfl⟩⟩; refine ⟨_, rfl, ?_⟩))
                        go_roundg k1
                        case measure => have := HK1.out; omega
                        case rel => exact ⟨(x4_1), (wrap64 (x5_1 + 1)), (by first | rfl | (simp; done) | (simp [*]; done)), H', ⟨by have := HK1.out; omega⟩, ⟨by (with_reducible repeat (first | apply Kd.R_alloc | apply Kd.R_drewN | apply Kd.R_drew)); exact HO_4.out⟩, ⟨by repeat (first | (with_reducible first | exact HB.out | apply below_alloc | apply pw_below_drewN | apply below_drew1) | exact HB.out)⟩⟩
                  · rw [if_neg c29] at H
                    exact absurd H (by simp)
                · rw [if_neg c28] at H
                  exact absurd H (by simp)
          · rw [if_neg c6] at H
            exact absurd H (by simp)
        · rw [if_neg c5] at H
          exact absurd H (by simp)
      · rw [if_neg c4] at H
        have c4b0 : decide (x5_1 < (a0.size : Int)) = false := decide_eq_false c4
        clear c4
        simp only [Option.some.injEq, Prod.mk.injEq] at H
        obtain ⟨rfl, rfl⟩ := H
        go_wp2
        go_ret2
        exact ⟨_, by first | rfl | (simp [errW_none, errW_some] <;> rfl) | (simp [*, errW_none, errW_some] <;> rfl), by (with_reducible repeat (first | apply Kd.R_alloc | apply Kd.R_drewN | apply Kd.R_drew)); exact HO_4.out, by repeat (first | (with_reducible first | exact HB.out | apply below_alloc | apply pw_below_drewN | apply below_drew1) | exact HB.out)⟩

end Go.Proofs.YtcjiafjahfmdoaaDoor.A
