-- Written by a program of this session (gprint.py) out of the kit's print of the translation. Not trusted: Lean checks it.
import Derived.Test.YtcjiafjahfmdoaaFmtA0
import Derived.Test.YtcjiafjahfmdoaaFmtA1
import Derived.Test.YtcjiafjahfmdoaaFmtA7
import Derived.Test.YtcjiafjahfmdoaaFmtA8
namespace Go.Proofs.YtcjiafjahfmdoaaFmt.A
open Go.RowKit Go.Proofs.YtcjiafjahfmdoaaFmtW.PrintWords Go.Proofs.YtcjiafjahfmdoaaFmtW.PrintLast Go.Proofs.YtcjiafjahfmdoaaFmtW.PrintMore
attribute [local go_sem] max2_int min2_int max_two min_two max_three min_three max_four min_four   -- for this text's walks alone
set_option linter.unusedVariables false
set_option linter.unusedSimpArgs false

/-! ### spec_Arguments: function 5 -/
mutual
def spec_Arguments.j0 : Nat → ByteArray → Int → List (S28) → Bool → Option ((List (S28)) × Int)
  | 0, _, _, _, _ => none
  | k + 1, x0, x1, x6, x25 => if x25 = true then (some (([] : List (S28)), 2)) else (spec_Arguments.l0 k x0 x1 x6 0)
def spec_Arguments.l0 : Nat → ByteArray → Int → List (S28) → Int → Option ((List (S28)) × Int)
  | 0, _, _, _, _ => none
  | k + 1, x0, x1, x6, x7 => if x7 < (x0.size : Int) then (if 0 ≤ x7 then ((spec_isBlank.f (bt x0 x7)).bind fun t125 => (if t125 = true then (spec_Arguments.l0 k x0 x1 x6 (wrap64 (x7 + 1))) else (if x7 ≤ (wrap64 (x7 + 1)) then (if (wrap64 (x7 + 1)) ≤ (x0.size : Int) then ((spec_has.f k (⟨#[34, 96]⟩ : ByteArray) (x0.extract (x7 : Int).toNat ((wrap64 (x7 + 1)) : Int).toNat)).bind fun t126 => (if t126 = true then (if x7 ≤ (x0.size : Int) then ((spec_stringOf.f k (x0.extract (x7 : Int).toNat x0.size)).bind fun bt127 => (if bt127.2.2 = true then (if (wrap64 (x7 + bt127.2.1)) < (x0.size : Int) then (if 0 ≤ (wrap64 (x7 + bt127.2.1)) then ((spec_isBlank.f (bt x0 (wrap64 (x7 + bt127.2.1)))).bind fun t130 => (spec_Arguments.j2 k x0 x1 x6 x7 bt127.1 bt127.2.1 (!t130))) else (none)) else (spec_Arguments.j2 k x0 x1 x6 x7 bt127.1 bt127.2.1 false)) else (spec_Arguments.j2 k x0 x1 x6 x7 bt127.1 bt127.2.1 true))) else (none)) else (if x7 ≤ (x0.size : Int) then ((spec_wordEnd.f k (x0.extract (x7 : Int).toNat x0.size)).bind fun bt134 => (if bt134.2 = true then (if x7 ≤ (wrap64 (x7 + bt134.1)) then (if (wrap64 (x7 + bt134.1)) ≤ (x0.size : Int) then (if x6.length < 5864062014805 then (spec_Arguments.l0 k x0 x1 (x6 ++ [(⟨x0.extract (x7 : Int).toNat ((wrap64 (x7 + bt134.1)) : Int).toNat, wrap64 (x1 + x7)⟩ : S28)]) (wrap64 (x7 + bt134.1))) else (none)) else (none)) else (none)) else (some (([] : List (S28)), 2)))) else (none)))) else (none)) else (none)))) else (none)) else (some (x6, 0))
def spec_Arguments.j2 : Nat → ByteArray → Int → List (S28) → Int → ByteArray → Int → Bool → Option ((List (S28)) × Int)
  | 0, _, _, _, _, _, _, _ => none
  | k + 1, x0, x1, x6, x7, x8, x9, x68 => if x68 = true then (some (([] : List (S28)), 1)) else (if x6.length < 5864062014805 then (spec_Arguments.l0 k x0 x1 (x6 ++ [(⟨x8, (-1)⟩ : S28)]) (wrap64 (x7 + x9))) else (none))
end
def spec_Arguments.f (k : Nat) (a0 : ByteArray) (a1 : Int) : Option ((List (S28)) × Int) := (some (([] : List (S28)) : List (S28))).bind fun y119 => ((spec_isPlain.f k a0).bind fun t122 => (if t122 = true then ((spec_count.f k a0 10).bind fun t123 => (if t123 > 0 then (spec_Arguments.j0 k a0 a1 y119 true) else ((spec_isOpenEscape.f k a0).bind fun t124 => (spec_Arguments.j0 k a0 a1 y119 t124)))) else (spec_Arguments.j0 k a0 a1 y119 true)))
theorem spec_Arguments.mono_l : ∀ k, (∀ y0 y1 y2 y3, LeO (spec_Arguments.j0 k y0 y1 y2 y3) (spec_Arguments.j0 (k + 1) y0 y1 y2 y3)) ∧ (∀ y0 y1 y2 y3, LeO (spec_Arguments.l0 k y0 y1 y2 y3) (spec_Arguments.l0 (k + 1) y0 y1 y2 y3)) ∧ (∀ y0 y1 y2 y3 y4 y5 y6, LeO (spec_Arguments.j2 k y0 y1 y2 y3 y4 y5 y6) (spec_Arguments.j2 (k + 1) y0 y1 y2 y3 y4 y5 y6))
  | 0 => ⟨fun _ _ _ _ r h => by simp [spec_Arguments.j0] at h, fun _ _ _ _ r h => by simp [spec_Arguments.l0] at h, fun _ _ _ _ _ _ _ r h => by simp [spec_Arguments.j2] at h⟩
  | k + 1 => by
    obtain ⟨ih0, ih1, ih2⟩ := spec_Arguments.mono_l k
    refine ⟨?_, ?_, ?_⟩
    · intro y0 y1 y2 y3
      unfold spec_Arguments.j0
      repeat' first
      | (with_reducible exact ih0 _ _ _ _)
      | (with_reducible exact ih1 _ _ _ _)
      | (with_reducible exact ih2 _ _ _ _ _ _ _)
      | (with_reducible exact spec_count.mono _ _ _)
      | (with_reducible exact spec_has.mono _ _ _)
      | (with_reducible exact spec_isOpenEscape.mono _ _)
      | (with_reducible exact spec_isPlain.mono _ _)
      | (with_reducible exact spec_stringOf.mono _ _)
      | (with_reducible exact spec_wordEnd.mono _ _)
      | (with_reducible exact LeO.refl _)
      | (with_reducible exact LeO.none _)
      | (with_reducible refine LeO.ite ?_ ?_)
      | (with_reducible refine LeO.bind ?_ (fun _ => ?_))
      | exact ih0 _ _ _ _
      | exact ih1 _ _ _ _
      | exact ih2 _ _ _ _ _ _ _
      | exact spec_count.mono _ _ _
      | exact spec_has.mono _ _ _
      | exact spec_isOpenEscape.mono _ _
      | exact spec_isPlain.mono _ _
      | exact spec_stringOf.mono _ _
      | exact spec_wordEnd.mono _ _
      | exact LeO.none _
      | refine LeO.ite ?_ ?_
      | refine LeO.bind ?_ (fun _ => ?_)
    · intro y0 y1 y2 y3
      unfold spec_Arguments.l0
      repeat' first
      | (with_reducible exact ih0 _ _ _ _)
      | (with_reducible exact ih1 _ _ _ _)
      | (with_reducible exact ih2 _ _ _ _ _ _ _)
      | (with_reducible exact spec_count.mono _ _ _)
      | (with_reducible exact spec_has.mono _ _ _)
      | (with_reducible exact spec_isOpenEscape.mono _ _)
      | (with_reducible exact spec_isPlain.mono _ _)
      | (with_reducible exact spec_stringOf.mono _ _)
      | (with_reducible exact spec_wordEnd.mono _ _)
      | (with_reducible exact LeO.refl _)
      | (with_reducible exact LeO.none _)
      | (with_reducible refine LeO.ite ?_ ?_)
      | (with_reducible refine LeO.bind ?_ (fun _ => ?_))
      | exact ih0 _ _ _ _
      | exact ih1 _ _ _ _
      | exact ih2 _ _ _ _ _ _ _
      | exact spec_count.mono _ _ _
      | exact spec_has.mono _ _ _
      | exact spec_isOpenEscape.mono _ _
      | exact spec_isPlain.mono _ _
      | exact spec_stringOf.mono _ _
      | exact spec_wordEnd.mono _ _
      | exact LeO.none _
      | refine LeO.ite ?_ ?_
      | refine LeO.bind ?_ (fun _ => ?_)
    · intro y0 y1 y2 y3 y4 y5 y6
      unfold spec_Arguments.j2
      repeat' first
      | (with_reducible exact ih0 _ _ _ _)
      | (with_reducible exact ih1 _ _ _ _)
      | (with_reducible exact ih2 _ _ _ _ _ _ _)
      | (with_reducible exact spec_count.mono _ _ _)
      | (with_reducible exact spec_has.mono _ _ _)
      | (with_reducible exact spec_isOpenEscape.mono _ _)
      | (with_reducible exact spec_isPlain.mono _ _)
      | (with_reducible exact spec_stringOf.mono _ _)
      | (with_reducible exact spec_wordEnd.mono _ _)
      | (with_reducible exact LeO.refl _)
      | (with_reducible exact LeO.none _)
      | (with_reducible refine LeO.ite ?_ ?_)
      | (with_reducible refine LeO.bind ?_ (fun _ => ?_))
      | exact ih0 _ _ _ _
      | exact ih1 _ _ _ _
      | exact ih2 _ _ _ _ _ _ _
      | exact spec_count.mono _ _ _
      | exact spec_has.mono _ _ _
      | exact spec_isOpenEscape.mono _ _
      | exact spec_isPlain.mono _ _
      | exact spec_stringOf.mono _ _
      | exact spec_wordEnd.mono _ _
      | exact LeO.none _
      | refine LeO.ite ?_ ?_
      | refine LeO.bind ?_ (fun _ => ?_)
theorem spec_Arguments.mono : ∀ a0 a1 k, LeO (spec_Arguments.f k a0 a1) (spec_Arguments.f (k + 1) a0 a1) := by
  intro a0 a1 k
  obtain ⟨ih0, ih1, ih2⟩ := spec_Arguments.mono_l k
  unfold spec_Arguments.f
  repeat' first
      | (with_reducible exact ih0 _ _ _ _)
      | (with_reducible exact ih1 _ _ _ _)
      | (with_reducible exact ih2 _ _ _ _ _ _ _)
      | (with_reducible exact spec_count.mono _ _ _)
      | (with_reducible exact spec_has.mono _ _ _)
      | (with_reducible exact spec_isOpenEscape.mono _ _)
      | (with_reducible exact spec_isPlain.mono _ _)
      | (with_reducible exact spec_stringOf.mono _ _)
      | (with_reducible exact spec_wordEnd.mono _ _)
      | (with_reducible exact LeO.refl _)
      | (with_reducible exact LeO.none _)
      | (with_reducible refine LeO.ite ?_ ?_)
      | (with_reducible refine LeO.bind ?_ (fun _ => ?_))
      | exact ih0 _ _ _ _
      | exact ih1 _ _ _ _
      | exact ih2 _ _ _ _ _ _ _
      | exact spec_count.mono _ _ _
      | exact spec_has.mono _ _ _
      | exact spec_isOpenEscape.mono _ _
      | exact spec_isPlain.mono _ _
      | exact spec_stringOf.mono _ _
      | exact spec_wordEnd.mono _ _
      | exact LeO.none _
      | refine LeO.ite ?_ ?_
      | refine LeO.bind ?_ (fun _ => ?_)
set_option maxHeartbeats 8000000 in
set_option maxRecDepth 100000 in
theorem spec_Arguments.calls (k : Nat) (a0 : ByteArray) (a1 : Int) (r1 : List (S28)) (r2 : Int) (w : World) (h : spec_Arguments.f k a0 a1 = some (r1, r2)) :
    Calls Tryf.prog 5 #[.string a0, .int .i64 a1] w fun e w' => ∃ v0_ : Value, e = .returned (.tuple #[v0_, .int .i64 r2]) ∧ Kd.R k28 28 w' w.heap.size (fun _ => True) v0_ r1 ∧ Below w.heap.size w w' := by
  have hu28 := Tryf.underlying28
  have HB := Aside0.mk (Below.refl w.heap.size w)
  have H : ((some (([] : List (S28)) : List (S28))).bind fun y119 => ((spec_isPlain.f k a0).bind fun t122 => (if t122 = true then ((spec_count.f k a0 10).bind fun t123 => (if t123 > 0 then (spec_Arguments.j0 k a0 a1 y119 true) else ((spec_isOpenEscape.f k a0).bind fun t124 => (spec_Arguments.j0 k a0 a1 y119 t124)))) else (spec_Arguments.j0 k a0 a1 y119 true)))) = some (r1, r2) := h
  clear h
  obtain ⟨y119, hy119⟩ : ∃ y_ : List (S28), y_ = (([] : List (S28))) := ⟨_, rfl⟩
  replace H : ((spec_isPlain.f k a0).bind fun t122 => (if t122 = true then ((spec_count.f k a0 10).bind fun t123 => (if t123 > 0 then (spec_Arguments.j0 k a0 a1 y119 true) else ((spec_isOpenEscape.f k a0).bind fun t124 => (spec_Arguments.j0 k a0 a1 y119 t124)))) else (spec_Arguments.j0 k a0 a1 y119 true))) = some (r1, r2) := by first | (rw [hy119]; with_reducible exact H) | (have H2_ := (Option.bind_some _ _).symm.trans H; rw [hy119]; with_reducible exact H2_) | (have H2_ := (Option.bind_some _ _).symm.trans H; with_reducible exact H2_) | with_reducible exact H | (rw [hy119]; exact H) | exact H
  have Ny119 := Aside0.mk hy119
  clear hy119
  have HC3 := Aside0.mk H
  clear H
  go_enter Tryf.func5, Tryf.ntmps5
  go_upto_region 2 with (first | ((with_reducible refine gate_dst (N := 13) rfl ?_); (try (refine gate_guard (by rfl) ?_; dsimp only)); refine Kd.R_lit k28 _ 28 ?hg (N := 13) ?hd (xs := ([] : List (S28))) (inner := []) (ok := fun _ => True) (okp := fun _ => True) ?hr ?hp (fun _ hk => hk) trivial (Below.refl _ _) (Nat.le_refl _) (by simp) ?_; (case hd => rfl); (case hg => rfl); (case hr => first | (go_simp; done) | (go_simp; rfl)); (case hp => exact (Reps.none _ _)); intro v120 w4 ho5 hb hg_ hnew_; clear hg_ hnew_; (first | rw [← Ny119.out] at ho5 | (simp only [Int.reduceToNat] at ho5; rw [← Ny119.out] at ho5)); have n0_ := Aside0.mk (Kd.R_lower ho5 (below_size (by repeat (first | (with_reducible first | exact HB.out | apply below_alloc | apply pw_below_drewN | apply below_drew1) | exact HB.out)))); have n1_ := Aside0.mk (below_step (by repeat (first | (with_reducible first | exact HB.out | apply below_alloc | apply pw_below_drewN | apply below_drew1) | exact HB.out)) hb); clear HB; have HO121 := n0_; have HB := n1_; clear n0_ n1_; clear hb ho5))
  (try simp only [Act.put, List.setIfInBounds_toArray, List.set_cons_zero, List.set_cons_succ])
  go_cut [25] (fun v25 wc => ∃ (kq : Nat) (x25_2 : Bool), v25 = .bool x25_2 ∧ Aside0 (spec_Arguments.j0 kq a0 a1 y119 x25_2 = some (r1, r2)) ∧ Aside0 (kq ≤ k) ∧ Aside0 (Kd.R k28 28 wc w.heap.size (fun _ => True) v120 y119) ∧ Aside0 (Below w.heap.size w wc))
  case first =>
    have H := HC3.out
    clear HC3
    replace H := Option.bind_eq_some_iff.mp H
    obtain ⟨t122, A60, H⟩ := H
    replace H : (if t122 = true then ((spec_count.f k a0 10).bind fun t123 => (if t123 > 0 then (spec_Arguments.j0 k a0 a1 y119 true) else ((spec_isOpenEscape.f k a0).bind fun t124 => (spec_Arguments.j0 k a0 a1 y119 t124)))) else (spec_Arguments.j0 k a0 a1 y119 true)) = some (r1, r2) := H
    have A6 := Aside0.mk A60
    clear A60
    by_cases c7 : t122 = true
    · subst c7
      have H1 : ((spec_count.f k a0 10).bind fun t123 => (if t123 > 0 then (spec_Arguments.j0 k a0 a1 y119 true) else ((spec_isOpenEscape.f k a0).bind fun t124 => (spec_Arguments.j0 k a0 a1 y119 t124)))) = some (r1, r2) := by rw [if_pos rfl] at H; exact H
      clear H
      have H := H1
      clear H1
      replace H := Option.bind_eq_some_iff.mp H
      obtain ⟨t123, A80, H⟩ := H
      replace H : (if t123 > 0 then (spec_Arguments.j0 k a0 a1 y119 true) else ((spec_isOpenEscape.f k a0).bind fun t124 => (spec_Arguments.j0 k a0 a1 y119 t124))) = some (r1, r2) := H
      have A8 := Aside0.mk A80
      clear A80
      by_cases c9 : t123 > 0
      · rw [if_pos c9] at H
        have c9b0 : decide (0 < t123) = true := decide_eq_true c9
        clear c9
        (first | rw [c9b0] | (simp only [i64_w, i32_w]; rw [c9b0]) | skip)
        have H' := Aside0.mk H
        clear H
        go_wp2_with (first | ((with_reducible refine gate_callee (f := 11) rfl ?_); refine goesL_ (some 15) rfl rfl Tryf.func11 (by kernel_rfl) rfl #[.string a0] rfl (by (try simp only [List.map_toArray, List.map_cons, List.map_nil]); first | done | rfl | (simp only [List.length_drop, List.length_take]; rfl)) ?_; (with_reducible refine (spec_isPlain.calls k a0 true _ A6.out).mono ?_); rintro e w' ⟨rfl, ⟨nd, rfl⟩⟩; refine ⟨_, rfl, ?_⟩) | (go_at_call 12; (with_reducible refine (spec_count.calls k a0 10 t123 _ A8.out).mono ?_); rintro e w' ⟨rfl, ⟨nd, rfl⟩⟩))
        go_meet
        case rel => exact ⟨_, (true), (by first | rfl | (simp; done) | (simp [*]; done)), H', ⟨by first | omega | exact Nat.le_refl _⟩, ⟨by (with_reducible repeat (first | apply Kd.R_alloc | apply Kd.R_drewN | apply Kd.R_drew)); exact HO121.out⟩, ⟨by repeat (first | (with_reducible first | exact HB.out | apply below_alloc | apply pw_below_drewN | apply below_drew1) | exact HB.out)⟩⟩
      · rw [if_neg c9] at H
        have c9b0 : decide (0 < t123) = false := decide_eq_false c9
        clear c9
        (first | rw [c9b0] | (simp only [i64_w, i32_w]; rw [c9b0]) | skip)
        replace H := Option.bind_eq_some_iff.mp H
        obtain ⟨t124, A100, H⟩ := H
        replace H : (spec_Arguments.j0 k a0 a1 y119 t124) = some (r1, r2) := H
        have A10 := Aside0.mk A100
        clear A100
        have H' := Aside0.mk H
        clear H
        go_wp2_with (first | ((with_reducible refine gate_callee (f := 11) rfl ?_); refine goesL_ (some 15) rfl rfl Tryf.func11 (by kernel_rfl) rfl #[.string a0] rfl (by (try simp only [List.map_toArray, List.map_cons, List.map_nil]); first | done | rfl | (simp only [List.length_drop, List.length_take]; rfl)) ?_; (with_reducible refine (spec_isPlain.calls k a0 true _ A6.out).mono ?_); rintro e w' ⟨rfl, ⟨nd, rfl⟩⟩; refine ⟨_, rfl, ?_⟩) | (go_at_call 12; (with_reducible refine (spec_count.calls k a0 10 t123 _ A8.out).mono ?_); rintro e w' ⟨rfl, ⟨nd, rfl⟩⟩) | (go_at_call 13; (with_reducible refine (spec_isOpenEscape.calls k a0 t124 _ A10.out).mono ?_); rintro e w' ⟨rfl, ⟨nd, rfl⟩⟩))
        go_meet
        case rel => exact ⟨_, (t124), (by first | rfl | (simp; done) | (simp [*]; done)), H', ⟨by first | omega | exact Nat.le_refl _⟩, ⟨by (with_reducible repeat (first | apply Kd.R_alloc | apply Kd.R_drewN | apply Kd.R_drew)); exact HO121.out⟩, ⟨by repeat (first | (with_reducible first | exact HB.out | apply below_alloc | apply pw_below_drewN | apply below_drew1) | exact HB.out)⟩⟩
    · replace c7 := Bool.eq_false_iff.mpr c7
      subst c7
      have H1 : (spec_Arguments.j0 k a0 a1 y119 true) = some (r1, r2) := by rw [if_neg (show ¬ (false = true) by decide)] at H; exact H
      clear H
      have H := H1
      clear H1
      have H' := Aside0.mk H
      clear H
      go_wp2_with (first | ((with_reducible refine gate_callee (f := 11) rfl ?_); refine goesL_ (some 15) rfl rfl Tryf.func11 (by kernel_rfl) rfl #[.string a0] rfl (by (try simp only [List.map_toArray, List.map_cons, List.map_nil]); first | done | rfl | (simp only [List.length_drop, List.length_take]; rfl)) ?_; (with_reducible refine (spec_isPlain.calls k a0 false _ A6.out).mono ?_); rintro e w' ⟨rfl, ⟨nd, rfl⟩⟩; refine ⟨_, rfl, ?_⟩))
      go_meet
      case rel => exact ⟨_, (true), (by first | rfl | (simp; done) | (simp [*]; done)), H', ⟨by first | omega | exact Nat.le_refl _⟩, ⟨by (with_reducible repeat (first | apply Kd.R_alloc | apply Kd.R_drewN | apply Kd.R_drew)); exact HO121.out⟩, ⟨by repeat (first | (with_reducible first | exact HB.out | apply below_alloc | apply pw_below_drewN | apply below_drew1) | exact HB.out)⟩⟩
  case rest =>
    clear HC3
    try clear c1
    try clear p2
    try clear c5
    try clear c7
    try clear c9
    try clear c9b0
    obtain ⟨kq, x25_2, rfl, HA, HJ2, HO_6, HB⟩ := hcut
    cases kq with
    | zero => exact absurd HA.out (by simp [spec_Arguments.j0])
    | succ kj2 =>
      have H := HA.out
      clear HA
      simp only [spec_Arguments.j0] at H
      by_cases c11 : x25_2 = true
      · subst c11
        have H1 : (some (([] : List (S28)), 2)) = some (r1, r2) := by rw [if_pos rfl] at H; exact H
        clear H
        have H := H1
        clear H1
        simp only [Option.some.injEq, Prod.mk.injEq] at H
        obtain ⟨rfl, rfl⟩ := H
        go_wp2
        go_ret2
        exact ⟨_, by first | rfl | (simp [errW_none, errW_some] <;> rfl) | (simp [*, errW_none, errW_some] <;> rfl), by first | exact Kd.R_nil _ _ _ _ _ | exact Kd.N_nil _ _ _ _ _ | exact Kd.V_nil _ _ _ _ _ | exact Kd.Q_nil _ _ _ _ _ | exact Kd.S_nil _ _ _ _ _, by repeat (first | (with_reducible first | exact HB.out | apply below_alloc | apply pw_below_drewN | apply below_drew1) | exact HB.out)⟩
      · replace c11 := Bool.eq_false_iff.mpr c11
        subst c11
        have H1 : (spec_Arguments.l0 kj2 a0 a1 y119 0) = some (r1, r2) := by rw [if_neg (show ¬ (false = true) by decide)] at H; exact H
        clear H
        have H := H1
        clear H1
        have H' := Aside0.mk H
        clear H
        go_wp2
        go_loopg [6, 7] kj2 (fun kq v6 v7 w' => ∃ (x6_2 : List (S28)) (x7_2 : Int), v7 = .int .i64 x7_2 ∧ Aside0 (spec_Arguments.l0 kq a0 a1 x6_2 x7_2 = some (r1, r2)) ∧ Aside0 (kq ≤ kj2) ∧ Aside0 (Kd.R k28 28 w' w.heap.size (fun _ => True) v6 x6_2) ∧ Aside0 (Below w.heap.size w w'))
        case atStart => exact ⟨(y119), (0), (by first | rfl | (simp; done) | (simp [*]; done)), H', ⟨Nat.le_refl _⟩, ⟨by (with_reducible repeat (first | apply Kd.R_alloc | apply Kd.R_drewN | apply Kd.R_drew)); exact HO_6.out⟩, ⟨by repeat (first | (with_reducible first | exact HB.out | apply below_alloc | apply pw_below_drewN | apply below_drew1) | exact HB.out)⟩⟩
        case round =>
          clear H'
          try clear c1
          try clear p2
          try clear c5
          try clear c7
          try clear c9
          try clear c9b0
          try clear c11
          try clear p2
          obtain ⟨x6_2, x7_2, rfl, HA, HK2, HO_6, HB⟩ := hrel
          cases gk with
          | zero => exact absurd HA.out (by simp [spec_Arguments.l0])
          | succ k2 =>
            have H := HA.out
            clear HA
            simp only [spec_Arguments.l0] at H
            by_cases c12 : x7_2 < (a0.size : Int)
            · rw [if_pos c12] at H
              have c12b0 : decide (x7_2 < (a0.size : Int)) = true := decide_eq_true c12
              clear c12
              by_cases c13 : 0 ≤ x7_2
              · rw [if_pos c13] at H
                have c13b0 : decide (0 ≤ x7_2) = true := decide_eq_true c13
                clear c13
                replace H := Option.bind_eq_some_iff.mp H
                obtain ⟨t125, A150, H⟩ := H
                replace H : (if t125 = true then (spec_Arguments.l0 k2 a0 a1 x6_2 (wrap64 (x7_2 + 1))) else (if x7_2 ≤ (wrap64 (x7_2 + 1)) then (if (wrap64 (x7_2 + 1)) ≤ (a0.size : Int) then ((spec_has.f k2 (⟨#[34, 96]⟩ : ByteArray) (a0.extract (x7_2 : Int).toNat ((wrap64 (x7_2 + 1)) : Int).toNat)).bind fun t126 => (if t126 = true then (if x7_2 ≤ (a0.size : Int) then ((spec_stringOf.f k2 (a0.extract (x7_2 : Int).toNat a0.size)).bind fun bt127 => (if bt127.2.2 = true then (if (wrap64 (x7_2 + bt127.2.1)) < (a0.size : Int) then (if 0 ≤ (wrap64 (x7_2 + bt127.2.1)) then ((spec_isBlank.f (bt a0 (wrap64 (x7_2 + bt127.2.1)))).bind fun t130 => (spec_Arguments.j2 k2 a0 a1 x6_2 x7_2 bt127.1 bt127.2.1 (!t130))) else (none)) else (spec_Arguments.j2 k2 a0 a1 x6_2 x7_2 bt127.1 bt127.2.1 false)) else (spec_Arguments.j2 k2 a0 a1 x6_2 x7_2 bt127.1 bt127.2.1 true))) else (none)) else (if x7_2 ≤ (a0.size : Int) then ((spec_wordEnd.f k2 (a0.extract (x7_2 : Int).toNat a0.size)).bind fun bt134 => (if bt134.2 = true then (if x7_2 ≤ (wrap64 (x7_2 + bt134.1)) then (if (wrap64 (x7_2 + bt134.1)) ≤ (a0.size : Int) then (if x6_2.length < 5864062014805 then (spec_Arguments.l0 k2 a0 a1 (x6_2 ++ [(⟨a0.extract (x7_2 : Int).toNat ((wrap64 (x7_2 + bt134.1)) : Int).toNat, wrap64 (a1 + x7_2)⟩ : S28)]) (wrap64 (x7_2 + bt134.1))) else (none)) else (none)) else (none)) else (some (([] : List (S28)), 2)))) else (none)))) else (none)) else (none))) = some (r1, r2) := H
                have A15 := Aside0.mk A150
                clear A150
                by_cases c16 : t125 = true
                · subst c16
                  have H1 : (spec_Arguments.l0 k2 a0 a1 x6_2 (wrap64 (x7_2 + 1))) = some (r1, r2) := by rw [if_pos rfl] at H; exact H
                  clear H
                  have H := H1
                  clear H1
                  have H' := Aside0.mk H
                  clear H
                  have p14 : 0 ≤ (x7_2 : Int) := of_decide_eq_true (by first | (with_reducible assumption) | assumption)
                  have q14 : x7_2 < (a0.size : Int) := of_decide_eq_true (by first | (with_reducible assumption) | assumption)
                  have hx14 := bt_at a0 x7_2
                  replace p14 := eq_true p14
                  replace q14 := eq_true q14
                  go_wp2_with (first | ((with_reducible refine gate_callee (f := 14) rfl ?_); refine goesL_ (some 33) rfl rfl Tryf.func14 (by kernel_rfl) rfl #[.int .u8 (bt a0 x7_2)] rfl (by (try simp only [List.map_toArray, List.map_cons, List.map_nil]); first | done | rfl | (simp only [List.length_drop, List.length_take]; rfl)) ?_; (with_reducible refine (spec_isBlank.calls (bt a0 x7_2) true _ A15.out).mono ?_); rintro e w' ⟨rfl, ⟨nd, rfl⟩⟩; refine ⟨_, rfl, ?_⟩))
                  go_roundg k2
                  case measure => have := HJ2.out; have := HK2.out; omega
                  case rel => exact ⟨(x6_2), (wrap64 (x7_2 + 1)), (by first | rfl | (simp; done) | (simp [*]; done)), H', ⟨by have := HJ2.out; have := HK2.out; omega⟩, ⟨by (with_reducible repeat (first | apply Kd.R_alloc | apply Kd.R_drewN | apply Kd.R_drew)); exact HO_6.out⟩, ⟨by repeat (first | (with_reducible first | exact HB.out | apply below_alloc | apply pw_below_drewN | apply below_drew1) | exact HB.out)⟩⟩
                · replace c16 := Bool.eq_false_iff.mpr c16
                  subst c16
                  have H1 : (if x7_2 ≤ (wrap64 (x7_2 + 1)) then (if (wrap64 (x7_2 + 1)) ≤ (a0.size : Int) then ((spec_has.f k2 (⟨#[34, 96]⟩ : ByteArray) (a0.extract (x7_2 : Int).toNat ((wrap64 (x7_2 + 1)) : Int).toNat)).bind fun t126 => (if t126 = true then (if x7_2 ≤ (a0.size : Int) then ((spec_stringOf.f k2 (a0.extract (x7_2 : Int).toNat a0.size)).bind fun bt127 => (if bt127.2.2 = true then (if (wrap64 (x7_2 + bt127.2.1)) < (a0.size : Int) then (if 0 ≤ (wrap64 (x7_2 + bt127.2.1)) then ((spec_isBlank.f (bt a0 (wrap64 (x7_2 + bt127.2.1)))).bind fun t130 => (spec_Arguments.j2 k2 a0 a1 x6_2 x7_2 bt127.1 bt127.2.1 (!t130))) else (none)) else (spec_Arguments.j2 k2 a0 a1 x6_2 x7_2 bt127.1 bt127.2.1 false)) else (spec_Arguments.j2 k2 a0 a1 x6_2 x7_2 bt127.1 bt127.2.1 true))) else (none)) else (if x7_2 ≤ (a0.size : Int) then ((spec_wordEnd.f k2 (a0.extract (x7_2 : Int).toNat a0.size)).bind fun bt134 => (if bt134.2 = true then (if x7_2 ≤ (wrap64 (x7_2 + bt134.1)) then (if (wrap64 (x7_2 + bt134.1)) ≤ (a0.size : Int) then (if x6_2.length < 5864062014805 then (spec_Arguments.l0 k2 a0 a1 (x6_2 ++ [(⟨a0.extract (x7_2 : Int).toNat ((wrap64 (x7_2 + bt134.1)) : Int).toNat, wrap64 (a1 + x7_2)⟩ : S28)]) (wrap64 (x7_2 + bt134.1))) else (none)) else (none)) else (none)) else (some (([] : List (S28)), 2)))) else (none)))) else (none)) else (none)) = some (r1, r2) := by rw [if_neg (show ¬ (false = true) by decide)] at H; exact H
                  clear H
                  have H := H1
                  clear H1
                  have c17b0 := eq_true (of_decide_eq_true (by first | (with_reducible assumption) | assumption) : 0 ≤ x7_2)
                  by_cases c18 : x7_2 ≤ (wrap64 (x7_2 + 1))
                  · rw [if_pos c18] at H
                    have c18b0 := eq_true c18
                    have c18b1 : decide (x7_2 ≤ (wrap64 (x7_2 + 1))) = true := decide_eq_true c18
                    by_cases c19 : (wrap64 (x7_2 + 1)) ≤ (a0.size : Int)
                    · rw [if_pos c19] at H
                      have c19b0 := eq_true c19
                      have c19b1 : decide ((wrap64 (x7_2 + 1)) ≤ (a0.size : Int)) = true := decide_eq_true c19
                      replace H := Option.bind_eq_some_iff.mp H
                      obtain ⟨t126, A200, H⟩ := H
                      replace H : (if t126 = true then (if x7_2 ≤ (a0.size : Int) then ((spec_stringOf.f k2 (a0.extract (x7_2 : Int).toNat a0.size)).bind fun bt127 => (if bt127.2.2 = true then (if (wrap64 (x7_2 + bt127.2.1)) < (a0.size : Int) then (if 0 ≤ (wrap64 (x7_2 + bt127.2.1)) then ((spec_isBlank.f (bt a0 (wrap64 (x7_2 + bt127.2.1)))).bind fun t130 => (spec_Arguments.j2 k2 a0 a1 x6_2 x7_2 bt127.1 bt127.2.1 (!t130))) else (none)) else (spec_Arguments.j2 k2 a0 a1 x6_2 x7_2 bt127.1 bt127.2.1 false)) else (spec_Arguments.j2 k2 a0 a1 x6_2 x7_2 bt127.1 bt127.2.1 true))) else (none)) else (if x7_2 ≤ (a0.size : Int) then ((spec_wordEnd.f k2 (a0.extract (x7_2 : Int).toNat a0.size)).bind fun bt134 => (if bt134.2 = true then (if x7_2 ≤ (wrap64 (x7_2 + bt134.1)) then (if (wrap64 (x7_2 + bt134.1)) ≤ (a0.size : Int) then (if x6_2.length < 5864062014805 then (spec_Arguments.l0 k2 a0 a1 (x6_2 ++ [(⟨a0.extract (x7_2 : Int).toNat ((wrap64 (x7_2 + bt134.1)) : Int).toNat, wrap64 (a1 + x7_2)⟩ : S28)]) (wrap64 (x7_2 + bt134.1))) else (none)) else (none)) else (none)) else (some (([] : List (S28)), 2)))) else (none))) = some (r1, r2) := H
                      have A20 := Aside0.mk A200
                      clear A200
                      by_cases c21 : t126 = true
                      · subst c21
                        have H1 : (if x7_2 ≤ (a0.size : Int) then ((spec_stringOf.f k2 (a0.extract (x7_2 : Int).toNat a0.size)).bind fun bt127 => (if bt127.2.2 = true then (if (wrap64 (x7_2 + bt127.2.1)) < (a0.size : Int) then (if 0 ≤ (wrap64 (x7_2 + bt127.2.1)) then ((spec_isBlank.f (bt a0 (wrap64 (x7_2 + bt127.2.1)))).bind fun t130 => (spec_Arguments.j2 k2 a0 a1 x6_2 x7_2 bt127.1 bt127.2.1 (!t130))) else (none)) else (spec_Arguments.j2 k2 a0 a1 x6_2 x7_2 bt127.1 bt127.2.1 false)) else (spec_Arguments.j2 k2 a0 a1 x6_2 x7_2 bt127.1 bt127.2.1 true))) else (none)) = some (r1, r2) := by rw [if_pos rfl] at H; exact H
                        clear H
                        have H := H1
                        clear H1
                        have c22b0 := eq_true (of_decide_eq_true (by first | (with_reducible assumption) | assumption) : 0 ≤ x7_2)
                        by_cases c23 : x7_2 ≤ (a0.size : Int)
                        · rw [if_pos c23] at H
                          have c23b0 := eq_true c23
                          have c23b1 : decide (x7_2 ≤ (a0.size : Int)) = true := decide_eq_true c23
                          clear c23
                          replace H := Option.bind_eq_some_iff.mp H
                          obtain ⟨⟨t127, t128, t129⟩, A240, H⟩ := H
                          replace H : (if t129 = true then (if (wrap64 (x7_2 + t128)) < (a0.size : Int) then (if 0 ≤ (wrap64 (x7_2 + t128)) then ((spec_isBlank.f (bt a0 (wrap64 (x7_2 + t128)))).bind fun t130 => (spec_Arguments.j2 k2 a0 a1 x6_2 x7_2 t127 t128 (!t130))) else (none)) else (spec_Arguments.j2 k2 a0 a1 x6_2 x7_2 t127 t128 false)) else (spec_Arguments.j2 k2 a0 a1 x6_2 x7_2 t127 t128 true)) = some (r1, r2) := H
                          have A24 := Aside0.mk A240
                          clear A240
                          have HC25 := Aside0.mk H
                          clear H
                          have p14 : 0 ≤ (x7_2 : Int) := of_decide_eq_true (by first | (with_reducible assumption) | assumption)
                          have q14 : x7_2 < (a0.size : Int) := of_decide_eq_true (by first | (with_reducible assumption) | assumption)
                          have hx14 := bt_at a0 x7_2
                          replace p14 := eq_true p14
                          replace q14 := eq_true q14
                          go_upto_region 10 with (first | ((with_reducible refine gate_callee (f := 14) rfl ?_); refine goesL_ (some 33) rfl rfl Tryf.func14 (by kernel_rfl) rfl #[.int .u8 (bt a0 x7_2)] rfl (by (try simp only [List.map_toArray, List.map_cons, List.map_nil]); first | done | rfl | (simp only [List.length_drop, List.length_take]; rfl)) ?_; (with_reducible refine (spec_isBlank.calls (bt a0 x7_2) false _ A15.out).mono ?_); rintro e w' ⟨rfl, ⟨nd, rfl⟩⟩; refine ⟨_, rfl, ?_⟩) | ((with_reducible refine gate_callee (f := 15) rfl ?_); refine goesL_ (some 41) rfl rfl Tryf.func15 (by kernel_rfl) rfl #[.string (⟨#[34, 96]⟩ : ByteArray), .string (a0.extract (x7_2 : Int).toNat ((wrap64 (x7_2 + 1)) : Int).toNat)] rfl (by (try simp only [List.map_toArray, List.map_cons, List.map_nil]); first | done | rfl | (simp only [List.length_drop, List.length_take]; rfl)) ?_; (with_reducible refine (spec_has.calls k2 (⟨#[34, 96]⟩ : ByteArray) (a0.extract (x7_2 : Int).toNat ((wrap64 (x7_2 + 1)) : Int).toNat) true _ A20.out).mono ?_); rintro e w' ⟨rfl, ⟨nd, rfl⟩⟩; refine ⟨_, rfl, ?_⟩) | ((with_reducible refine gate_callee (f := 16) rfl ?_); refine goesL_ (some 46) rfl rfl Tryf.func16 (by kernel_rfl) rfl #[.string (a0.extract (x7_2 : Int).toNat a0.size)] rfl (by (try simp only [List.map_toArray, List.map_cons, List.map_nil]); first | done | rfl | (simp only [List.length_drop, List.length_take]; rfl)) ?_; (with_reducible refine (spec_stringOf.calls k2 (a0.extract (x7_2 : Int).toNat a0.size) t127 t128 t129 _ A24.out).mono ?_); rintro e w26 ⟨rfl, hb⟩; refine ⟨_, rfl, ?_⟩; have n0_ := Aside0.mk (Kd.R_below (by (with_reducible repeat (first | apply Kd.R_alloc | apply Kd.R_drewN | apply Kd.R_drew)); exact HO_6.out) hb); have n1_ := Aside0.mk (below_step (by repeat (first | (with_reducible first | exact HB.out | apply below_alloc | apply pw_below_drewN | apply below_drew1) | exact HB.out)) hb); clear HO_6; clear HB; have HO_6 := n0_; have HB := n1_; clear n0_ n1_; (try clear hb); (try clear hb2); (try clear hk); (try clear hi)))
                          (try simp only [Act.put, List.setIfInBounds_toArray, List.set_cons_zero, List.set_cons_succ])
                          go_cut [68] (fun v68 wc => ∃ (kq : Nat) (x68_24 : Bool), v68 = .bool x68_24 ∧ Aside0 (spec_Arguments.j2 kq a0 a1 x6_2 x7_2 t127 t128 x68_24 = some (r1, r2)) ∧ Aside0 (kq ≤ k2) ∧ Aside0 (Kd.R k28 28 wc w.heap.size (fun _ => True) u6 x6_2) ∧ Aside0 (Below w.heap.size w wc))
                          case first =>
                            have H := HC25.out
                            clear HC25
                            by_cases c27 : t129 = true
                            · subst c27
                              have H1 : (if (wrap64 (x7_2 + t128)) < (a0.size : Int) then (if 0 ≤ (wrap64 (x7_2 + t128)) then ((spec_isBlank.f (bt a0 (wrap64 (x7_2 + t128)))).bind fun t130 => (spec_Arguments.j2 k2 a0 a1 x6_2 x7_2 t127 t128 (!t130))) else (none)) else (spec_Arguments.j2 k2 a0 a1 x6_2 x7_2 t127 t128 false)) = some (r1, r2) := by rw [if_pos rfl] at H; exact H
                              clear H
                              have H := H1
                              clear H1
                              by_cases c28 : (wrap64 (x7_2 + t128)) < (a0.size : Int)
                              · rw [if_pos c28] at H
                                have c28b0 : decide ((wrap64 (x7_2 + t128)) < (a0.size : Int)) = true := decide_eq_true c28
                                clear c28
                                (first | rw [c28b0] | (simp only [i64_w, i32_w]; rw [c28b0]) | skip)
                                obtain ⟨ji29, hji29⟩ : ∃ j_ : Int, (wrap64 (x7_2 + t128)) = j_ := ⟨_, rfl⟩
                                replace H : (if 0 ≤ (ji29) then ((spec_isBlank.f (bt a0 (ji29))).bind fun t130 => (spec_Arguments.j2 k2 a0 a1 x6_2 x7_2 t127 t128 (!t130))) else (none)) = some (r1, r2) := by first | (rw [hji29] at H; exact H) | (simp only [hji29] at H ⊢; exact H)
                                (try rw [hji29] at c28b0)
                                have hji29w : (IntKind.i64.wrap (x7_2 + t128)) = ji29 := (i64_w _).trans hji29
                                by_cases c30 : 0 ≤ (ji29)
                                · rw [if_pos c30] at H
                                  have c30b0 : decide (0 ≤ (ji29)) = true := decide_eq_true c30
                                  clear c30
                                  replace H := Option.bind_eq_some_iff.mp H
                                  obtain ⟨t130, A320, H⟩ := H
                                  replace H : (spec_Arguments.j2 k2 a0 a1 x6_2 x7_2 t127 t128 (!t130)) = some (r1, r2) := H
                                  have A32 := Aside0.mk A320
                                  clear A320
                                  have H' := Aside0.mk H
                                  clear H
                                  have p31 : 0 ≤ ((ji29) : Int) := of_decide_eq_true (by first | (with_reducible assumption) | assumption)
                                  have q31 : (ji29) < (a0.size : Int) := of_decide_eq_true (by first | (with_reducible assumption) | assumption)
                                  have hx31 := bt_at a0 (ji29)
                                  replace p31 := eq_true p31
                                  replace q31 := eq_true q31
                                  go_wp2_with (first | (go_at_call 14; (with_reducible refine (spec_isBlank.calls (bt a0 (ji29)) t130 _ A32.out).mono ?_); rintro e w' ⟨rfl, ⟨nd, rfl⟩⟩))
                                  go_meet
                                  case rel => exact ⟨_, (!t130), (by first | rfl | (simp; done) | (simp [*]; done)), H', ⟨by have := HJ2.out; have := HK2.out; first | omega | exact Nat.le_refl _⟩, ⟨by (with_reducible repeat (first | apply Kd.R_alloc | apply Kd.R_drewN | apply Kd.R_drew)); exact HO_6.out⟩, ⟨by repeat (first | (with_reducible first | exact HB.out | apply below_alloc | apply pw_below_drewN | apply below_drew1) | exact HB.out)⟩⟩
                                · rw [if_neg c30] at H
                                  exact absurd H (by simp)
                              · rw [if_neg c28] at H
                                have c28b0 : decide ((wrap64 (x7_2 + t128)) < (a0.size : Int)) = false := decide_eq_false c28
                                clear c28
                                (first | rw [c28b0] | (simp only [i64_w, i32_w]; rw [c28b0]) | skip)
                                have H' := Aside0.mk H
                                clear H
                                go_wp2
                                go_meet
                                case rel => exact ⟨_, (false), (by first | rfl | (simp; done) | (simp [*]; done)), H', ⟨by have := HJ2.out; have := HK2.out; first | omega | exact Nat.le_refl _⟩, ⟨by (with_reducible repeat (first | apply Kd.R_alloc | apply Kd.R_drewN | apply Kd.R_drew)); exact HO_6.out⟩, ⟨by repeat (first | (with_reducible first | exact HB.out | apply below_alloc | apply pw_below_drewN | apply below_drew1) | exact HB.out)⟩⟩
                            · replace c27 := Bool.eq_false_iff.mpr c27
                              subst c27
                              have H1 : (spec_Arguments.j2 k2 a0 a1 x6_2 x7_2 t127 t128 true) = some (r1, r2) := by rw [if_neg (show ¬ (false = true) by decide)] at H; exact H
                              clear H
                              have H := H1
                              clear H1
                              have H' := Aside0.mk H
                              clear H
                              go_wp2
                              go_meet
                              case rel => exact ⟨_, (true), (by first | rfl | (simp; done) | (simp [*]; done)), H', ⟨by have := HJ2.out; have := HK2.out; first | omega | exact Nat.le_refl _⟩, ⟨by (with_reducible repeat (first | apply Kd.R_alloc | apply Kd.R_drewN | apply Kd.R_drew)); exact HO_6.out⟩, ⟨by repeat (first | (with_reducible first | exact HB.out | apply below_alloc | apply pw_below_drewN | apply below_drew1) | exact HB.out)⟩⟩
                          case rest =>
                            clear HC25
                            try clear c1
                            try clear p1
                            try clear q1
                            try clear hx1
                            try clear c2
                            try clear p2
                            try clear c3
                            try clear p3
                            try clear q3
                            try clear hx3
                            try clear c5
                            try clear p6
                            try clear c7
                            try clear c9
                            try clear c9b0
                            try clear c11
                            try clear c12
                            try clear c12b0
                            try clear c13
                            try clear c13b0
                            try clear c14
                            try clear p14
                            try clear q14
                            try clear hx14
                            try clear c15
                            try clear c16
                            try clear c17
                            try clear c17b0
                            try clear c18
                            try clear c18b0
                            try clear c18b1
                            try clear c19
                            try clear c19b0
                            try clear c19b1
                            try clear c21
                            try clear c22
                            try clear c22b0
                            try clear c23
                            try clear c23b0
                            try clear c23b1
                            try clear c27
                            try clear c28
                            try clear c28b0
                            try clear c30
                            try clear c30b0
                            try clear p31
                            try clear q31
                            try clear hx31
                            try clear p14
                            try clear p2
                            try clear p31
                            try clear q14
                            try clear q31
                            obtain ⟨kq, x68_24, rfl, HA, HJ24, HO_6, HB⟩ := hcut
                            cases kq with
                            | zero => exact absurd HA.out (by simp [spec_Arguments.j2])
                            | succ kj24 =>
                              have H := HA.out
                              clear HA
                              simp only [spec_Arguments.j2] at H
                              by_cases c33 : x68_24 = true
                              · subst c33
                                have H1 : (some (([] : List (S28)), 1)) = some (r1, r2) := by rw [if_pos rfl] at H; exact H
                                clear H
                                have H := H1
                                clear H1
                                simp only [Option.some.injEq, Prod.mk.injEq] at H
                                obtain ⟨rfl, rfl⟩ := H
                                go_wp2
                                go_ret2
                                exact ⟨_, by first | rfl | (simp [errW_none, errW_some] <;> rfl) | (simp [*, errW_none, errW_some] <;> rfl), by first | exact Kd.R_nil _ _ _ _ _ | exact Kd.N_nil _ _ _ _ _ | exact Kd.V_nil _ _ _ _ _ | exact Kd.Q_nil _ _ _ _ _ | exact Kd.S_nil _ _ _ _ _, by repeat (first | (with_reducible first | exact HB.out | apply below_alloc | apply pw_below_drewN | apply below_drew1) | exact HB.out)⟩
                              · replace c33 := Bool.eq_false_iff.mpr c33
                                subst c33
                                have H1 : (if x6_2.length < 5864062014805 then (spec_Arguments.l0 kj24 a0 a1 (x6_2 ++ [(⟨t127, (-1)⟩ : S28)]) (wrap64 (x7_2 + t128))) else (none)) = some (r1, r2) := by rw [if_neg (show ¬ (false = true) by decide)] at H; exact H
                                clear H
                                have H := H1
                                clear H1
                                by_cases c34 : x6_2.length < 5864062014805
                                · rw [if_pos c34] at H
                                  have LMc34 := Aside0.mk c34
                                  clear c34
                                  obtain ⟨y131, hy131⟩ : ∃ y_ : List (S28), y_ = (x6_2 ++ [(⟨t127, (-1)⟩ : S28)]) := ⟨_, rfl⟩
                                  replace H : (spec_Arguments.l0 kj24 a0 a1 y131 (wrap64 (x7_2 + t128))) = some (r1, r2) := by first | (rw [hy131]; with_reducible exact H) | (have H2_ := (Option.bind_some _ _).symm.trans H; rw [hy131]; with_reducible exact H2_) | (have H2_ := (Option.bind_some _ _).symm.trans H; with_reducible exact H2_) | with_reducible exact H | (rw [hy131]; exact H) | exact H
                                  have Ny131 := Aside0.mk hy131
                                  clear hy131
                                  have H' := Aside0.mk H
                                  clear H
                                  go_wp2_with (first | ((with_reducible refine gate_builtin (b := .append) (xs := #[.tmp 69, .tmp 72]) rfl ?_); (try (refine gate_guard (by rfl) ?_; dsimp only)); at_builtin; refine Kd.R_append k28 (w0 := w) w.heap.size rfl (.tmp 69) (.tmp 72) 22 28 (.agg #[(.string ⟨#[]⟩), (.int .i64 0)]) 24 rfl Tryf.underlying22 info28 rfl (by decide) (by omega) u6 x6_2 (⟨t127, (-1)⟩ : S28) [.string t127, .int .i64 (-1)] (fun _ => True) (fun _ => False) rfl rfl ?aP (fun _ hk => hk.elim) ?aF ?aO ?aB ?aS ?aL ?_; (case aP => exact k28_mkM _ _ _ (⟨t127, (-1)⟩ : S28)); (case aB => exact (by repeat (first | (with_reducible first | exact HB.out | apply below_alloc | apply pw_below_drewN | apply below_drew1) | exact HB.out))); (case aF => exact (fun _ _ => trivial)); (case aO => exact (by (with_reducible repeat (first | apply Kd.R_alloc | apply Kd.R_drewN | apply Kd.R_drew)); exact HO_6.out)); (case aS => exact (below_size (by repeat (first | (with_reducible first | exact HB.out | apply below_alloc | apply pw_below_drewN | apply below_drew1) | exact HB.out)))); (case aL => have := LMc34.out; omega); intro v132 w35 ho hb hg hat; rw [← Ny131.out] at ho; have n0_ := Aside0.mk (hb); have n1_ := Aside0.mk (ho); clear HB; clear HO_6; have HB := n0_; have HO133 := n1_; clear n0_ n1_; clear ho hb hg hat))
                                  go_roundg kj24
                                  case measure => have := HJ2.out; have := HK2.out; have := HJ24.out; omega
                                  case rel => exact ⟨(y131), (wrap64 (x7_2 + t128)), (by first | rfl | (simp; done) | (simp [*]; done)), H', ⟨by have := HJ2.out; have := HK2.out; have := HJ24.out; omega⟩, ⟨by (with_reducible repeat (first | apply Kd.R_alloc | apply Kd.R_drewN | apply Kd.R_drew)); exact HO133.out⟩, ⟨by repeat (first | (with_reducible first | exact HB.out | apply below_alloc | apply pw_below_drewN | apply below_drew1) | exact HB.out)⟩⟩
                                · rw [if_neg c34] at H
                                  exact absurd H (by simp)
                        · rw [if_neg c23] at H
                          exact absurd H (by simp)
                      · replace c21 := Bool.eq_false_iff.mpr c21
                        subst c21
                        have H1 : (if x7_2 ≤ (a0.size : Int) then ((spec_wordEnd.f k2 (a0.extract (x7_2 : Int).toNat a0.size)).bind fun bt134 => (if bt134.2 = true then (if x7_2 ≤ (wrap64 (x7_2 + bt134.1)) then (if (wrap64 (x7_2 + bt134.1)) ≤ (a0.size : Int) then (if x6_2.length < 5864062014805 then (spec_Arguments.l0 k2 a0 a1 (x6_2 ++ [(⟨a0.extract (x7_2 : Int).toNat ((wrap64 (x7_2 + bt134.1)) : Int).toNat, wrap64 (a1 + x7_2)⟩ : S28)]) (wrap64 (x7_2 + bt134.1))) else (none)) else (none)) else (none)) else (some (([] : List (S28)), 2)))) else (none)) = some (r1, r2) := by rw [if_neg (show ¬ (false = true) by decide)] at H; exact H
                        clear H
                        have H := H1
                        clear H1
                        have c36b0 := eq_true (of_decide_eq_true (by first | (with_reducible assumption) | assumption) : 0 ≤ x7_2)
                        by_cases c37 : x7_2 ≤ (a0.size : Int)
                        · rw [if_pos c37] at H
                          have c37b0 := eq_true c37
                          have c37b1 : decide (x7_2 ≤ (a0.size : Int)) = true := decide_eq_true c37
                          clear c37
                          replace H := Option.bind_eq_some_iff.mp H
                          obtain ⟨⟨t134, t135⟩, A380, H⟩ := H
                          replace H : (if t135 = true then (if x7_2 ≤ (wrap64 (x7_2 + t134)) then (if (wrap64 (x7_2 + t134)) ≤ (a0.size : Int) then (if x6_2.length < 5864062014805 then (spec_Arguments.l0 k2 a0 a1 (x6_2 ++ [(⟨a0.extract (x7_2 : Int).toNat ((wrap64 (x7_2 + t134)) : Int).toNat, wrap64 (a1 + x7_2)⟩ : S28)]) (wrap64 (x7_2 + t134))) else (none)) else (none)) else (none)) else (some (([] : List (S28)), 2))) = some (r1, r2) := H
                          have A38 := Aside0.mk A380
                          clear A380
                          by_cases c39 : t135 = true
                          · subst c39
                            have H1 : (if x7_2 ≤ (wrap64 (x7_2 + t134)) then (if (wrap64 (x7_2 + t134)) ≤ (a0.size : Int) then (if x6_2.length < 5864062014805 then (spec_Arguments.l0 k2 a0 a1 (x6_2 ++ [(⟨a0.extract (x7_2 : Int).toNat ((wrap64 (x7_2 + t134)) : Int).toNat, wrap64 (a1 + x7_2)⟩ : S28)]) (wrap64 (x7_2 + t134))) else (none)) else (none)) else (none)) = some (r1, r2) := by rw [if_pos rfl] at H; exact H
                            clear H
                            have H := H1
                            clear H1
                            have c40b0 := eq_true (of_decide_eq_true (by first | (with_reducible assumption) | assumption) : 0 ≤ x7_2)
                            by_cases c41 : x7_2 ≤ (wrap64 (x7_2 + t134))
                            · rw [if_pos c41] at H
                              have c41b0 := eq_true c41
                              have c41b1 : decide (x7_2 ≤ (wrap64 (x7_2 + t134))) = true := decide_eq_true c41
                              by_cases c42 : (wrap64 (x7_2 + t134)) ≤ (a0.size : Int)
                              · rw [if_pos c42] at H
                                have c42b0 := eq_true c42
                                have c42b1 : decide ((wrap64 (x7_2 + t134)) ≤ (a0.size : Int)) = true := decide_eq_true c42
                                by_cases c43 : x6_2.length < 5864062014805
                                · rw [if_pos c43] at H
                                  have LMc43 := Aside0.mk c43
                                  clear c43
                                  obtain ⟨y136, hy136⟩ : ∃ y_ : List (S28), y_ = (x6_2 ++ [(⟨a0.extract (x7_2 : Int).toNat ((wrap64 (x7_2 + t134)) : Int).toNat, wrap64 (a1 + x7_2)⟩ : S28)]) := ⟨_, rfl⟩
                                  replace H : (spec_Arguments.l0 k2 a0 a1 y136 (wrap64 (x7_2 + t134))) = some (r1, r2) := by first | (rw [hy136]; with_reducible exact H) | (have H2_ := (Option.bind_some _ _).symm.trans H; rw [hy136]; with_reducible exact H2_) | (have H2_ := (Option.bind_some _ _).symm.trans H; with_reducible exact H2_) | with_reducible exact H | (rw [hy136]; exact H) | exact H
                                  have Ny136 := Aside0.mk hy136
                                  clear hy136
                                  have H' := Aside0.mk H
                                  clear H
                                  have p14 : 0 ≤ (x7_2 : Int) := of_decide_eq_true (by first | (with_reducible assumption) | assumption)
                                  have q14 : x7_2 < (a0.size : Int) := of_decide_eq_true (by first | (with_reducible assumption) | assumption)
                                  have hx14 := bt_at a0 x7_2
                                  replace p14 := eq_true p14
                                  replace q14 := eq_true q14
                                  go_wp2_with (first | ((with_reducible refine gate_callee (f := 14) rfl ?_); refine goesL_ (some 33) rfl rfl Tryf.func14 (by kernel_rfl) rfl #[.int .u8 (bt a0 x7_2)] rfl (by (try simp only [List.map_toArray, List.map_cons, List.map_nil]); first | done | rfl | (simp only [List.length_drop, List.length_take]; rfl)) ?_; (with_reducible refine (spec_isBlank.calls (bt a0 x7_2) false _ A15.out).mono ?_); rintro e w' ⟨rfl, ⟨nd, rfl⟩⟩; refine ⟨_, rfl, ?_⟩) | ((with_reducible refine gate_callee (f := 15) rfl ?_); refine goesL_ (some 41) rfl rfl Tryf.func15 (by kernel_rfl) rfl #[.string (⟨#[34, 96]⟩ : ByteArray), .string (a0.extract (x7_2 : Int).toNat ((wrap64 (x7_2 + 1)) : Int).toNat)] rfl (by (try simp only [List.map_toArray, List.map_cons, List.map_nil]); first | done | rfl | (simp only [List.length_drop, List.length_take]; rfl)) ?_; (with_reducible refine (spec_has.calls k2 (⟨#[34, 96]⟩ : ByteArray) (a0.extract (x7_2 : Int).toNat ((wrap64 (x7_2 + 1)) : Int).toNat) false _ A20.out).mono ?_); rintro e w' ⟨rfl, ⟨nd, rfl⟩⟩; refine ⟨_, rfl, ?_⟩) | ((with_reducible refine gate_callee (f := 17) rfl ?_); refine goesL_ (some 81) rfl rfl Tryf.func17 (by kernel_rfl) rfl #[.string (a0.extract (x7_2 : Int).toNat a0.size)] rfl (by (try simp only [List.map_toArray, List.map_cons, List.map_nil]); first | done | rfl | (simp only [List.length_drop, List.length_take]; rfl)) ?_; (with_reducible refine (spec_wordEnd.calls k2 (a0.extract (x7_2 : Int).toNat a0.size) t134 true _ A38.out).mono ?_); rintro e w' ⟨rfl, ⟨nd, rfl⟩⟩; refine ⟨_, rfl, ?_⟩) | ((with_reducible refine gate_builtin (b := .append) (xs := #[.tmp 86, .tmp 97]) rfl ?_); (try (refine gate_guard (by rfl) ?_; dsimp only)); at_builtin; refine Kd.R_append k28 (w0 := w) w.heap.size rfl (.tmp 86) (.tmp 97) 22 28 (.agg #[(.string ⟨#[]⟩), (.int .i64 0)]) 24 rfl Tryf.underlying22 info28 rfl (by decide) (by omega) u6 x6_2 (⟨a0.extract (x7_2 : Int).toNat ((wrap64 (x7_2 + t134)) : Int).toNat, wrap64 (a1 + x7_2)⟩ : S28) [.string (a0.extract (x7_2 : Int).toNat ((wrap64 (x7_2 + t134)) : Int).toNat), .int .i64 (wrap64 (a1 + x7_2))] (fun _ => True) (fun _ => False) rfl rfl ?aP (fun _ hk => hk.elim) ?aF ?aO ?aB ?aS ?aL ?_; (case aP => exact k28_mkM _ _ _ (⟨a0.extract (x7_2 : Int).toNat ((wrap64 (x7_2 + t134)) : Int).toNat, wrap64 (a1 + x7_2)⟩ : S28)); (case aB => exact (by repeat (first | (with_reducible first | exact HB.out | apply below_alloc | apply pw_below_drewN | apply below_drew1) | exact HB.out))); (case aF => exact (fun _ _ => trivial)); (case aO => exact (by (with_reducible repeat (first | apply Kd.R_alloc | apply Kd.R_drewN | apply Kd.R_drew)); exact HO_6.out)); (case aS => exact (below_size (by repeat (first | (with_reducible first | exact HB.out | apply below_alloc | apply pw_below_drewN | apply below_drew1) | exact HB.out)))); (case aL => have := LMc43.out; omega); intro v137 w44 ho hb hg hat; rw [← Ny136.out] at ho; have n0_ := Aside0.mk (hb); have n1_ := Aside0.mk (ho); clear HB; clear HO_6; have HB := n0_; have HO138 := n1_; clear n0_ n1_; clear ho hb hg hat))
                                  go_roundg k2
                                  case measure => have := HJ2.out; have := HK2.out; omega
                                  case rel => exact ⟨(y136), (wrap64 (x7_2 + t134)), (by first | rfl | (simp; done) | (simp [*]; done)), H', ⟨by have := HJ2.out; have := HK2.out; omega⟩, ⟨by (with_reducible repeat (first | apply Kd.R_alloc | apply Kd.R_drewN | apply Kd.R_drew)); exact HO138.out⟩, ⟨by repeat (first | (with_reducible first | exact HB.out | apply below_alloc | apply pw_below_drewN | apply below_drew1) | exact HB.out)⟩⟩
                                · rw [if_neg c43] at H
                                  exact absurd H (by simp)
                              · rw [if_neg c42] at H
                                exact absurd H (by simp)
                            · rw [if_neg c41] at H
                              exact absurd H (by simp)
                          · replace c39 := Bool.eq_false_iff.mpr c39
                            subst c39
                            have H1 : (some (([] : List (S28)), 2)) = some (r1, r2) := by rw [if_neg (show ¬ (false = true) by decide)] at H; exact H
                            clear H
                            have H := H1
                            clear H1
                            simp only [Option.some.injEq, Prod.mk.injEq] at H
                            obtain ⟨rfl, rfl⟩ := H
                            have p14 : 0 ≤ (x7_2 : Int) := of_decide_eq_true (by first | (with_reducible assumption) | assumption)
                            have q14 : x7_2 < (a0.size : Int) := of_decide_eq_true (by first | (with_reducible assumption) | assumption)
                            have hx14 := bt_at a0 x7_2
                            replace p14 := eq_true p14
                            replace q14 := eq_true q14
                            go_wp2_with (first | ((with_reducible refine gate_callee (f := 14) rfl ?_); refine goesL_ (some 33) rfl rfl Tryf.func14 (by kernel_rfl) rfl #[.int .u8 (bt a0 x7_2)] rfl (by (try simp only [List.map_toArray, List.map_cons, List.map_nil]); first | done | rfl | (simp only [List.length_drop, List.length_take]; rfl)) ?_; (with_reducible refine (spec_isBlank.calls (bt a0 x7_2) false _ A15.out).mono ?_); rintro e w' ⟨rfl, ⟨nd, rfl⟩⟩; refine ⟨_, rfl, ?_⟩) | ((with_reducible refine gate_callee (f := 15) rfl ?_); refine goesL_ (some 41) rfl rfl Tryf.func15 (by kernel_rfl) rfl #[.string (⟨#[34, 96]⟩ : ByteArray), .string (a0.extract (x7_2 : Int).toNat ((wrap64 (x7_2 + 1)) : Int).toNat)] rfl (by (try simp only [List.map_toArray, List.map_cons, List.map_nil]); first | done | rfl | (simp only [List.length_drop, List.length_take]; rfl)) ?_; (with_reducible refine (spec_has.calls k2 (⟨#[34, 96]⟩ : ByteArray) (a0.extract (x7_2 : Int).toNat ((wrap64 (x7_2 + 1)) : Int).toNat) false _ A20.out).mono ?_); rintro e w' ⟨rfl, ⟨nd, rfl⟩⟩; refine ⟨_, rfl, ?_⟩) | ((with_reducible refine gate_callee (f := 17) rfl ?_); refine goesL_ (some 81) rfl rfl Tryf.func17 (by kernel_rfl) rfl #[.string (a0.extract (x7_2 : Int).toNat a0.size)] rfl (by (try simp only [List.map_toArray, List.map_cons, List.map_nil]); first | done | rfl | (simp only [List.length_drop, List.length_take]; rfl)) ?_; (with_reducible refine (spec_wordEnd.calls k2 (a0.extract (x7_2 : Int).toNat a0.size) t134 false _ A38.out).mono ?_); rintro e w' ⟨rfl, ⟨nd, rfl⟩⟩; refine ⟨_, rfl, ?_⟩))
                            go_ret2
                            exact ⟨_, by first | rfl | (simp [errW_none, errW_some] <;> rfl) | (simp [*, errW_none, errW_some] <;> rfl), by first | exact Kd.R_nil _ _ _ _ _ | exact Kd.N_nil _ _ _ _ _ | exact Kd.V_nil _ _ _ _ _ | exact Kd.Q_nil _ _ _ _ _ | exact Kd.S_nil _ _ _ _ _, by repeat (first | (with_reducible first | exact HB.out | apply below_alloc | apply pw_below_drewN | apply below_drew1) | exact HB.out)⟩
                        · rw [if_neg c37] at H
                          exact absurd H (by simp)
                    · rw [if_neg c19] at H
                      exact absurd H (by simp)
                  · rw [if_neg c18] at H
                    exact absurd H (by simp)
              · rw [if_neg c13] at H
                exact absurd H (by simp)
            · rw [if_neg c12] at H
              have c12b0 : decide (x7_2 < (a0.size : Int)) = false := decide_eq_false c12
              clear c12
              simp only [Option.some.injEq, Prod.mk.injEq] at H
              obtain ⟨rfl, rfl⟩ := H
              go_wp2
              go_ret2
              exact ⟨_, by first | rfl | (simp [errW_none, errW_some] <;> rfl) | (simp [*, errW_none, errW_some] <;> rfl), by (with_reducible repeat (first | apply Kd.R_alloc | apply Kd.R_drewN | apply Kd.R_drew)); exact HO_6.out, by repeat (first | (with_reducible first | exact HB.out | apply below_alloc | apply pw_below_drewN | apply below_drew1) | exact HB.out)⟩

end Go.Proofs.YtcjiafjahfmdoaaFmt.A
