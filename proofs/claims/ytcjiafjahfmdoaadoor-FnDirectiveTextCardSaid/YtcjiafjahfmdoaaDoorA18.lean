-- Written by a program of this session (gprint.py) out of the kit's print of the translation. Not trusted: Lean checks it.
import Derived.Test.YtcjiafjahfmdoaaDoorA0
import Derived.Test.YtcjiafjahfmdoaaDoorA3
import Derived.Test.YtcjiafjahfmdoaaDoorA7
import Derived.Test.YtcjiafjahfmdoaaDoorA14
import Derived.Test.YtcjiafjahfmdoaaDoorGComm
import Derived.Test.YtcjiafjahfmdoaaDoorGDir
namespace Go.Proofs.YtcjiafjahfmdoaaDoor.A
open Go.RowKit Go.Proofs.YtcjiafjahfmdoaaDoorW.PrintWords Go.Proofs.YtcjiafjahfmdoaaDoorW.PrintLast Go.Proofs.YtcjiafjahfmdoaaDoorW.PrintMore
attribute [local go_sem] max2_int min2_int max_two min_two max_three min_three max_four min_four   -- for this text's walks alone
set_option linter.unusedVariables false
set_option linter.unusedSimpArgs false

/-! ### laws_FnDirectiveText: function 4 -/
def laws_FnDirectiveText.j0 : Nat → ByteArray → Int → Bool → Option (Bool)
  | 0, _, _, _ => none
  | k + 1, x0, x1, x32 => if x32 = true then (some true) else ((spec_Directive.f k x1 x0).bind fun bt186 => ((impl_ParseDirective.f x1 x0).bind fun bt193 => (if (bt193.2.2.2.2.2 == bt186.2.2.2.2.2) = true then (if bt193.2.2.2.2.2 = true then ((impl_CommentText.f (([x0] : List ByteArray))).bind fun t203 => (some (t203.toList == ([] : List UInt8)))) else (some true)) else (some false))))
def laws_FnDirectiveText.f (k : Nat) (a0 : ByteArray) (a1 : Int) : Option (Bool) := if (a0.size : Int) > 2147483647 then (some true) else (if (a0.size : Int) > 1000 then (laws_FnDirectiveText.j0 k a0 a1 true) else ((spec_IsComment.f k a0).bind fun t184 => (if t184 = true then ((spec_IsLine.f k a0).bind fun t185 => (if t185 = true then (if a1 < 0 then (laws_FnDirectiveText.j0 k a0 a1 true) else (laws_FnDirectiveText.j0 k a0 a1 (decide (a1 > 1000000)))) else (laws_FnDirectiveText.j0 k a0 a1 true))) else (laws_FnDirectiveText.j0 k a0 a1 true))))
theorem laws_FnDirectiveText.mono_l : ∀ k, (∀ y0 y1 y2, LeO (laws_FnDirectiveText.j0 k y0 y1 y2) (laws_FnDirectiveText.j0 (k + 1) y0 y1 y2))
  | 0 => fun _ _ _ r h => by simp [laws_FnDirectiveText.j0] at h
  | k + 1 => by
    have ih0 := laws_FnDirectiveText.mono_l k
    · intro y0 y1 y2
      unfold laws_FnDirectiveText.j0
      repeat' first
      | (with_reducible exact ih0 _ _ _)
      | (with_reducible exact spec_Directive.mono _ _ _)
      | (with_reducible exact spec_IsComment.mono _ _)
      | (with_reducible exact spec_IsLine.mono _ _)
      | (with_reducible exact LeO.refl _)
      | (with_reducible exact LeO.none _)
      | (with_reducible refine LeO.ite ?_ ?_)
      | (with_reducible refine LeO.bind ?_ (fun _ => ?_))
      | exact ih0 _ _ _
      | exact spec_Directive.mono _ _ _
      | exact spec_IsComment.mono _ _
      | exact spec_IsLine.mono _ _
      | exact LeO.none _
      | refine LeO.ite ?_ ?_
      | refine LeO.bind ?_ (fun _ => ?_)
theorem laws_FnDirectiveText.mono : ∀ a0 a1 k, LeO (laws_FnDirectiveText.f k a0 a1) (laws_FnDirectiveText.f (k + 1) a0 a1) := by
  intro a0 a1 k
  have ih0 := laws_FnDirectiveText.mono_l k
  unfold laws_FnDirectiveText.f
  repeat' first
      | (with_reducible exact ih0 _ _ _)
      | (with_reducible exact spec_Directive.mono _ _ _)
      | (with_reducible exact spec_IsComment.mono _ _)
      | (with_reducible exact spec_IsLine.mono _ _)
      | (with_reducible exact LeO.refl _)
      | (with_reducible exact LeO.none _)
      | (with_reducible refine LeO.ite ?_ ?_)
      | (with_reducible refine LeO.bind ?_ (fun _ => ?_))
      | exact ih0 _ _ _
      | exact spec_Directive.mono _ _ _
      | exact spec_IsComment.mono _ _
      | exact spec_IsLine.mono _ _
      | exact LeO.none _
      | refine LeO.ite ?_ ?_
      | refine LeO.bind ?_ (fun _ => ?_)
set_option maxHeartbeats 8000000 in
set_option maxRecDepth 100000 in
theorem laws_FnDirectiveText.calls (k : Nat) (a0 : ByteArray) (a1 : Int) (r : Bool) (w : World) (hT : Tabs w) (h : laws_FnDirectiveText.f k a0 a1 = some r) :
    Calls Tryd.prog 4 #[.string a0, .int .i64 a1] w fun e w' => e = .returned (.bool r) ∧ Below w.heap.size w w' := by
  have hu24 := Tryd.underlying24
  have HT := Aside0.mk hT
  clear hT
  have HB := Aside0.mk (Below.refl w.heap.size w)
  have H : (if (a0.size : Int) > 2147483647 then (some true) else (if (a0.size : Int) > 1000 then (laws_FnDirectiveText.j0 k a0 a1 true) else ((spec_IsComment.f k a0).bind fun t184 => (if t184 = true then ((spec_IsLine.f k a0).bind fun t185 => (if t185 = true then (if a1 < 0 then (laws_FnDirectiveText.j0 k a0 a1 true) else (laws_FnDirectiveText.j0 k a0 a1 (decide (a1 > 1000000)))) else (laws_FnDirectiveText.j0 k a0 a1 true))) else (laws_FnDirectiveText.j0 k a0 a1 true))))) = some r := h
  clear h
  by_cases c3 : (a0.size : Int) > 2147483647
  · rw [if_pos c3] at H
    have c3b0 : decide (2147483647 < (a0.size : Int)) = true := decide_eq_true c3
    have c3b1 : decide (2147483647 < a0.size) = true := decide_eq_true (by omega)
    clear c3
    obtain rfl := Option.some.inj H
    go_enter Tryd.func4, Tryd.ntmps4
    go_wp2
    go_ret
    exact ⟨by first | rfl | (simp [errW_none, errW_some] <;> rfl) | (simp [*, errW_none, errW_some] <;> rfl), by repeat (first | (with_reducible first | exact HB.out | apply below_alloc | apply pw_below_drewN | apply below_drew1) | exact HB.out)⟩
  · rw [if_neg c3] at H
    have c3b0 : decide (2147483647 < (a0.size : Int)) = false := decide_eq_false c3
    have c3b1 : decide (2147483647 < a0.size) = false := decide_eq_false (by omega)
    clear c3
    have HC4 := Aside0.mk H
    clear H
    go_enter Tryd.func4, Tryd.ntmps4
    go_upto_region 3 with (fail)
    go_cut [32] (fun v32 wc => ∃ (kq : Nat) (x32_3 : Bool), v32 = .bool x32_3 ∧ Aside0 (laws_FnDirectiveText.j0 kq a0 a1 x32_3 = some r) ∧ Aside0 (kq ≤ k) ∧ Aside0 (Below w.heap.size w wc))
    case first =>
      have H := HC4.out
      clear HC4
      by_cases c5 : (a0.size : Int) > 1000
      · rw [if_pos c5] at H
        have c5b0 : decide (1000 < (a0.size : Int)) = true := decide_eq_true c5
        have c5b1 : decide (1000 < a0.size) = true := decide_eq_true (by omega)
        clear c5
        (first | rw [c5b0] | (simp only [i64_w, i32_w]; rw [c5b0]) | skip)
        have H' := Aside0.mk H
        clear H
        go_wp2
        go_meet
        case rel => exact ⟨_, (true), (by first | rfl | (simp; done) | (simp [*]; done)), H', ⟨by first | omega | exact Nat.le_refl _⟩, ⟨by repeat (first | (with_reducible first | exact HB.out | apply below_alloc | apply pw_below_drewN | apply below_drew1) | exact HB.out)⟩⟩
      · rw [if_neg c5] at H
        have c5b0 : decide (1000 < (a0.size : Int)) = false := decide_eq_false c5
        have c5b1 : decide (1000 < a0.size) = false := decide_eq_false (by omega)
        clear c5
        (first | rw [c5b0] | (simp only [i64_w, i32_w]; rw [c5b0]) | skip)
        replace H := Option.bind_eq_some_iff.mp H
        obtain ⟨t184, A60, H⟩ := H
        replace H : (if t184 = true then ((spec_IsLine.f k a0).bind fun t185 => (if t185 = true then (if a1 < 0 then (laws_FnDirectiveText.j0 k a0 a1 true) else (laws_FnDirectiveText.j0 k a0 a1 (decide (a1 > 1000000)))) else (laws_FnDirectiveText.j0 k a0 a1 true))) else (laws_FnDirectiveText.j0 k a0 a1 true)) = some r := H
        have A6 := Aside0.mk A60
        clear A60
        by_cases c7 : t184 = true
        · subst c7
          have H1 : ((spec_IsLine.f k a0).bind fun t185 => (if t185 = true then (if a1 < 0 then (laws_FnDirectiveText.j0 k a0 a1 true) else (laws_FnDirectiveText.j0 k a0 a1 (decide (a1 > 1000000)))) else (laws_FnDirectiveText.j0 k a0 a1 true))) = some r := by rw [if_pos rfl] at H; exact H
          clear H
          have H := H1
          clear H1
          replace H := Option.bind_eq_some_iff.mp H
          obtain ⟨t185, A80, H⟩ := H
          replace H : (if t185 = true then (if a1 < 0 then (laws_FnDirectiveText.j0 k a0 a1 true) else (laws_FnDirectiveText.j0 k a0 a1 (decide (a1 > 1000000)))) else (laws_FnDirectiveText.j0 k a0 a1 true)) = some r := H
          have A8 := Aside0.mk A80
          clear A80
          by_cases c9 : t185 = true
          · subst c9
            have H1 : (if a1 < 0 then (laws_FnDirectiveText.j0 k a0 a1 true) else (laws_FnDirectiveText.j0 k a0 a1 (decide (a1 > 1000000)))) = some r := by rw [if_pos rfl] at H; exact H
            clear H
            have H := H1
            clear H1
            by_cases c10 : a1 < 0
            · rw [if_pos c10] at H
              have c10b0 : decide (a1 < 0) = true := decide_eq_true c10
              clear c10
              have H' := Aside0.mk H
              clear H
              go_wp2_with (first | (go_at_call 8; (with_reducible refine (spec_IsComment.calls k a0 true _ A6.out).mono ?_); rintro e w11 ⟨rfl, hb⟩; have n0_ := Aside0.mk (below_step (by repeat (first | (with_reducible first | exact HB.out | apply below_alloc | apply pw_below_drewN | apply below_drew1) | exact HB.out)) hb); clear HB; have HB := n0_; clear n0_; (try clear hb); (try clear hb2); (try clear hk); (try clear hi)) | (go_at_call 5; (with_reducible refine (spec_IsLine.calls k a0 true _ A8.out).mono ?_); rintro e w' ⟨rfl, ⟨nd, rfl⟩⟩))
              go_meet
              case rel => exact ⟨_, (true), (by first | rfl | (simp; done) | (simp [*]; done)), H', ⟨by first | omega | exact Nat.le_refl _⟩, ⟨by repeat (first | (with_reducible first | exact HB.out | apply below_alloc | apply pw_below_drewN | apply below_drew1) | exact HB.out)⟩⟩
            · rw [if_neg c10] at H
              have c10b0 : decide (a1 < 0) = false := decide_eq_false c10
              clear c10
              have H' := Aside0.mk H
              clear H
              go_wp2_with (first | (go_at_call 8; (with_reducible refine (spec_IsComment.calls k a0 true _ A6.out).mono ?_); rintro e w12 ⟨rfl, hb⟩; have n0_ := Aside0.mk (below_step (by repeat (first | (with_reducible first | exact HB.out | apply below_alloc | apply pw_below_drewN | apply below_drew1) | exact HB.out)) hb); clear HB; have HB := n0_; clear n0_; (try clear hb); (try clear hb2); (try clear hk); (try clear hi)) | (go_at_call 5; (with_reducible refine (spec_IsLine.calls k a0 true _ A8.out).mono ?_); rintro e w' ⟨rfl, ⟨nd, rfl⟩⟩))
              go_meet
              case rel => exact ⟨_, (decide (a1 > 1000000)), (by first | rfl | (simp; done) | (simp [*]; done)), H', ⟨by first | omega | exact Nat.le_refl _⟩, ⟨by repeat (first | (with_reducible first | exact HB.out | apply below_alloc | apply pw_below_drewN | apply below_drew1) | exact HB.out)⟩⟩
          · replace c9 := Bool.eq_false_iff.mpr c9
            subst c9
            have H1 : (laws_FnDirectiveText.j0 k a0 a1 true) = some r := by rw [if_neg (show ¬ (false = true) by decide)] at H; exact H
            clear H
            have H := H1
            clear H1
            have H' := Aside0.mk H
            clear H
            go_wp2_with (first | (go_at_call 8; (with_reducible refine (spec_IsComment.calls k a0 true _ A6.out).mono ?_); rintro e w13 ⟨rfl, hb⟩; have n0_ := Aside0.mk (below_step (by repeat (first | (with_reducible first | exact HB.out | apply below_alloc | apply pw_below_drewN | apply below_drew1) | exact HB.out)) hb); clear HB; have HB := n0_; clear n0_; (try clear hb); (try clear hb2); (try clear hk); (try clear hi)) | (go_at_call 5; (with_reducible refine (spec_IsLine.calls k a0 false _ A8.out).mono ?_); rintro e w' ⟨rfl, ⟨nd, rfl⟩⟩))
            go_meet
            case rel => exact ⟨_, (true), (by first | rfl | (simp; done) | (simp [*]; done)), H', ⟨by first | omega | exact Nat.le_refl _⟩, ⟨by repeat (first | (with_reducible first | exact HB.out | apply below_alloc | apply pw_below_drewN | apply below_drew1) | exact HB.out)⟩⟩
        · replace c7 := Bool.eq_false_iff.mpr c7
          subst c7
          have H1 : (laws_FnDirectiveText.j0 k a0 a1 true) = some r := by rw [if_neg (show ¬ (false = true) by decide)] at H; exact H
          clear H
          have H := H1
          clear H1
          have H' := Aside0.mk H
          clear H
          go_wp2_with (first | (go_at_call 8; (with_reducible refine (spec_IsComment.calls k a0 false _ A6.out).mono ?_); rintro e w14 ⟨rfl, hb⟩; have n0_ := Aside0.mk (below_step (by repeat (first | (with_reducible first | exact HB.out | apply below_alloc | apply pw_below_drewN | apply below_drew1) | exact HB.out)) hb); clear HB; have HB := n0_; clear n0_; (try clear hb); (try clear hb2); (try clear hk); (try clear hi)))
          go_meet
          case rel => exact ⟨_, (true), (by first | rfl | (simp; done) | (simp [*]; done)), H', ⟨by first | omega | exact Nat.le_refl _⟩, ⟨by repeat (first | (with_reducible first | exact HB.out | apply below_alloc | apply pw_below_drewN | apply below_drew1) | exact HB.out)⟩⟩
    case rest =>
      clear HC4
      try clear c1
      try clear p2
      try clear c3
      try clear c3b0
      try clear c3b1
      try clear c4
      try clear c5
      try clear c5b0
      try clear c5b1
      try clear c7
      try clear c9
      try clear c10
      try clear c10b0
      obtain ⟨kq, x32_3, rfl, HA, HJ3, HB⟩ := hcut
      cases kq with
      | zero => exact absurd HA.out (by simp [laws_FnDirectiveText.j0])
      | succ kj3 =>
        have H := HA.out
        clear HA
        simp only [laws_FnDirectiveText.j0] at H
        by_cases c15 : x32_3 = true
        · subst c15
          have H1 : (some true) = some r := by rw [if_pos rfl] at H; exact H
          clear H
          have H := H1
          clear H1
          obtain rfl := Option.some.inj H
          go_wp2
          go_ret
          exact ⟨by first | rfl | (simp [errW_none, errW_some] <;> rfl) | (simp [*, errW_none, errW_some] <;> rfl), by repeat (first | (with_reducible first | exact HB.out | apply below_alloc | apply pw_below_drewN | apply below_drew1) | exact HB.out)⟩
        · replace c15 := Bool.eq_false_iff.mpr c15
          subst c15
          have H1 : ((spec_Directive.f kj3 a1 a0).bind fun bt186 => ((impl_ParseDirective.f a1 a0).bind fun bt193 => (if (bt193.2.2.2.2.2 == bt186.2.2.2.2.2) = true then (if bt193.2.2.2.2.2 = true then ((impl_CommentText.f (([a0] : List ByteArray))).bind fun t203 => (some (t203.toList == ([] : List UInt8)))) else (some true)) else (some false)))) = some r := by rw [if_neg (show ¬ (false = true) by decide)] at H; exact H
          clear H
          have H := H1
          clear H1
          replace H := Option.bind_eq_some_iff.mp H
          obtain ⟨⟨t186, t187, t188, t189, t190, t191⟩, A160, H⟩ := H
          replace H : ((impl_ParseDirective.f a1 a0).bind fun bt193 => (if (bt193.2.2.2.2.2 == t191) = true then (if bt193.2.2.2.2.2 = true then ((impl_CommentText.f (([a0] : List ByteArray))).bind fun t203 => (some (t203.toList == ([] : List UInt8)))) else (some true)) else (some false))) = some r := H
          have A16 := Aside0.mk A160
          clear A160
          replace H := Option.bind_eq_some_iff.mp H
          obtain ⟨⟨t193, t194, t195, t196, t197, t198⟩, A170, H⟩ := H
          replace H : (if (t198 == t191) = true then (if t198 = true then ((impl_CommentText.f (([a0] : List ByteArray))).bind fun t203 => (some (t203.toList == ([] : List UInt8)))) else (some true)) else (some false)) = some r := H
          have A17 := Aside0.mk A170
          clear A170
          by_cases c18 : (t198 == t191) = true
          · rw [if_pos c18] at H
            have c18b0 : (t198 == t191) = true := c18
            (try (have c18b1 : decide (t198 = t191) = true := by simpa using c18))
            (try (have c18b2 : (t198 == t191) = true := by simpa using c18))
            clear c18
            by_cases c19 : t198 = true
            · subst c19
              have H1 : ((impl_CommentText.f (([a0] : List ByteArray))).bind fun t203 => (some (t203.toList == ([] : List UInt8)))) = some r := by rw [if_pos rfl] at H; exact H
              clear H
              have H := H1
              clear H1
              obtain ⟨y200, hy200⟩ : ∃ y_ : List ByteArray, y_ = (([a0] : List ByteArray)) := ⟨_, rfl⟩
              replace H : ((impl_CommentText.f y200).bind fun t203 => (some (t203.toList == ([] : List UInt8)))) = some r := by first | (rw [hy200]; with_reducible exact H) | (have H2_ := (Option.bind_some _ _).symm.trans H; rw [hy200]; with_reducible exact H2_) | (have H2_ := (Option.bind_some _ _).symm.trans H; with_reducible exact H2_) | with_reducible exact H | (rw [hy200]; exact H) | exact H
              have Ny200 := Aside0.mk hy200
              clear hy200
              replace H := Option.bind_eq_some_iff.mp H
              obtain ⟨t203, A200, H⟩ := H
              replace H : (some (t203.toList == ([] : List UInt8))) = some r := H
              have A20 := Aside0.mk A200
              clear A200
              obtain rfl := Option.some.inj H
              go_wp2_with (first | ((with_reducible refine gate_callee (f := 6) rfl ?_); refine goesL_ (some 36) rfl rfl Tryd.func6 (by kernel_rfl) rfl #[.int .i64 a1, .string a0] rfl (by (try simp only [List.map_toArray, List.map_cons, List.map_nil]); first | done | rfl | (simp only [List.length_drop, List.length_take]; rfl)) ?_; (with_reducible refine (spec_Directive.calls kj3 a1 a0 t186 t187 t188 t189 t190 t191 _ A16.out).mono ?_); rintro e w21 ⟨rfl, hb⟩; refine ⟨_, rfl, ?_⟩; have n0_ := Aside0.mk (below_step (by repeat (first | (with_reducible first | exact HB.out | apply below_alloc | apply pw_below_drewN | apply below_drew1) | exact HB.out)) hb); clear HB; have HB := n0_; clear n0_; (try clear hb); (try clear hb2); (try clear hk); (try clear hi)) | ((with_reducible refine gate_dst (N := 5) rfl ?_); (try (refine gate_guard (by rfl) ?_; dsimp only)); refine box_event ?hg (N := 5) ?hd (cs := #[.string (⟨#[]⟩ : ByteArray), .string (⟨#[]⟩ : ByteArray), .string (⟨#[]⟩ : ByteArray), .int .i64 0, .int .i64 0]) (t := 24) ?hr ?_; (case hd => rfl); (case hg => rfl); (case hr => first | (go_simp; done) | (go_simp; rfl)); intro gb192 hg w22 hbox hb; have n0_ := Aside0.mk (below_step (by repeat (first | (with_reducible first | exact HB.out | apply below_alloc | apply pw_below_drewN | apply below_drew1) | exact HB.out)) hb); have n1_ := Aside0.mk (hbox); have n2_ := Aside0.mk ((by rw [hg]; exact (below_size (by repeat (first | (with_reducible first | exact HB.out | apply below_alloc | apply pw_below_drewN | apply below_drew1) | exact HB.out))) : w.heap.size ≤ gb192)); have n3_ := Aside0.mk ((by rw [hg]; exact (below_size (by repeat (first | (with_reducible first | exact HB.out | apply below_alloc | apply pw_below_drewN | apply below_drew1) | exact HB.out))) : w.heap.size ≤ gb192)); clear HB; have HB := n0_; have BK192 := n1_; have GW192 := n2_; have GE192 := n3_; clear n0_ n1_ n2_ n3_; clear hb hbox hg; have hcz23_0 : w22.cell? ⟨gb192, 0, none⟩ = some (.string (⟨#[]⟩ : ByteArray)) := (blk_cell BK192.out 0).trans rfl; have hcz23_1 : w22.cell? ⟨gb192, 1, none⟩ = some (.string (⟨#[]⟩ : ByteArray)) := (blk_cell BK192.out 1).trans rfl; have hcz23_2 : w22.cell? ⟨gb192, 2, none⟩ = some (.string (⟨#[]⟩ : ByteArray)) := (blk_cell BK192.out 2).trans rfl; have hcz23_3 : w22.cell? ⟨gb192, 3, none⟩ = some (.int .i64 0) := (blk_cell BK192.out 3).trans rfl; have hcz23_4 : w22.cell? ⟨gb192, 4, none⟩ = some (.int .i64 0) := (blk_cell BK192.out 4).trans rfl; have hfz23_0 := blk_frozen BK192.out 0; have hfz23_1 := blk_frozen BK192.out 1; have hfz23_2 := blk_frozen BK192.out 2; have hfz23_3 := blk_frozen BK192.out 3; have hfz23_4 := blk_frozen BK192.out 4) | ((with_reducible refine gate_callee (f := 7) rfl ?_); refine goesL_ (some 42) rfl rfl Tryd.func7 (by kernel_rfl) rfl #[.int .i64 a1, .string a0] rfl (by (try simp only [List.map_toArray, List.map_cons, List.map_nil]); first | done | rfl | (simp only [List.length_drop, List.length_take]; rfl)) ?_; (with_reducible refine (impl_ParseDirective.calls a1 a0 t193 t194 t195 t196 t197 true _ (HT.out.below (by repeat (first | (with_reducible first | exact HB.out | apply below_alloc | apply pw_below_drewN | apply below_drew1 | refine below_set ?_ GE192.out | refine below_set ?_ GE199.out) | exact HB.out))) A17.out).mono ?_); rintro e w24 ⟨rfl, hb⟩; refine ⟨_, rfl, ?_⟩; have n0_ := Aside0.mk (blk_below (g := gb192) (o := .cells #[.string t186, .string t187, .string t188, .int .i64 t189, .int .i64 t190] 24 (0, 0)) (by (with_reducible repeat (first | refine blk_drewN ?_ _ | refine blk_drew ?_ | refine blk_alloc ?_ _)); refine blk_put (cs := #[.string t186, .string t187, .string t188, .int .i64 t189, .int .i64 0]) ?_ 4 _ rfl; (with_reducible repeat (first | refine blk_drewN ?_ _ | refine blk_drew ?_ | refine blk_alloc ?_ _)); refine blk_put (cs := #[.string t186, .string t187, .string t188, .int .i64 0, .int .i64 0]) ?_ 3 _ rfl; (with_reducible repeat (first | refine blk_drewN ?_ _ | refine blk_drew ?_ | refine blk_alloc ?_ _)); refine blk_put (cs := #[.string t186, .string t187, .string (⟨#[]⟩ : ByteArray), .int .i64 0, .int .i64 0]) ?_ 2 _ rfl; (with_reducible repeat (first | refine blk_drewN ?_ _ | refine blk_drew ?_ | refine blk_alloc ?_ _)); refine blk_put (cs := #[.string t186, .string (⟨#[]⟩ : ByteArray), .string (⟨#[]⟩ : ByteArray), .int .i64 0, .int .i64 0]) ?_ 1 _ rfl; (with_reducible repeat (first | refine blk_drewN ?_ _ | refine blk_drew ?_ | refine blk_alloc ?_ _)); refine blk_put (cs := #[.string (⟨#[]⟩ : ByteArray), .string (⟨#[]⟩ : ByteArray), .string (⟨#[]⟩ : ByteArray), .int .i64 0, .int .i64 0]) ?_ 0 _ rfl; (with_reducible repeat (first | refine blk_drewN ?_ _ | refine blk_drew ?_ | refine blk_alloc ?_ _)); exact BK192.out) hb); have n1_ := Aside0.mk (below_step (by repeat (first | (with_reducible first | exact HB.out | apply below_alloc | apply pw_below_drewN | apply below_drew1 | refine below_set ?_ GE192.out) | exact HB.out)) hb); clear BK192; clear HB; have BK192 := n0_; have HB := n1_; clear n0_ n1_; (try clear hb); (try clear hb2); (try clear hk); (try clear hi)) | ((with_reducible refine gate_dst (N := 7) rfl ?_); (try (refine gate_guard (by rfl) ?_; dsimp only)); refine box_event ?hg (N := 7) ?hd (cs := #[.string (⟨#[]⟩ : ByteArray), .string (⟨#[]⟩ : ByteArray), .string (⟨#[]⟩ : ByteArray), .int .i64 0, .int .i64 0]) (t := 24) ?hr ?_; (case hd => rfl); (case hg => rfl); (case hr => first | (go_simp; done) | (go_simp; rfl)); intro gb199 hg w25 hbox hb; have n0_ := Aside0.mk (blk_below (g := gb192) (o := .cells #[.string t186, .string t187, .string t188, .int .i64 t189, .int .i64 t190] 24 (0, 0)) (by (with_reducible repeat (first | refine blk_drewN ?_ _ | refine blk_drew ?_ | refine blk_alloc ?_ _)); exact BK192.out) hb); have n1_ := Aside0.mk (below_step (by repeat (first | (with_reducible first | exact HB.out | apply below_alloc | apply pw_below_drewN | apply below_drew1 | refine below_set ?_ GE192.out) | exact HB.out)) hb); have n2_ := Aside0.mk (hbox); have n3_ := Aside0.mk ((by rw [hg]; exact (below_size (by repeat (first | (with_reducible first | exact HB.out | apply below_alloc | apply pw_below_drewN | apply below_drew1 | refine below_set ?_ GE192.out) | exact HB.out))) : w.heap.size ≤ gb199)); have n4_ := Aside0.mk ((by rw [hg]; exact (below_size (by repeat (first | (with_reducible first | exact HB.out | apply below_alloc | apply pw_below_drewN | apply below_drew1 | refine below_set ?_ GE192.out) | exact HB.out))) : w.heap.size ≤ gb199)); have n5_ := Aside0.mk ((by rw [hg]; exact Nat.ne_of_lt (blk_lt (g := gb192) (o := .cells #[.string t186, .string t187, .string t188, .int .i64 t189, .int .i64 t190] 24 (0, 0)) (by (with_reducible repeat (first | refine blk_drewN ?_ _ | refine blk_drew ?_ | refine blk_alloc ?_ _)); exact BK192.out)) : gb192 ≠ gb199)); have n6_ := Aside0.mk ((by rw [hg]; exact Nat.ne_of_gt (blk_lt (g := gb192) (o := .cells #[.string t186, .string t187, .string t188, .int .i64 t189, .int .i64 t190] 24 (0, 0)) (by (with_reducible repeat (first | refine blk_drewN ?_ _ | refine blk_drew ?_ | refine blk_alloc ?_ _)); exact BK192.out)) : gb199 ≠ gb192)); clear BK192; clear HB; have BK192 := n0_; have HB := n1_; have BK199 := n2_; have GW199 := n3_; have GE199 := n4_; have NB192_199 := n5_; have NB199_192 := n6_; clear n0_ n1_ n2_ n3_ n4_ n5_ n6_; clear hb hbox hg; have hnb26 := NB199_192.out; have hnc26 := NB192_199.out; have hcz27_0 : w25.cell? ⟨gb199, 0, none⟩ = some (.string (⟨#[]⟩ : ByteArray)) := (blk_cell BK199.out 0).trans rfl; have hcz27_1 : w25.cell? ⟨gb199, 1, none⟩ = some (.string (⟨#[]⟩ : ByteArray)) := (blk_cell BK199.out 1).trans rfl; have hcz27_2 : w25.cell? ⟨gb199, 2, none⟩ = some (.string (⟨#[]⟩ : ByteArray)) := (blk_cell BK199.out 2).trans rfl; have hcz27_3 : w25.cell? ⟨gb199, 3, none⟩ = some (.int .i64 0) := (blk_cell BK199.out 3).trans rfl; have hcz27_4 : w25.cell? ⟨gb199, 4, none⟩ = some (.int .i64 0) := (blk_cell BK199.out 4).trans rfl; have hfz27_0 := blk_frozen BK199.out 0; have hfz27_1 := blk_frozen BK199.out 1; have hfz27_2 := blk_frozen BK199.out 2; have hfz27_3 := blk_frozen BK199.out 3; have hfz27_4 := blk_frozen BK199.out 4) | ((with_reducible refine gate_dst (N := 53) rfl ?_); (try (refine gate_guard (by rfl) ?_; dsimp only)); refine Kd.R_lit Kd.string _ 9 ?hg (N := 53) ?hd (xs := ([a0] : List ByteArray)) (inner := [.string a0]) (ok := fun _ => True) (okp := fun _ => True) ?hr ?hp (fun _ hk => hk) trivial (Below.refl _ _) (Nat.le_refl _) (by simp) ?_; (case hd => rfl); (case hg => rfl); (case hr => first | (go_simp; done) | (go_simp; rfl)); (case hp => exact (Reps.one (show Kd.M Kd.string _ _ _ a0 [.string a0] from rfl) (Reps.none _ _))); intro v201 w28 ho29 hb hg_ hnew_; clear hg_ hnew_; (first | rw [← Ny200.out] at ho29 | (simp only [Int.reduceToNat] at ho29; rw [← Ny200.out] at ho29)); have n0_ := Aside0.mk (Kd.R_lower ho29 (below_size (by repeat (first | (with_reducible first | exact HB.out | apply below_alloc | apply pw_below_drewN | apply below_drew1 | refine below_set ?_ GE192.out | refine below_set ?_ GE199.out) | exact HB.out)))); have n1_ := Aside0.mk (blk_below (g := gb192) (o := .cells #[.string t186, .string t187, .string t188, .int .i64 t189, .int .i64 t190] 24 (0, 0)) (by (with_reducible repeat (first | refine blk_drewN ?_ _ | refine blk_drew ?_ | refine blk_alloc ?_ _)); refine blk_far ?_ NB192_199.out _; (with_reducible repeat (first | refine blk_drewN ?_ _ | refine blk_drew ?_ | refine blk_alloc ?_ _)); refine blk_far ?_ NB192_199.out _; (with_reducible repeat (first | refine blk_drewN ?_ _ | refine blk_drew ?_ | refine blk_alloc ?_ _)); refine blk_far ?_ NB192_199.out _; (with_reducible repeat (first | refine blk_drewN ?_ _ | refine blk_drew ?_ | refine blk_alloc ?_ _)); refine blk_far ?_ NB192_199.out _; (with_reducible repeat (first | refine blk_drewN ?_ _ | refine blk_drew ?_ | refine blk_alloc ?_ _)); refine blk_far ?_ NB192_199.out _; (with_reducible repeat (first | refine blk_drewN ?_ _ | refine blk_drew ?_ | refine blk_alloc ?_ _)); exact BK192.out) hb); have n2_ := Aside0.mk (blk_below (g := gb199) (o := .cells #[.string t193, .string t194, .string t195, .int .i64 t196, .int .i64 t197] 24 (0, 0)) (by (with_reducible repeat (first | refine blk_drewN ?_ _ | refine blk_drew ?_ | refine blk_alloc ?_ _)); refine blk_put (cs := #[.string t193, .string t194, .string t195, .int .i64 t196, .int .i64 0]) ?_ 4 _ rfl; (with_reducible repeat (first | refine blk_drewN ?_ _ | refine blk_drew ?_ | refine blk_alloc ?_ _)); refine blk_put (cs := #[.string t193, .string t194, .string t195, .int .i64 0, .int .i64 0]) ?_ 3 _ rfl; (with_reducible repeat (first | refine blk_drewN ?_ _ | refine blk_drew ?_ | refine blk_alloc ?_ _)); refine blk_put (cs := #[.string t193, .string t194, .string (⟨#[]⟩ : ByteArray), .int .i64 0, .int .i64 0]) ?_ 2 _ rfl; (with_reducible repeat (first | refine blk_drewN ?_ _ | refine blk_drew ?_ | refine blk_alloc ?_ _)); refine blk_put (cs := #[.string t193, .string (⟨#[]⟩ : ByteArray), .string (⟨#[]⟩ : ByteArray), .int .i64 0, .int .i64 0]) ?_ 1 _ rfl; (with_reducible repeat (first | refine blk_drewN ?_ _ | refine blk_drew ?_ | refine blk_alloc ?_ _)); refine blk_put (cs := #[.string (⟨#[]⟩ : ByteArray), .string (⟨#[]⟩ : ByteArray), .string (⟨#[]⟩ : ByteArray), .int .i64 0, .int .i64 0]) ?_ 0 _ rfl; (with_reducible repeat (first | refine blk_drewN ?_ _ | refine blk_drew ?_ | refine blk_alloc ?_ _)); exact BK199.out) hb); have n3_ := Aside0.mk (below_step (by repeat (first | (with_reducible first | exact HB.out | apply below_alloc | apply pw_below_drewN | apply below_drew1 | refine below_set ?_ GE192.out | refine below_set ?_ GE199.out) | exact HB.out)) hb); clear BK192; clear BK199; clear HB; have HO202 := n0_; have BK192 := n1_; have BK199 := n2_; have HB := n3_; clear n0_ n1_ n2_ n3_; clear hb ho29; obtain ⟨Ao30, co30, eo30⟩ := Kd.R_slice HO202.out; subst eo30) | (go_at_call 9; (with_reducible refine (impl_CommentText.calls _ _ y200 t203 _ ?side1 ?side2 A20.out).mono ?_); (case side1 => repeat (first | exact (Kd.R_reads' HO202.out).2.2 | (with_reducible refine Kd.C_alloc ?_ _) | (with_reducible refine Kd.C_drewN ?_ _) | (with_reducible refine Kd.C_drew ?_))); (case side2 => exact (Kd.R_reads' HO202.out).2.1); rintro e w31 ⟨rfl, hb⟩; have n0_ := Aside0.mk (Kd.R_below (by (with_reducible repeat (first | apply Kd.R_alloc | apply Kd.R_drewN | apply Kd.R_drew)); exact HO202.out) hb); have n1_ := Aside0.mk (blk_below (g := gb192) (o := .cells #[.string t186, .string t187, .string t188, .int .i64 t189, .int .i64 t190] 24 (0, 0)) (by (with_reducible repeat (first | refine blk_drewN ?_ _ | refine blk_drew ?_ | refine blk_alloc ?_ _)); exact BK192.out) hb); have n2_ := Aside0.mk (blk_below (g := gb199) (o := .cells #[.string t193, .string t194, .string t195, .int .i64 t196, .int .i64 t197] 24 (0, 0)) (by (with_reducible repeat (first | refine blk_drewN ?_ _ | refine blk_drew ?_ | refine blk_alloc ?_ _)); exact BK199.out) hb); have n3_ := Aside0.mk (below_step (by repeat (first | (with_reducible first | exact HB.out | apply below_alloc | apply pw_below_drewN | apply below_drew1 | refine below_set ?_ GE192.out | refine below_set ?_ GE199.out) | exact HB.out)) hb); clear HO202; clear BK192; clear BK199; clear HB; have HO202 := n0_; have BK192 := n1_; have BK199 := n2_; have HB := n3_; clear n0_ n1_ n2_ n3_; (try clear hb); (try clear hb2); (try clear hk); (try clear hi)))
              go_ret
              exact ⟨by first | rfl | (simp [errW_none, errW_some] <;> rfl) | (simp [*, errW_none, errW_some] <;> rfl), by repeat (first | (with_reducible first | exact HB.out | apply below_alloc | apply pw_below_drewN | apply below_drew1 | refine below_set ?_ GE192.out | refine below_set ?_ GE199.out) | exact HB.out)⟩
            · replace c19 := Bool.eq_false_iff.mpr c19
              subst c19
              have H1 : (some true) = some r := by rw [if_neg (show ¬ (false = true) by decide)] at H; exact H
              clear H
              have H := H1
              clear H1
              obtain rfl := Option.some.inj H
              go_wp2_with (first | ((with_reducible refine gate_callee (f := 6) rfl ?_); refine goesL_ (some 36) rfl rfl Tryd.func6 (by kernel_rfl) rfl #[.int .i64 a1, .string a0] rfl (by (try simp only [List.map_toArray, List.map_cons, List.map_nil]); first | done | rfl | (simp only [List.length_drop, List.length_take]; rfl)) ?_; (with_reducible refine (spec_Directive.calls kj3 a1 a0 t186 t187 t188 t189 t190 t191 _ A16.out).mono ?_); rintro e w32 ⟨rfl, hb⟩; refine ⟨_, rfl, ?_⟩; have n0_ := Aside0.mk (below_step (by repeat (first | (with_reducible first | exact HB.out | apply below_alloc | apply pw_below_drewN | apply below_drew1) | exact HB.out)) hb); clear HB; have HB := n0_; clear n0_; (try clear hb); (try clear hb2); (try clear hk); (try clear hi)) | ((with_reducible refine gate_dst (N := 5) rfl ?_); (try (refine gate_guard (by rfl) ?_; dsimp only)); refine box_event ?hg (N := 5) ?hd (cs := #[.string (⟨#[]⟩ : ByteArray), .string (⟨#[]⟩ : ByteArray), .string (⟨#[]⟩ : ByteArray), .int .i64 0, .int .i64 0]) (t := 24) ?hr ?_; (case hd => rfl); (case hg => rfl); (case hr => first | (go_simp; done) | (go_simp; rfl)); intro gb192 hg w33 hbox hb; have n0_ := Aside0.mk (below_step (by repeat (first | (with_reducible first | exact HB.out | apply below_alloc | apply pw_below_drewN | apply below_drew1) | exact HB.out)) hb); have n1_ := Aside0.mk (hbox); have n2_ := Aside0.mk ((by rw [hg]; exact (below_size (by repeat (first | (with_reducible first | exact HB.out | apply below_alloc | apply pw_below_drewN | apply below_drew1) | exact HB.out))) : w.heap.size ≤ gb192)); have n3_ := Aside0.mk ((by rw [hg]; exact (below_size (by repeat (first | (with_reducible first | exact HB.out | apply below_alloc | apply pw_below_drewN | apply below_drew1) | exact HB.out))) : w.heap.size ≤ gb192)); clear HB; have HB := n0_; have BK192 := n1_; have GW192 := n2_; have GE192 := n3_; clear n0_ n1_ n2_ n3_; clear hb hbox hg; have hcz34_0 : w33.cell? ⟨gb192, 0, none⟩ = some (.string (⟨#[]⟩ : ByteArray)) := (blk_cell BK192.out 0).trans rfl; have hcz34_1 : w33.cell? ⟨gb192, 1, none⟩ = some (.string (⟨#[]⟩ : ByteArray)) := (blk_cell BK192.out 1).trans rfl; have hcz34_2 : w33.cell? ⟨gb192, 2, none⟩ = some (.string (⟨#[]⟩ : ByteArray)) := (blk_cell BK192.out 2).trans rfl; have hcz34_3 : w33.cell? ⟨gb192, 3, none⟩ = some (.int .i64 0) := (blk_cell BK192.out 3).trans rfl; have hcz34_4 : w33.cell? ⟨gb192, 4, none⟩ = some (.int .i64 0) := (blk_cell BK192.out 4).trans rfl; have hfz34_0 := blk_frozen BK192.out 0; have hfz34_1 := blk_frozen BK192.out 1; have hfz34_2 := blk_frozen BK192.out 2; have hfz34_3 := blk_frozen BK192.out 3; have hfz34_4 := blk_frozen BK192.out 4) | ((with_reducible refine gate_callee (f := 7) rfl ?_); refine goesL_ (some 42) rfl rfl Tryd.func7 (by kernel_rfl) rfl #[.int .i64 a1, .string a0] rfl (by (try simp only [List.map_toArray, List.map_cons, List.map_nil]); first | done | rfl | (simp only [List.length_drop, List.length_take]; rfl)) ?_; (with_reducible refine (impl_ParseDirective.calls a1 a0 t193 t194 t195 t196 t197 false _ (HT.out.below (by repeat (first | (with_reducible first | exact HB.out | apply below_alloc | apply pw_below_drewN | apply below_drew1 | refine below_set ?_ GE192.out) | exact HB.out))) A17.out).mono ?_); rintro e w35 ⟨rfl, hb⟩; refine ⟨_, rfl, ?_⟩; have n0_ := Aside0.mk (blk_below (g := gb192) (o := .cells #[.string t186, .string t187, .string t188, .int .i64 t189, .int .i64 t190] 24 (0, 0)) (by (with_reducible repeat (first | refine blk_drewN ?_ _ | refine blk_drew ?_ | refine blk_alloc ?_ _)); refine blk_put (cs := #[.string t186, .string t187, .string t188, .int .i64 t189, .int .i64 0]) ?_ 4 _ rfl; (with_reducible repeat (first | refine blk_drewN ?_ _ | refine blk_drew ?_ | refine blk_alloc ?_ _)); refine blk_put (cs := #[.string t186, .string t187, .string t188, .int .i64 0, .int .i64 0]) ?_ 3 _ rfl; (with_reducible repeat (first | refine blk_drewN ?_ _ | refine blk_drew ?_ | refine blk_alloc ?_ _)); refine blk_put (cs := #[.string t186, .string t187, .string (⟨#[]⟩ : ByteArray), .int .i64 0, .int .i64 0]) ?_ 2 _ rfl; (with_reducible repeat (first | refine blk_drewN ?_ _ | refine blk_drew ?_ | refine blk_alloc ?_ _)); refine blk_put (cs := #[.string t186, .string (⟨#[]⟩ : ByteArray), .string (⟨#[]⟩ : ByteArray), .int .i64 0, .int .i64 0]) ?_ 1 _ rfl; (with_reducible repeat (first | refine blk_drewN ?_ _ | refine blk_drew ?_ | refine blk_alloc ?_ _)); refine blk_put (cs := #[.string (⟨#[]⟩ : ByteArray), .string (⟨#[]⟩ : ByteArray), .string (⟨#[]⟩ : ByteArray), .int .i64 0, .int .i64 0]) ?_ 0 _ rfl; (with_reducible repeat (first | refine blk_drewN ?_ _ | refine blk_drew ?_ | refine blk_alloc ?_ _)); exact BK192.out) hb); have n1_ := Aside0.mk (below_step (by repeat (first | (with_reducible first | exact HB.out | apply below_alloc | apply pw_below_drewN | apply below_drew1 | refine below_set ?_ GE192.out) | exact HB.out)) hb); clear BK192; clear HB; have BK192 := n0_; have HB := n1_; clear n0_ n1_; (try clear hb); (try clear hb2); (try clear hk); (try clear hi)) | ((with_reducible refine gate_dst (N := 7) rfl ?_); (try (refine gate_guard (by rfl) ?_; dsimp only)); refine box_event ?hg (N := 7) ?hd (cs := #[.string (⟨#[]⟩ : ByteArray), .string (⟨#[]⟩ : ByteArray), .string (⟨#[]⟩ : ByteArray), .int .i64 0, .int .i64 0]) (t := 24) ?hr ?_; (case hd => rfl); (case hg => rfl); (case hr => first | (go_simp; done) | (go_simp; rfl)); intro gb199 hg w36 hbox hb; have n0_ := Aside0.mk (blk_below (g := gb192) (o := .cells #[.string t186, .string t187, .string t188, .int .i64 t189, .int .i64 t190] 24 (0, 0)) (by (with_reducible repeat (first | refine blk_drewN ?_ _ | refine blk_drew ?_ | refine blk_alloc ?_ _)); exact BK192.out) hb); have n1_ := Aside0.mk (below_step (by repeat (first | (with_reducible first | exact HB.out | apply below_alloc | apply pw_below_drewN | apply below_drew1 | refine below_set ?_ GE192.out) | exact HB.out)) hb); have n2_ := Aside0.mk (hbox); have n3_ := Aside0.mk ((by rw [hg]; exact (below_size (by repeat (first | (with_reducible first | exact HB.out | apply below_alloc | apply pw_below_drewN | apply below_drew1 | refine below_set ?_ GE192.out) | exact HB.out))) : w.heap.size ≤ gb199)); have n4_ := Aside0.mk ((by rw [hg]; exact (below_size (by repeat (first | (with_reducible first | exact HB.out | apply below_alloc | apply pw_below_drewN | apply below_drew1 | refine below_set ?_ GE192.out) | exact HB.out))) : w.heap.size ≤ gb199)); have n5_ := Aside0.mk ((by rw [hg]; exact Nat.ne_of_lt (blk_lt (g := gb192) (o := .cells #[.string t186, .string t187, .string t188, .int .i64 t189, .int .i64 t190] 24 (0, 0)) (by (with_reducible repeat (first | refine blk_drewN ?_ _ | refine blk_drew ?_ | refine blk_alloc ?_ _)); exact BK192.out)) : gb192 ≠ gb199)); have n6_ := Aside0.mk ((by rw [hg]; exact Nat.ne_of_gt (blk_lt (g := gb192) (o := .cells #[.string t186, .string t187, .string t188, .int .i64 t189, .int .i64 t190] 24 (0, 0)) (by (with_reducible repeat (first | refine blk_drewN ?_ _ | refine blk_drew ?_ | refine blk_alloc ?_ _)); exact BK192.out)) : gb199 ≠ gb192)); clear BK192; clear HB; have BK192 := n0_; have HB := n1_; have BK199 := n2_; have GW199 := n3_; have GE199 := n4_; have NB192_199 := n5_; have NB199_192 := n6_; clear n0_ n1_ n2_ n3_ n4_ n5_ n6_; clear hb hbox hg; have hnb37 := NB199_192.out; have hnc37 := NB192_199.out; have hcz38_0 : w36.cell? ⟨gb199, 0, none⟩ = some (.string (⟨#[]⟩ : ByteArray)) := (blk_cell BK199.out 0).trans rfl; have hcz38_1 : w36.cell? ⟨gb199, 1, none⟩ = some (.string (⟨#[]⟩ : ByteArray)) := (blk_cell BK199.out 1).trans rfl; have hcz38_2 : w36.cell? ⟨gb199, 2, none⟩ = some (.string (⟨#[]⟩ : ByteArray)) := (blk_cell BK199.out 2).trans rfl; have hcz38_3 : w36.cell? ⟨gb199, 3, none⟩ = some (.int .i64 0) := (blk_cell BK199.out 3).trans rfl; have hcz38_4 : w36.cell? ⟨gb199, 4, none⟩ = some (.int .i64 0) := (blk_cell BK199.out 4).trans rfl; have hfz38_0 := blk_frozen BK199.out 0; have hfz38_1 := blk_frozen BK199.out 1; have hfz38_2 := blk_frozen BK199.out 2; have hfz38_3 := blk_frozen BK199.out 3; have hfz38_4 := blk_frozen BK199.out 4))
              go_ret
              exact ⟨by first | rfl | (simp [errW_none, errW_some] <;> rfl) | (simp [*, errW_none, errW_some] <;> rfl), by repeat (first | (with_reducible first | exact HB.out | apply below_alloc | apply pw_below_drewN | apply below_drew1 | refine below_set ?_ GE192.out | refine below_set ?_ GE199.out) | exact HB.out)⟩
          · rw [if_neg c18] at H
            have c18b0 : (t198 == t191) = false := by simpa using c18
            (try (have c18b1 : decide (t198 = t191) = false := by simpa using c18))
            (try (have c18b2 : (t198 == t191) = false := by simpa using c18))
            (try (have c18b3 : ¬ (t198 = t191) := by simpa using c18))
            clear c18
            obtain rfl := Option.some.inj H
            go_wp2_with (first | ((with_reducible refine gate_callee (f := 6) rfl ?_); refine goesL_ (some 36) rfl rfl Tryd.func6 (by kernel_rfl) rfl #[.int .i64 a1, .string a0] rfl (by (try simp only [List.map_toArray, List.map_cons, List.map_nil]); first | done | rfl | (simp only [List.length_drop, List.length_take]; rfl)) ?_; (with_reducible refine (spec_Directive.calls kj3 a1 a0 t186 t187 t188 t189 t190 t191 _ A16.out).mono ?_); rintro e w39 ⟨rfl, hb⟩; refine ⟨_, rfl, ?_⟩; have n0_ := Aside0.mk (below_step (by repeat (first | (with_reducible first | exact HB.out | apply below_alloc | apply pw_below_drewN | apply below_drew1) | exact HB.out)) hb); clear HB; have HB := n0_; clear n0_; (try clear hb); (try clear hb2); (try clear hk); (try clear hi)) | ((with_reducible refine gate_dst (N := 5) rfl ?_); (try (refine gate_guard (by rfl) ?_; dsimp only)); refine box_event ?hg (N := 5) ?hd (cs := #[.string (⟨#[]⟩ : ByteArray), .string (⟨#[]⟩ : ByteArray), .string (⟨#[]⟩ : ByteArray), .int .i64 0, .int .i64 0]) (t := 24) ?hr ?_; (case hd => rfl); (case hg => rfl); (case hr => first | (go_simp; done) | (go_simp; rfl)); intro gb192 hg w40 hbox hb; have n0_ := Aside0.mk (below_step (by repeat (first | (with_reducible first | exact HB.out | apply below_alloc | apply pw_below_drewN | apply below_drew1) | exact HB.out)) hb); have n1_ := Aside0.mk (hbox); have n2_ := Aside0.mk ((by rw [hg]; exact (below_size (by repeat (first | (with_reducible first | exact HB.out | apply below_alloc | apply pw_below_drewN | apply below_drew1) | exact HB.out))) : w.heap.size ≤ gb192)); have n3_ := Aside0.mk ((by rw [hg]; exact (below_size (by repeat (first | (with_reducible first | exact HB.out | apply below_alloc | apply pw_below_drewN | apply below_drew1) | exact HB.out))) : w.heap.size ≤ gb192)); clear HB; have HB := n0_; have BK192 := n1_; have GW192 := n2_; have GE192 := n3_; clear n0_ n1_ n2_ n3_; clear hb hbox hg; have hcz41_0 : w40.cell? ⟨gb192, 0, none⟩ = some (.string (⟨#[]⟩ : ByteArray)) := (blk_cell BK192.out 0).trans rfl; have hcz41_1 : w40.cell? ⟨gb192, 1, none⟩ = some (.string (⟨#[]⟩ : ByteArray)) := (blk_cell BK192.out 1).trans rfl; have hcz41_2 : w40.cell? ⟨gb192, 2, none⟩ = some (.string (⟨#[]⟩ : ByteArray)) := (blk_cell BK192.out 2).trans rfl; have hcz41_3 : w40.cell? ⟨gb192, 3, none⟩ = some (.int .i64 0) := (blk_cell BK192.out 3).trans rfl; have hcz41_4 : w40.cell? ⟨gb192, 4, none⟩ = some (.int .i64 0) := (blk_cell BK192.out 4).trans rfl; have hfz41_0 := blk_frozen BK192.out 0; have hfz41_1 := blk_frozen BK192.out 1; have hfz41_2 := blk_frozen BK192.out 2; have hfz41_3 := blk_frozen BK192.out 3; have hfz41_4 := blk_frozen BK192.out 4) | ((with_reducible refine gate_callee (f := 7) rfl ?_); refine goesL_ (some 42) rfl rfl Tryd.func7 (by kernel_rfl) rfl #[.int .i64 a1, .string a0] rfl (by (try simp only [List.map_toArray, List.map_cons, List.map_nil]); first | done | rfl | (simp only [List.length_drop, List.length_take]; rfl)) ?_; (with_reducible refine (impl_ParseDirective.calls a1 a0 t193 t194 t195 t196 t197 t198 _ (HT.out.below (by repeat (first | (with_reducible first | exact HB.out | apply below_alloc | apply pw_below_drewN | apply below_drew1 | refine below_set ?_ GE192.out) | exact HB.out))) A17.out).mono ?_); rintro e w42 ⟨rfl, hb⟩; refine ⟨_, rfl, ?_⟩; have n0_ := Aside0.mk (blk_below (g := gb192) (o := .cells #[.string t186, .string t187, .string t188, .int .i64 t189, .int .i64 t190] 24 (0, 0)) (by (with_reducible repeat (first | refine blk_drewN ?_ _ | refine blk_drew ?_ | refine blk_alloc ?_ _)); refine blk_put (cs := #[.string t186, .string t187, .string t188, .int .i64 t189, .int .i64 0]) ?_ 4 _ rfl; (with_reducible repeat (first | refine blk_drewN ?_ _ | refine blk_drew ?_ | refine blk_alloc ?_ _)); refine blk_put (cs := #[.string t186, .string t187, .string t188, .int .i64 0, .int .i64 0]) ?_ 3 _ rfl; (with_reducible repeat (first | refine blk_drewN ?_ _ | refine blk_drew ?_ | refine blk_alloc ?_ _)); refine blk_put (cs := #[.string t186, .string t187, .string (⟨#[]⟩ : ByteArray), .int .i64 0, .int .i64 0]) ?_ 2 _ rfl; (with_reducible repeat (first | refine blk_drewN ?_ _ | refine blk_drew ?_ | refine blk_alloc ?_ _)); refine blk_put (cs := #[.string t186, .string (⟨#[]⟩ : ByteArray), .string (⟨#[]⟩ : ByteArray), .int .i64 0, .int .i64 0]) ?_ 1 _ rfl; (with_reducible repeat (first | refine blk_drewN ?_ _ | refine blk_drew ?_ | refine blk_alloc ?_ _)); refine blk_put (cs := #[.string (⟨#[]⟩ : ByteArray), .string (⟨#[]⟩ : ByteArray), .string (⟨#[]⟩ : ByteArray), .int .i64 0, .int .i64 0]) ?_ 0 _ rfl; (with_reducible repeat (first | refine blk_drewN ?_ _ | refine blk_drew ?_ | refine blk_alloc ?_ _)); exact BK192.out) hb); have n1_ := Aside0.mk (below_step (by repeat (first | (with_reducible first | exact HB.out | apply below_alloc | apply pw_below_drewN | apply below_drew1 | refine below_set ?_ GE192.out) | exact HB.out)) hb); clear BK192; clear HB; have BK192 := n0_; have HB := n1_; clear n0_ n1_; (try clear hb); (try clear hb2); (try clear hk); (try clear hi)) | ((with_reducible refine gate_dst (N := 7) rfl ?_); (try (refine gate_guard (by rfl) ?_; dsimp only)); refine box_event ?hg (N := 7) ?hd (cs := #[.string (⟨#[]⟩ : ByteArray), .string (⟨#[]⟩ : ByteArray), .string (⟨#[]⟩ : ByteArray), .int .i64 0, .int .i64 0]) (t := 24) ?hr ?_; (case hd => rfl); (case hg => rfl); (case hr => first | (go_simp; done) | (go_simp; rfl)); intro gb199 hg w43 hbox hb; have n0_ := Aside0.mk (blk_below (g := gb192) (o := .cells #[.string t186, .string t187, .string t188, .int .i64 t189, .int .i64 t190] 24 (0, 0)) (by (with_reducible repeat (first | refine blk_drewN ?_ _ | refine blk_drew ?_ | refine blk_alloc ?_ _)); exact BK192.out) hb); have n1_ := Aside0.mk (below_step (by repeat (first | (with_reducible first | exact HB.out | apply below_alloc | apply pw_below_drewN | apply below_drew1 | refine below_set ?_ GE192.out) | exact HB.out)) hb); have n2_ := Aside0.mk (hbox); have n3_ := Aside0.mk ((by rw [hg]; exact (below_size (by repeat (first | (with_reducible first | exact HB.out | apply below_alloc | apply pw_below_drewN | apply below_drew1 | refine below_set ?_ GE192.out) | exact HB.out))) : w.heap.size ≤ gb199)); have n4_ := Aside0.mk ((by rw [hg]; exact (below_size (by repeat (first | (with_reducible first | exact HB.out | apply below_alloc | apply pw_below_drewN | apply below_drew1 | refine below_set ?_ GE192.out) | exact HB.out))) : w.heap.size ≤ gb199)); have n5_ := Aside0.mk ((by rw [hg]; exact Nat.ne_of_lt (blk_lt (g := gb192) (o := .cells #[.string t186, .string t187, .string t188, .int .i64 t189, .int .i64 t190] 24 (0, 0)) (by (with_reducible repeat (first | refine blk_drewN ?_ _ | refine blk_drew ?_ | refine blk_alloc ?_ _)); exact BK192.out)) : gb192 ≠ gb199)); have n6_ := Aside0.mk ((by rw [hg]; exact Nat.ne_of_gt (blk_lt (g := gb192) (o := .cells #[.string t186, .string t187, .string t188, .int .i64 t189, .int .i64 t190] 24 (0, 0)) (by (with_reducible repeat (first | refine blk_drewN ?_ _ | refine blk_drew ?_ | refine blk_alloc ?_ _)); exact BK192.out)) : gb199 ≠ gb192)); clear BK192; clear HB; have BK192 := n0_; have HB := n1_; have BK199 := n2_; have GW199 := n3_; have GE199 := n4_; have NB192_199 := n5_; have NB199_192 := n6_; clear n0_ n1_ n2_ n3_ n4_ n5_ n6_; clear hb hbox hg; have hnb44 := NB199_192.out; have hnc44 := NB192_199.out; have hcz45_0 : w43.cell? ⟨gb199, 0, none⟩ = some (.string (⟨#[]⟩ : ByteArray)) := (blk_cell BK199.out 0).trans rfl; have hcz45_1 : w43.cell? ⟨gb199, 1, none⟩ = some (.string (⟨#[]⟩ : ByteArray)) := (blk_cell BK199.out 1).trans rfl; have hcz45_2 : w43.cell? ⟨gb199, 2, none⟩ = some (.string (⟨#[]⟩ : ByteArray)) := (blk_cell BK199.out 2).trans rfl; have hcz45_3 : w43.cell? ⟨gb199, 3, none⟩ = some (.int .i64 0) := (blk_cell BK199.out 3).trans rfl; have hcz45_4 : w43.cell? ⟨gb199, 4, none⟩ = some (.int .i64 0) := (blk_cell BK199.out 4).trans rfl; have hfz45_0 := blk_frozen BK199.out 0; have hfz45_1 := blk_frozen BK199.out 1; have hfz45_2 := blk_frozen BK199.out 2; have hfz45_3 := blk_frozen BK199.out 3; have hfz45_4 := blk_frozen BK199.out 4))
            go_ret
            exact ⟨by first | rfl | (simp [errW_none, errW_some] <;> rfl) | (simp [*, errW_none, errW_some] <;> rfl), by repeat (first | (with_reducible first | exact HB.out | apply below_alloc | apply pw_below_drewN | apply below_drew1 | refine below_set ?_ GE192.out | refine below_set ?_ GE199.out) | exact HB.out)⟩

/-- THE ONE PURE STATEMENT of laws_FnDirectiveText: yours. -/
def laws_FnDirectiveText.Pure : Prop := ∀ (a0 : ByteArray) (a1 : Int), a0.size ≤ 140737488351232 → (Lit.int .i64 a1).wf = true → ∃ k, laws_FnDirectiveText.f k a0 a1 = some true
theorem laws_FnDirectiveText.walk (P : laws_FnDirectiveText.Pure) (a0 : ByteArray) (a1 : Int) (w : World) (hT : Tabs w) (w0 : a0.size ≤ 140737488351232) (w1 : (Lit.int .i64 a1).wf = true) :
    Calls Tryd.prog 4 #[.string a0, .int .i64 a1] w fun e w' => e = .returned (.bool true) ∧ Below w.heap.size w w' := by
  obtain ⟨k, h⟩ := P a0 a1 w0 w1
  refine (laws_FnDirectiveText.calls k a0 a1 true w hT h).mono ?_
  rintro e w' ⟨rfl, hd⟩
  exact ⟨rfl, hd⟩

end Go.Proofs.YtcjiafjahfmdoaaDoor.A
