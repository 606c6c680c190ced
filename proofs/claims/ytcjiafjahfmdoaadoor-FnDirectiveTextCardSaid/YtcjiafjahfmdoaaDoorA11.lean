-- Written by a program of this session (gprint.py) out of the kit's print of the translation. Not trusted: Lean checks it.
import Derived.Test.YtcjiafjahfmdoaaDoorA0
import Derived.Test.YtcjiafjahfmdoaaDoorA1
import Derived.Test.YtcjiafjahfmdoaaDoorA3
import Derived.Test.YtcjiafjahfmdoaaDoorA7
import Derived.Test.YtcjiafjahfmdoaaDoorGDir
namespace Go.Proofs.YtcjiafjahfmdoaaDoor.A
open Go.RowKit Go.Proofs.YtcjiafjahfmdoaaDoorW.PrintWords Go.Proofs.YtcjiafjahfmdoaaDoorW.PrintLast Go.Proofs.YtcjiafjahfmdoaaDoorW.PrintMore
attribute [local go_sem] max2_int min2_int max_two min_two max_three min_three max_four min_four   -- for this text's walks alone
set_option linter.unusedVariables false
set_option linter.unusedSimpArgs false

attribute [local go_sem high] eqA24
/-! ### laws_FnDirective: function 3 -/
mutual
def laws_FnDirective.j0 : Nat → ByteArray → Int → Bool → Option (Bool)
  | 0, _, _, _ => none
  | k + 1, x0, x1, x27 => if x27 = true then (some true) else ((spec_Directive.f k x1 x0).bind fun bt149 => ((impl_ParseDirective.f x1 x0).bind fun bt156 => (if bt149.2.2.2.2.2 = true then (laws_FnDirective.j1 k bt149.2.2.2.2.2 bt156.2.2.2.2.2 (!bt156.2.2.2.2.2) bt149.1 bt149.2.1 bt149.2.2.1 bt149.2.2.2.1 bt149.2.2.2.2.1 bt156.1 bt156.2.1 bt156.2.2.1 bt156.2.2.2.1 bt156.2.2.2.2.1) else (laws_FnDirective.j1 k bt149.2.2.2.2.2 bt156.2.2.2.2.2 true bt149.1 bt149.2.1 bt149.2.2.1 bt149.2.2.2.1 bt149.2.2.2.2.1 bt156.1 bt156.2.1 bt156.2.2.1 bt156.2.2.2.1 bt156.2.2.2.2.1))))
def laws_FnDirective.j1 : Nat → Bool → Bool → Bool → ByteArray → ByteArray → ByteArray → Int → Int → ByteArray → ByteArray → ByteArray → Int → Int → Option (Bool)
  | 0, _, _, _, _, _, _, _, _, _, _, _, _, _ => none
  | k + 1, x6, x8, x45, x156000, x156001, x156002, x156003, x156004, x163000, x163001, x163002, x163003, x163004 => if x45 = true then (some (x6 == x8)) else (if x156002.toList = ([] : List UInt8) then (some (x163000.toList == x156000.toList && (x163001.toList == x156001.toList && (x163002.toList == x156002.toList && (x163003 == x156003))))) else (some (x163000.toList == x156000.toList && (x163001.toList == x156001.toList && (x163002.toList == x156002.toList && (x163003 == x156003 && (x163004 == x156004)))))))
end
def laws_FnDirective.f (k : Nat) (a0 : ByteArray) (a1 : Int) : Option (Bool) := if (a0.size : Int) > 2147483647 then (some true) else (if (a0.size : Int) > 1000 then (laws_FnDirective.j0 k a0 a1 true) else ((spec_IsLine.f k a0).bind fun t148 => (if t148 = true then (if a1 < 0 then (laws_FnDirective.j0 k a0 a1 true) else (laws_FnDirective.j0 k a0 a1 (decide (a1 > 1000000)))) else (laws_FnDirective.j0 k a0 a1 true))))
theorem laws_FnDirective.mono_l : ∀ k, (∀ y0 y1 y2, LeO (laws_FnDirective.j0 k y0 y1 y2) (laws_FnDirective.j0 (k + 1) y0 y1 y2)) ∧ (∀ y0 y1 y2 y3 y4 y5 y6 y7 y8 y9 y10 y11 y12, LeO (laws_FnDirective.j1 k y0 y1 y2 y3 y4 y5 y6 y7 y8 y9 y10 y11 y12) (laws_FnDirective.j1 (k + 1) y0 y1 y2 y3 y4 y5 y6 y7 y8 y9 y10 y11 y12))
  | 0 => ⟨fun _ _ _ r h => by simp [laws_FnDirective.j0] at h, fun _ _ _ _ _ _ _ _ _ _ _ _ _ r h => by simp [laws_FnDirective.j1] at h⟩
  | k + 1 => by
    obtain ⟨ih0, ih1⟩ := laws_FnDirective.mono_l k
    refine ⟨?_, ?_⟩
    · intro y0 y1 y2
      unfold laws_FnDirective.j0
      repeat' first
      | (with_reducible exact ih0 _ _ _)
      | (with_reducible exact ih1 _ _ _ _ _ _ _ _ _ _ _ _ _)
      | (with_reducible exact spec_Directive.mono _ _ _)
      | (with_reducible exact spec_IsLine.mono _ _)
      | (with_reducible exact LeO.refl _)
      | (with_reducible exact LeO.none _)
      | (with_reducible refine LeO.ite ?_ ?_)
      | (with_reducible refine LeO.bind ?_ (fun _ => ?_))
      | exact ih0 _ _ _
      | exact ih1 _ _ _ _ _ _ _ _ _ _ _ _ _
      | exact spec_Directive.mono _ _ _
      | exact spec_IsLine.mono _ _
      | exact LeO.none _
      | refine LeO.ite ?_ ?_
      | refine LeO.bind ?_ (fun _ => ?_)
    · intro y0 y1 y2 y3 y4 y5 y6 y7 y8 y9 y10 y11 y12
      unfold laws_FnDirective.j1
      repeat' first
      | (with_reducible exact ih0 _ _ _)
      | (with_reducible exact ih1 _ _ _ _ _ _ _ _ _ _ _ _ _)
      | (with_reducible exact spec_Directive.mono _ _ _)
      | (with_reducible exact spec_IsLine.mono _ _)
      | (with_reducible exact LeO.refl _)
      | (with_reducible exact LeO.none _)
      | (with_reducible refine LeO.ite ?_ ?_)
      | (with_reducible refine LeO.bind ?_ (fun _ => ?_))
      | exact ih0 _ _ _
      | exact ih1 _ _ _ _ _ _ _ _ _ _ _ _ _
      | exact spec_Directive.mono _ _ _
      | exact spec_IsLine.mono _ _
      | exact LeO.none _
      | refine LeO.ite ?_ ?_
      | refine LeO.bind ?_ (fun _ => ?_)
theorem laws_FnDirective.mono : ∀ a0 a1 k, LeO (laws_FnDirective.f k a0 a1) (laws_FnDirective.f (k + 1) a0 a1) := by
  intro a0 a1 k
  obtain ⟨ih0, ih1⟩ := laws_FnDirective.mono_l k
  unfold laws_FnDirective.f
  repeat' first
      | (with_reducible exact ih0 _ _ _)
      | (with_reducible exact ih1 _ _ _ _ _ _ _ _ _ _ _ _ _)
      | (with_reducible exact spec_Directive.mono _ _ _)
      | (with_reducible exact spec_IsLine.mono _ _)
      | (with_reducible exact LeO.refl _)
      | (with_reducible exact LeO.none _)
      | (with_reducible refine LeO.ite ?_ ?_)
      | (with_reducible refine LeO.bind ?_ (fun _ => ?_))
      | exact ih0 _ _ _
      | exact ih1 _ _ _ _ _ _ _ _ _ _ _ _ _
      | exact spec_Directive.mono _ _ _
      | exact spec_IsLine.mono _ _
      | exact LeO.none _
      | refine LeO.ite ?_ ?_
      | refine LeO.bind ?_ (fun _ => ?_)
set_option maxHeartbeats 8000000 in
set_option maxRecDepth 100000 in
theorem laws_FnDirective.calls (k : Nat) (a0 : ByteArray) (a1 : Int) (r : Bool) (w : World) (hT : Tabs w) (h : laws_FnDirective.f k a0 a1 = some r) :
    Calls Tryd.prog 3 #[.string a0, .int .i64 a1] w fun e w' => e = .returned (.bool r) ∧ Below w.heap.size w w' := by
  have hu24 := Tryd.underlying24
  have HT := Aside0.mk hT
  clear hT
  have HB := Aside0.mk (Below.refl w.heap.size w)
  have H : (if (a0.size : Int) > 2147483647 then (some true) else (if (a0.size : Int) > 1000 then (laws_FnDirective.j0 k a0 a1 true) else ((spec_IsLine.f k a0).bind fun t148 => (if t148 = true then (if a1 < 0 then (laws_FnDirective.j0 k a0 a1 true) else (laws_FnDirective.j0 k a0 a1 (decide (a1 > 1000000)))) else (laws_FnDirective.j0 k a0 a1 true))))) = some r := h
  clear h
  by_cases c3 : (a0.size : Int) > 2147483647
  · rw [if_pos c3] at H
    have c3b0 : decide (2147483647 < (a0.size : Int)) = true := decide_eq_true c3
    have c3b1 : decide (2147483647 < a0.size) = true := decide_eq_true (by omega)
    clear c3
    obtain rfl := Option.some.inj H
    go_enter Tryd.func3, Tryd.ntmps3
    go_wp2
    go_ret
    exact ⟨by first | rfl | (simp [errW_none, errW_some] <;> rfl) | (simp [*, errW_none, errW_some] <;> rfl), by repeat (first | (with_reducible first | exact HB.out | apply below_alloc | apply pw_below_drewN | apply below_drew1) | exact HB.out)⟩
  · rw [if_neg c3] at H
    have c3b0 : decide (2147483647 < (a0.size : Int)) = false := decide_eq_false c3
    have c3b1 : decide (2147483647 < a0.size) = false := decide_eq_false (by omega)
    clear c3
    have HC4 := Aside0.mk H
    clear H
    go_enter Tryd.func3, Tryd.ntmps3
    go_upto_region 3 with (fail)
    go_cut [27] (fun v27 wc => ∃ (kq : Nat) (x27_3 : Bool), v27 = .bool x27_3 ∧ Aside0 (laws_FnDirective.j0 kq a0 a1 x27_3 = some r) ∧ Aside0 (kq ≤ k) ∧ Aside0 (Below w.heap.size w wc))
    case first =>
      have H := HC4.out
      clear HC4
      by_cases c5 : (a0.size : Int) > 1000
      · rw [if_pos c5] at H
        have c5b0 : decide (1000 < (a0.size : Int)) = true := decide_eq_true c5
        have c5b1 : decide (1000 < a0.size) = true := decide_eq_true (by omega)
        clear c5
        (first | rw [c5b0] | (simp only [i64_w, i32_w]; rw [c5b0]) | skip)
        have H' := Aside0.mk H
        clear H
        go_wp2
        go_meet
        case rel => exact ⟨_, (true), (by first | rfl | (simp; done) | (simp [*]; done)), H', ⟨by first | omega | exact Nat.le_refl _⟩, ⟨by repeat (first | (with_reducible first | exact HB.out | apply below_alloc | apply pw_below_drewN | apply below_drew1) | exact HB.out)⟩⟩
      · rw [if_neg c5] at H
        have c5b0 : decide (1000 < (a0.size : Int)) = false := decide_eq_false c5
        have c5b1 : decide (1000 < a0.size) = false := decide_eq_false (by omega)
        clear c5
        (first | rw [c5b0] | (simp only [i64_w, i32_w]; rw [c5b0]) | skip)
        replace H := Option.bind_eq_some_iff.mp H
        obtain ⟨t148, A60, H⟩ := H
        replace H : (if t148 = true then (if a1 < 0 then (laws_FnDirective.j0 k a0 a1 true) else (laws_FnDirective.j0 k a0 a1 (decide (a1 > 1000000)))) else (laws_FnDirective.j0 k a0 a1 true)) = some r := H
        have A6 := Aside0.mk A60
        clear A60
        by_cases c7 : t148 = true
        · subst c7
          have H1 : (if a1 < 0 then (laws_FnDirective.j0 k a0 a1 true) else (laws_FnDirective.j0 k a0 a1 (decide (a1 > 1000000)))) = some r := by rw [if_pos rfl] at H; exact H
          clear H
          have H := H1
          clear H1
          by_cases c8 : a1 < 0
          · rw [if_pos c8] at H
            have c8b0 : decide (a1 < 0) = true := decide_eq_true c8
            clear c8
            have H' := Aside0.mk H
            clear H
            go_wp2_with (first | (go_at_call 5; (with_reducible refine (spec_IsLine.calls k a0 true _ A6.out).mono ?_); rintro e w' ⟨rfl, ⟨nd, rfl⟩⟩))
            go_meet
            case rel => exact ⟨_, (true), (by first | rfl | (simp; done) | (simp [*]; done)), H', ⟨by first | omega | exact Nat.le_refl _⟩, ⟨by repeat (first | (with_reducible first | exact HB.out | apply below_alloc | apply pw_below_drewN | apply below_drew1) | exact HB.out)⟩⟩
          · rw [if_neg c8] at H
            have c8b0 : decide (a1 < 0) = false := decide_eq_false c8
            clear c8
            have H' := Aside0.mk H
            clear H
            go_wp2_with (first | (go_at_call 5; (with_reducible refine (spec_IsLine.calls k a0 true _ A6.out).mono ?_); rintro e w' ⟨rfl, ⟨nd, rfl⟩⟩))
            go_meet
            case rel => exact ⟨_, (decide (a1 > 1000000)), (by first | rfl | (simp; done) | (simp [*]; done)), H', ⟨by first | omega | exact Nat.le_refl _⟩, ⟨by repeat (first | (with_reducible first | exact HB.out | apply below_alloc | apply pw_below_drewN | apply below_drew1) | exact HB.out)⟩⟩
        · replace c7 := Bool.eq_false_iff.mpr c7
          subst c7
          have H1 : (laws_FnDirective.j0 k a0 a1 true) = some r := by rw [if_neg (show ¬ (false = true) by decide)] at H; exact H
          clear H
          have H := H1
          clear H1
          have H' := Aside0.mk H
          clear H
          go_wp2_with (first | (go_at_call 5; (with_reducible refine (spec_IsLine.calls k a0 false _ A6.out).mono ?_); rintro e w' ⟨rfl, ⟨nd, rfl⟩⟩))
          go_meet
          case rel => exact ⟨_, (true), (by first | rfl | (simp; done) | (simp [*]; done)), H', ⟨by first | omega | exact Nat.le_refl _⟩, ⟨by repeat (first | (with_reducible first | exact HB.out | apply below_alloc | apply pw_below_drewN | apply below_drew1) | exact HB.out)⟩⟩
    case rest =>
      clear HC4
      try clear p2
      try clear c3
      try clear c3b0
      try clear c3b1
      try clear c5
      try clear c5b0
      try clear c5b1
      try clear c7
      try clear c8
      try clear c8b0
      obtain ⟨kq, x27_3, rfl, HA, HJ3, HB⟩ := hcut
      cases kq with
      | zero => exact absurd HA.out (by simp [laws_FnDirective.j0])
      | succ kj3 =>
        have H := HA.out
        clear HA
        simp only [laws_FnDirective.j0] at H
        by_cases c9 : x27_3 = true
        · subst c9
          have H1 : (some true) = some r := by rw [if_pos rfl] at H; exact H
          clear H
          have H := H1
          clear H1
          obtain rfl := Option.some.inj H
          go_wp2
          go_ret
          exact ⟨by first | rfl | (simp [errW_none, errW_some] <;> rfl) | (simp [*, errW_none, errW_some] <;> rfl), by repeat (first | (with_reducible first | exact HB.out | apply below_alloc | apply pw_below_drewN | apply below_drew1) | exact HB.out)⟩
        · replace c9 := Bool.eq_false_iff.mpr c9
          subst c9
          have H1 : ((spec_Directive.f kj3 a1 a0).bind fun bt149 => ((impl_ParseDirective.f a1 a0).bind fun bt156 => (if bt149.2.2.2.2.2 = true then (laws_FnDirective.j1 kj3 bt149.2.2.2.2.2 bt156.2.2.2.2.2 (!bt156.2.2.2.2.2) bt149.1 bt149.2.1 bt149.2.2.1 bt149.2.2.2.1 bt149.2.2.2.2.1 bt156.1 bt156.2.1 bt156.2.2.1 bt156.2.2.2.1 bt156.2.2.2.2.1) else (laws_FnDirective.j1 kj3 bt149.2.2.2.2.2 bt156.2.2.2.2.2 true bt149.1 bt149.2.1 bt149.2.2.1 bt149.2.2.2.1 bt149.2.2.2.2.1 bt156.1 bt156.2.1 bt156.2.2.1 bt156.2.2.2.1 bt156.2.2.2.2.1)))) = some r := by rw [if_neg (show ¬ (false = true) by decide)] at H; exact H
          clear H
          have H := H1
          clear H1
          replace H := Option.bind_eq_some_iff.mp H
          obtain ⟨⟨t149, t150, t151, t152, t153, t154⟩, A100, H⟩ := H
          replace H : ((impl_ParseDirective.f a1 a0).bind fun bt156 => (if t154 = true then (laws_FnDirective.j1 kj3 t154 bt156.2.2.2.2.2 (!bt156.2.2.2.2.2) t149 t150 t151 t152 t153 bt156.1 bt156.2.1 bt156.2.2.1 bt156.2.2.2.1 bt156.2.2.2.2.1) else (laws_FnDirective.j1 kj3 t154 bt156.2.2.2.2.2 true t149 t150 t151 t152 t153 bt156.1 bt156.2.1 bt156.2.2.1 bt156.2.2.2.1 bt156.2.2.2.2.1))) = some r := H
          have A10 := Aside0.mk A100
          clear A100
          replace H := Option.bind_eq_some_iff.mp H
          obtain ⟨⟨t156, t157, t158, t159, t160, t161⟩, A110, H⟩ := H
          replace H : (if t154 = true then (laws_FnDirective.j1 kj3 t154 t161 (!t161) t149 t150 t151 t152 t153 t156 t157 t158 t159 t160) else (laws_FnDirective.j1 kj3 t154 t161 true t149 t150 t151 t152 t153 t156 t157 t158 t159 t160)) = some r := H
          have A11 := Aside0.mk A110
          clear A110
          have HC12 := Aside0.mk H
          clear H
          go_upto_region 7 with (first | ((with_reducible refine gate_callee (f := 6) rfl ?_); refine goesL_ (some 31) rfl rfl Tryd.func6 (by kernel_rfl) rfl #[.int .i64 a1, .string a0] rfl (by (try simp only [List.map_toArray, List.map_cons, List.map_nil]); first | done | rfl | (simp only [List.length_drop, List.length_take]; rfl)) ?_; (with_reducible refine (spec_Directive.calls kj3 a1 a0 t149 t150 t151 t152 t153 t154 _ A10.out).mono ?_); rintro e w13 ⟨rfl, hb⟩; refine ⟨_, rfl, ?_⟩; have n0_ := Aside0.mk (below_step (by repeat (first | (with_reducible first | exact HB.out | apply below_alloc | apply pw_below_drewN | apply below_drew1) | exact HB.out)) hb); clear HB; have HB := n0_; clear n0_; (try clear hb); (try clear hb2); (try clear hk); (try clear hi)) | ((with_reducible refine gate_dst (N := 5) rfl ?_); refine box_event ?hg (N := 5) ?hd (cs := #[.string (⟨#[]⟩ : ByteArray), .string (⟨#[]⟩ : ByteArray), .string (⟨#[]⟩ : ByteArray), .int .i64 0, .int .i64 0]) (t := 24) ?hr ?_; (case hd => rfl); (case hg => rfl); (case hr => first | (go_simp; done) | (go_simp; rfl)); intro gb155 hg w14 hbox hb; have n0_ := Aside0.mk (below_step (by repeat (first | (with_reducible first | exact HB.out | apply below_alloc | apply pw_below_drewN | apply below_drew1) | exact HB.out)) hb); have n1_ := Aside0.mk (hbox); have n2_ := Aside0.mk ((by rw [hg]; exact (below_size (by repeat (first | (with_reducible first | exact HB.out | apply below_alloc | apply pw_below_drewN | apply below_drew1) | exact HB.out))) : w.heap.size ≤ gb155)); have n3_ := Aside0.mk ((by rw [hg]; exact (below_size (by repeat (first | (with_reducible first | exact HB.out | apply below_alloc | apply pw_below_drewN | apply below_drew1) | exact HB.out))) : w.heap.size ≤ gb155)); clear HB; have HB := n0_; have BK155 := n1_; have GW155 := n2_; have GE155 := n3_; clear n0_ n1_ n2_ n3_; clear hb hbox hg; have hcz15_0 : w14.cell? ⟨gb155, 0, none⟩ = some (.string (⟨#[]⟩ : ByteArray)) := (blk_cell BK155.out 0).trans rfl; have hcz15_1 : w14.cell? ⟨gb155, 1, none⟩ = some (.string (⟨#[]⟩ : ByteArray)) := (blk_cell BK155.out 1).trans rfl; have hcz15_2 : w14.cell? ⟨gb155, 2, none⟩ = some (.string (⟨#[]⟩ : ByteArray)) := (blk_cell BK155.out 2).trans rfl; have hcz15_3 : w14.cell? ⟨gb155, 3, none⟩ = some (.int .i64 0) := (blk_cell BK155.out 3).trans rfl; have hcz15_4 : w14.cell? ⟨gb155, 4, none⟩ = some (.int .i64 0) := (blk_cell BK155.out 4).trans rfl; have hfz15_0 := blk_frozen BK155.out 0; have hfz15_1 := blk_frozen BK155.out 1; have hfz15_2 := blk_frozen BK155.out 2; have hfz15_3 := blk_frozen BK155.out 3; have hfz15_4 := blk_frozen BK155.out 4) | ((with_reducible refine gate_callee (f := 7) rfl ?_); refine goesL_ (some 37) rfl rfl Tryd.func7 (by kernel_rfl) rfl #[.int .i64 a1, .string a0] rfl (by (try simp only [List.map_toArray, List.map_cons, List.map_nil]); first | done | rfl | (simp only [List.length_drop, List.length_take]; rfl)) ?_; (with_reducible refine (impl_ParseDirective.calls a1 a0 t156 t157 t158 t159 t160 t161 _ (HT.out.below (by repeat (first | (with_reducible first | exact HB.out | apply below_alloc | apply pw_below_drewN | apply below_drew1 | refine below_set ?_ GE155.out) | exact HB.out))) A11.out).mono ?_); rintro e w16 ⟨rfl, hb⟩; refine ⟨_, rfl, ?_⟩; have n0_ := Aside0.mk (blk_below (g := gb155) (o := .cells #[.string t149, .string t150, .string t151, .int .i64 t152, .int .i64 t153] 24 (0, 0)) (by (with_reducible repeat (first | refine blk_drewN ?_ _ | refine blk_drew ?_ | refine blk_alloc ?_ _)); refine blk_put (cs := #[.string t149, .string t150, .string t151, .int .i64 t152, .int .i64 0]) ?_ 4 _ rfl; (with_reducible repeat (first | refine blk_drewN ?_ _ | refine blk_drew ?_ | refine blk_alloc ?_ _)); refine blk_put (cs := #[.string t149, .string t150, .string t151, .int .i64 0, .int .i64 0]) ?_ 3 _ rfl; (with_reducible repeat (first | refine blk_drewN ?_ _ | refine blk_drew ?_ | refine blk_alloc ?_ _)); refine blk_put (cs := #[.string t149, .string t150, .string (⟨#[]⟩ : ByteArray), .int .i64 0, .int .i64 0]) ?_ 2 _ rfl; (with_reducible repeat (first | refine blk_drewN ?_ _ | refine blk_drew ?_ | refine blk_alloc ?_ _)); refine blk_put (cs := #[.string t149, .string (⟨#[]⟩ : ByteArray), .string (⟨#[]⟩ : ByteArray), .int .i64 0, .int .i64 0]) ?_ 1 _ rfl; (with_reducible repeat (first | refine blk_drewN ?_ _ | refine blk_drew ?_ | refine blk_alloc ?_ _)); refine blk_put (cs := #[.string (⟨#[]⟩ : ByteArray), .string (⟨#[]⟩ : ByteArray), .string (⟨#[]⟩ : ByteArray), .int .i64 0, .int .i64 0]) ?_ 0 _ rfl; (with_reducible repeat (first | refine blk_drewN ?_ _ | refine blk_drew ?_ | refine blk_alloc ?_ _)); exact BK155.out) hb); have n1_ := Aside0.mk (below_step (by repeat (first | (with_reducible first | exact HB.out | apply below_alloc | apply pw_below_drewN | apply below_drew1 | refine below_set ?_ GE155.out) | exact HB.out)) hb); clear BK155; clear HB; have BK155 := n0_; have HB := n1_; clear n0_ n1_; (try clear hb); (try clear hb2); (try clear hk); (try clear hi)) | ((with_reducible refine gate_dst (N := 7) rfl ?_); refine box_event ?hg (N := 7) ?hd (cs := #[.string (⟨#[]⟩ : ByteArray), .string (⟨#[]⟩ : ByteArray), .string (⟨#[]⟩ : ByteArray), .int .i64 0, .int .i64 0]) (t := 24) ?hr ?_; (case hd => rfl); (case hg => rfl); (case hr => first | (go_simp; done) | (go_simp; rfl)); intro gb162 hg w17 hbox hb; have n0_ := Aside0.mk (blk_below (g := gb155) (o := .cells #[.string t149, .string t150, .string t151, .int .i64 t152, .int .i64 t153] 24 (0, 0)) (by (with_reducible repeat (first | refine blk_drewN ?_ _ | refine blk_drew ?_ | refine blk_alloc ?_ _)); exact BK155.out) hb); have n1_ := Aside0.mk (below_step (by repeat (first | (with_reducible first | exact HB.out | apply below_alloc | apply pw_below_drewN | apply below_drew1 | refine below_set ?_ GE155.out) | exact HB.out)) hb); have n2_ := Aside0.mk (hbox); have n3_ := Aside0.mk ((by rw [hg]; exact (below_size (by repeat (first | (with_reducible first | exact HB.out | apply below_alloc | apply pw_below_drewN | apply below_drew1 | refine below_set ?_ GE155.out) | exact HB.out))) : w.heap.size ≤ gb162)); have n4_ := Aside0.mk ((by rw [hg]; exact (below_size (by repeat (first | (with_reducible first | exact HB.out | apply below_alloc | apply pw_below_drewN | apply below_drew1 | refine below_set ?_ GE155.out) | exact HB.out))) : w.heap.size ≤ gb162)); have n5_ := Aside0.mk ((by rw [hg]; exact Nat.ne_of_lt (blk_lt (g := gb155) (o := .cells #[.string t149, .string t150, .string t151, .int .i64 t152, .int .i64 t153] 24 (0, 0)) (by (with_reducible repeat (first | refine blk_drewN ?_ _ | refine blk_drew ?_ | refine blk_alloc ?_ _)); exact BK155.out)) : gb155 ≠ gb162)); have n6_ := Aside0.mk ((by rw [hg]; exact Nat.ne_of_gt (blk_lt (g := gb155) (o := .cells #[.string t149, .string t150, .string t151, .int .i64 t152, .int .i64 t153] 24 (0, 0)) (by (with_reducible repeat (first | refine blk_drewN ?_ _ | refine blk_drew ?_ | refine blk_alloc ?_ _)); exact BK155.out)) : gb162 ≠ gb155)); clear BK155; clear HB; have BK155 := n0_; have HB := n1_; have BK162 := n2_; have GW162 := n3_; have GE162 := n4_; have NB155_162 := n5_; have NB162_155 := n6_; clear n0_ n1_ n2_ n3_ n4_ n5_ n6_; clear hb hbox hg; have hnb18 := NB162_155.out; have hnc18 := NB155_162.out; have hcz19_0 : w17.cell? ⟨gb162, 0, none⟩ = some (.string (⟨#[]⟩ : ByteArray)) := (blk_cell BK162.out 0).trans rfl; have hcz19_1 : w17.cell? ⟨gb162, 1, none⟩ = some (.string (⟨#[]⟩ : ByteArray)) := (blk_cell BK162.out 1).trans rfl; have hcz19_2 : w17.cell? ⟨gb162, 2, none⟩ = some (.string (⟨#[]⟩ : ByteArray)) := (blk_cell BK162.out 2).trans rfl; have hcz19_3 : w17.cell? ⟨gb162, 3, none⟩ = some (.int .i64 0) := (blk_cell BK162.out 3).trans rfl; have hcz19_4 : w17.cell? ⟨gb162, 4, none⟩ = some (.int .i64 0) := (blk_cell BK162.out 4).trans rfl; have hfz19_0 := blk_frozen BK162.out 0; have hfz19_1 := blk_frozen BK162.out 1; have hfz19_2 := blk_frozen BK162.out 2; have hfz19_3 := blk_frozen BK162.out 3; have hfz19_4 := blk_frozen BK162.out 4))
          (try simp only [Act.put, List.setIfInBounds_toArray, List.set_cons_zero, List.set_cons_succ])
          go_cut [45] (fun v45 wc => ∃ (kq : Nat) (x45_11 : Bool), v45 = .bool x45_11 ∧ Aside0 (laws_FnDirective.j1 kq t154 t161 x45_11 t149 t150 t151 t152 t153 t156 t157 t158 t159 t160 = some r) ∧ Aside0 (kq ≤ kj3) ∧ Aside0 (wc.heap[gb155]? = some (.cells #[.string t149, .string t150, .string t151, .int .i64 t152, .int .i64 t153] 24 (0, 0))) ∧ Aside0 (wc.heap[gb162]? = some (.cells #[.string t156, .string t157, .string t158, .int .i64 t159, .int .i64 t160] 24 (0, 0))) ∧ Aside0 (Below w.heap.size w wc))
          case first =>
            have H := HC12.out
            clear HC12
            by_cases c20 : t154 = true
            · subst c20
              have H1 : (laws_FnDirective.j1 kj3 true t161 (!t161) t149 t150 t151 t152 t153 t156 t157 t158 t159 t160) = some r := by rw [if_pos rfl] at H; exact H
              clear H
              have H := H1
              clear H1
              have H' := Aside0.mk H
              clear H
              go_wp2
              go_meet
              case rel => exact ⟨_, (!t161), (by first | rfl | (simp; done) | (simp [*]; done)), H', ⟨by have := HJ3.out; first | omega | exact Nat.le_refl _⟩, ⟨by (with_reducible repeat (first | refine blk_drewN ?_ _ | refine blk_drew ?_ | refine blk_alloc ?_ _)); refine blk_far ?_ NB155_162.out _; (with_reducible repeat (first | refine blk_drewN ?_ _ | refine blk_drew ?_ | refine blk_alloc ?_ _)); refine blk_far ?_ NB155_162.out _; (with_reducible repeat (first | refine blk_drewN ?_ _ | refine blk_drew ?_ | refine blk_alloc ?_ _)); refine blk_far ?_ NB155_162.out _; (with_reducible repeat (first | refine blk_drewN ?_ _ | refine blk_drew ?_ | refine blk_alloc ?_ _)); refine blk_far ?_ NB155_162.out _; (with_reducible repeat (first | refine blk_drewN ?_ _ | refine blk_drew ?_ | refine blk_alloc ?_ _)); refine blk_far ?_ NB155_162.out _; (with_reducible repeat (first | refine blk_drewN ?_ _ | refine blk_drew ?_ | refine blk_alloc ?_ _)); exact BK155.out⟩, ⟨by (with_reducible repeat (first | refine blk_drewN ?_ _ | refine blk_drew ?_ | refine blk_alloc ?_ _)); refine blk_put (cs := #[.string t156, .string t157, .string t158, .int .i64 t159, .int .i64 0]) ?_ 4 _ rfl; (with_reducible repeat (first | refine blk_drewN ?_ _ | refine blk_drew ?_ | refine blk_alloc ?_ _)); refine blk_put (cs := #[.string t156, .string t157, .string t158, .int .i64 0, .int .i64 0]) ?_ 3 _ rfl; (with_reducible repeat (first | refine blk_drewN ?_ _ | refine blk_drew ?_ | refine blk_alloc ?_ _)); refine blk_put (cs := #[.string t156, .string t157, .string (⟨#[]⟩ : ByteArray), .int .i64 0, .int .i64 0]) ?_ 2 _ rfl; (with_reducible repeat (first | refine blk_drewN ?_ _ | refine blk_drew ?_ | refine blk_alloc ?_ _)); refine blk_put (cs := #[.string t156, .string (⟨#[]⟩ : ByteArray), .string (⟨#[]⟩ : ByteArray), .int .i64 0, .int .i64 0]) ?_ 1 _ rfl; (with_reducible repeat (first | refine blk_drewN ?_ _ | refine blk_drew ?_ | refine blk_alloc ?_ _)); refine blk_put (cs := #[.string (⟨#[]⟩ : ByteArray), .string (⟨#[]⟩ : ByteArray), .string (⟨#[]⟩ : ByteArray), .int .i64 0, .int .i64 0]) ?_ 0 _ rfl; (with_reducible repeat (first | refine blk_drewN ?_ _ | refine blk_drew ?_ | refine blk_alloc ?_ _)); exact BK162.out⟩, ⟨by repeat (first | (with_reducible first | exact HB.out | apply below_alloc | apply pw_below_drewN | apply below_drew1 | refine below_set ?_ GE155.out | refine below_set ?_ GE162.out) | exact HB.out)⟩⟩
            · replace c20 := Bool.eq_false_iff.mpr c20
              subst c20
              have H1 : (laws_FnDirective.j1 kj3 false t161 true t149 t150 t151 t152 t153 t156 t157 t158 t159 t160) = some r := by rw [if_neg (show ¬ (false = true) by decide)] at H; exact H
              clear H
              have H := H1
              clear H1
              have H' := Aside0.mk H
              clear H
              go_wp2
              go_meet
              case rel => exact ⟨_, (true), (by first | rfl | (simp; done) | (simp [*]; done)), H', ⟨by have := HJ3.out; first | omega | exact Nat.le_refl _⟩, ⟨by (with_reducible repeat (first | refine blk_drewN ?_ _ | refine blk_drew ?_ | refine blk_alloc ?_ _)); refine blk_far ?_ NB155_162.out _; (with_reducible repeat (first | refine blk_drewN ?_ _ | refine blk_drew ?_ | refine blk_alloc ?_ _)); refine blk_far ?_ NB155_162.out _; (with_reducible repeat (first | refine blk_drewN ?_ _ | refine blk_drew ?_ | refine blk_alloc ?_ _)); refine blk_far ?_ NB155_162.out _; (with_reducible repeat (first | refine blk_drewN ?_ _ | refine blk_drew ?_ | refine blk_alloc ?_ _)); refine blk_far ?_ NB155_162.out _; (with_reducible repeat (first | refine blk_drewN ?_ _ | refine blk_drew ?_ | refine blk_alloc ?_ _)); refine blk_far ?_ NB155_162.out _; (with_reducible repeat (first | refine blk_drewN ?_ _ | refine blk_drew ?_ | refine blk_alloc ?_ _)); exact BK155.out⟩, ⟨by (with_reducible repeat (first | refine blk_drewN ?_ _ | refine blk_drew ?_ | refine blk_alloc ?_ _)); refine blk_put (cs := #[.string t156, .string t157, .string t158, .int .i64 t159, .int .i64 0]) ?_ 4 _ rfl; (with_reducible repeat (first | refine blk_drewN ?_ _ | refine blk_drew ?_ | refine blk_alloc ?_ _)); refine blk_put (cs := #[.string t156, .string t157, .string t158, .int .i64 0, .int .i64 0]) ?_ 3 _ rfl; (with_reducible repeat (first | refine blk_drewN ?_ _ | refine blk_drew ?_ | refine blk_alloc ?_ _)); refine blk_put (cs := #[.string t156, .string t157, .string (⟨#[]⟩ : ByteArray), .int .i64 0, .int .i64 0]) ?_ 2 _ rfl; (with_reducible repeat (first | refine blk_drewN ?_ _ | refine blk_drew ?_ | refine blk_alloc ?_ _)); refine blk_put (cs := #[.string t156, .string (⟨#[]⟩ : ByteArray), .string (⟨#[]⟩ : ByteArray), .int .i64 0, .int .i64 0]) ?_ 1 _ rfl; (with_reducible repeat (first | refine blk_drewN ?_ _ | refine blk_drew ?_ | refine blk_alloc ?_ _)); refine blk_put (cs := #[.string (⟨#[]⟩ : ByteArray), .string (⟨#[]⟩ : ByteArray), .string (⟨#[]⟩ : ByteArray), .int .i64 0, .int .i64 0]) ?_ 0 _ rfl; (with_reducible repeat (first | refine blk_drewN ?_ _ | refine blk_drew ?_ | refine blk_alloc ?_ _)); exact BK162.out⟩, ⟨by repeat (first | (with_reducible first | exact HB.out | apply below_alloc | apply pw_below_drewN | apply below_drew1 | refine below_set ?_ GE155.out | refine below_set ?_ GE162.out) | exact HB.out)⟩⟩
          case rest =>
            clear HC12
            try clear c1
            try clear c2
            try clear p2
            try clear c3
            try clear c3b0
            try clear c3b1
            try clear c5
            try clear c5b0
            try clear c5b1
            try clear c6
            try clear c7
            try clear c8
            try clear c8b0
            try clear c9
            try clear c18
            try clear c20
            try clear hcz15_0
            try clear hcz15_1
            try clear hcz15_2
            try clear hcz15_3
            try clear hcz15_4
            try clear hcz19_0
            try clear hcz19_1
            try clear hcz19_2
            try clear hcz19_3
            try clear hcz19_4
            try clear hfz15_0
            try clear hfz15_1
            try clear hfz15_2
            try clear hfz15_3
            try clear hfz15_4
            try clear hfz19_0
            try clear hfz19_1
            try clear hfz19_2
            try clear hfz19_3
            try clear hfz19_4
            try clear p2
            obtain ⟨kq, x45_11, rfl, HA, HJ11, BK155, BK162, HB⟩ := hcut
            cases kq with
            | zero => exact absurd HA.out (by simp [laws_FnDirective.j1])
            | succ kj11 =>
              have H := HA.out
              clear HA
              simp only [laws_FnDirective.j1] at H
              by_cases c21 : x45_11 = true
              · subst c21
                have H1 : (some (t154 == t161)) = some r := by rw [if_pos rfl] at H; exact H
                clear H
                have H := H1
                clear H1
                obtain rfl := Option.some.inj H
                go_wp2
                go_ret
                exact ⟨by first | rfl | (simp [errW_none, errW_some] <;> rfl) | (simp [*, errW_none, errW_some] <;> rfl), by repeat (first | (with_reducible first | exact HB.out | apply below_alloc | apply pw_below_drewN | apply below_drew1 | refine below_set ?_ GE155.out | refine below_set ?_ GE162.out) | exact HB.out)⟩
              · replace c21 := Bool.eq_false_iff.mpr c21
                subst c21
                have H1 : (if t151.toList = ([] : List UInt8) then (some (t156.toList == t149.toList && (t157.toList == t150.toList && (t158.toList == t151.toList && (t159 == t152))))) else (some (t156.toList == t149.toList && (t157.toList == t150.toList && (t158.toList == t151.toList && (t159 == t152 && (t160 == t153))))))) = some r := by rw [if_neg (show ¬ (false = true) by decide)] at H; exact H
                clear H
                have H := H1
                clear H1
                by_cases c22 : t151.toList = ([] : List UInt8)
                · rw [if_pos c22] at H
                  have c22b0 : (t151.toList == ([] : List UInt8)) = true := beq_iff_eq.mpr c22
                  have c22b1 : (t151.toList != ([] : List UInt8)) = false := bne_eq_false_iff_eq.mpr c22
                  clear c22
                  obtain rfl := Option.some.inj H
                  have hnb23 := NB155_162.out
                  have hnc23 := NB162_155.out
                  have hcz24_0 : wc.cell? ⟨gb155, 0, none⟩ = some (.string t149) := (blk_cell BK155.out 0).trans rfl
                  have hcz24_1 : wc.cell? ⟨gb155, 1, none⟩ = some (.string t150) := (blk_cell BK155.out 1).trans rfl
                  have hcz24_2 : wc.cell? ⟨gb155, 2, none⟩ = some (.string t151) := (blk_cell BK155.out 2).trans rfl
                  have hcz24_3 : wc.cell? ⟨gb155, 3, none⟩ = some (.int .i64 t152) := (blk_cell BK155.out 3).trans rfl
                  have hcz24_4 : wc.cell? ⟨gb155, 4, none⟩ = some (.int .i64 t153) := (blk_cell BK155.out 4).trans rfl
                  have hfz24_0 := blk_frozen BK155.out 0
                  have hfz24_1 := blk_frozen BK155.out 1
                  have hfz24_2 := blk_frozen BK155.out 2
                  have hfz24_3 := blk_frozen BK155.out 3
                  have hfz24_4 := blk_frozen BK155.out 4
                  have hcz25_0 : wc.cell? ⟨gb162, 0, none⟩ = some (.string t156) := (blk_cell BK162.out 0).trans rfl
                  have hcz25_1 : wc.cell? ⟨gb162, 1, none⟩ = some (.string t157) := (blk_cell BK162.out 1).trans rfl
                  have hcz25_2 : wc.cell? ⟨gb162, 2, none⟩ = some (.string t158) := (blk_cell BK162.out 2).trans rfl
                  have hcz25_3 : wc.cell? ⟨gb162, 3, none⟩ = some (.int .i64 t159) := (blk_cell BK162.out 3).trans rfl
                  have hcz25_4 : wc.cell? ⟨gb162, 4, none⟩ = some (.int .i64 t160) := (blk_cell BK162.out 4).trans rfl
                  have hfz25_0 := blk_frozen BK162.out 0
                  have hfz25_1 := blk_frozen BK162.out 1
                  have hfz25_2 := blk_frozen BK162.out 2
                  have hfz25_3 := blk_frozen BK162.out 3
                  have hfz25_4 := blk_frozen BK162.out 4
                  go_wp2
                  go_ret
                  exact ⟨by first | rfl | (simp [errW_none, errW_some] <;> rfl) | (simp [*, errW_none, errW_some] <;> rfl), by repeat (first | (with_reducible first | exact HB.out | apply below_alloc | apply pw_below_drewN | apply below_drew1 | refine below_set ?_ GE155.out | refine below_set ?_ GE162.out) | exact HB.out)⟩
                · rw [if_neg c22] at H
                  have c22b0 : (t151.toList == ([] : List UInt8)) = false := beq_eq_false_iff_ne.mpr c22
                  have c22b1 : (t151.toList != ([] : List UInt8)) = true := bne_iff_ne.mpr c22
                  obtain rfl := Option.some.inj H
                  have hnb26 := NB155_162.out
                  have hnc26 := NB162_155.out
                  have hcz27_0 : wc.cell? ⟨gb155, 0, none⟩ = some (.string t149) := (blk_cell BK155.out 0).trans rfl
                  have hcz27_1 : wc.cell? ⟨gb155, 1, none⟩ = some (.string t150) := (blk_cell BK155.out 1).trans rfl
                  have hcz27_2 : wc.cell? ⟨gb155, 2, none⟩ = some (.string t151) := (blk_cell BK155.out 2).trans rfl
                  have hcz27_3 : wc.cell? ⟨gb155, 3, none⟩ = some (.int .i64 t152) := (blk_cell BK155.out 3).trans rfl
                  have hcz27_4 : wc.cell? ⟨gb155, 4, none⟩ = some (.int .i64 t153) := (blk_cell BK155.out 4).trans rfl
                  have hfz27_0 := blk_frozen BK155.out 0
                  have hfz27_1 := blk_frozen BK155.out 1
                  have hfz27_2 := blk_frozen BK155.out 2
                  have hfz27_3 := blk_frozen BK155.out 3
                  have hfz27_4 := blk_frozen BK155.out 4
                  have hcz28_0 : wc.cell? ⟨gb162, 0, none⟩ = some (.string t156) := (blk_cell BK162.out 0).trans rfl
                  have hcz28_1 : wc.cell? ⟨gb162, 1, none⟩ = some (.string t157) := (blk_cell BK162.out 1).trans rfl
                  have hcz28_2 : wc.cell? ⟨gb162, 2, none⟩ = some (.string t158) := (blk_cell BK162.out 2).trans rfl
                  have hcz28_3 : wc.cell? ⟨gb162, 3, none⟩ = some (.int .i64 t159) := (blk_cell BK162.out 3).trans rfl
                  have hcz28_4 : wc.cell? ⟨gb162, 4, none⟩ = some (.int .i64 t160) := (blk_cell BK162.out 4).trans rfl
                  have hfz28_0 := blk_frozen BK162.out 0
                  have hfz28_1 := blk_frozen BK162.out 1
                  have hfz28_2 := blk_frozen BK162.out 2
                  have hfz28_3 := blk_frozen BK162.out 3
                  have hfz28_4 := blk_frozen BK162.out 4
                  go_wp2
                  go_ret
                  exact ⟨by first | rfl | (simp [errW_none, errW_some] <;> rfl) | (simp [*, errW_none, errW_some] <;> rfl), by repeat (first | (with_reducible first | exact HB.out | apply below_alloc | apply pw_below_drewN | apply below_drew1 | refine below_set ?_ GE155.out | refine below_set ?_ GE162.out) | exact HB.out)⟩

/-- THE ONE PURE STATEMENT of laws_FnDirective: yours. -/
def laws_FnDirective.Pure : Prop := ∀ (a0 : ByteArray) (a1 : Int), a0.size ≤ 140737488351232 → (Lit.int .i64 a1).wf = true → ∃ k, laws_FnDirective.f k a0 a1 = some true
theorem laws_FnDirective.walk (P : laws_FnDirective.Pure) (a0 : ByteArray) (a1 : Int) (w : World) (hT : Tabs w) (w0 : a0.size ≤ 140737488351232) (w1 : (Lit.int .i64 a1).wf = true) :
    Calls Tryd.prog 3 #[.string a0, .int .i64 a1] w fun e w' => e = .returned (.bool true) ∧ Below w.heap.size w w' := by
  obtain ⟨k, h⟩ := P a0 a1 w0 w1
  refine (laws_FnDirective.calls k a0 a1 true w hT h).mono ?_
  rintro e w' ⟨rfl, hd⟩
  exact ⟨rfl, hd⟩

end Go.Proofs.YtcjiafjahfmdoaaDoor.A
