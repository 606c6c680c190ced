-- Written by a program of this session (gprint.py) out of the kit's print of the translation. Not trusted: Lean checks it.
import Derived.Test.YtcjiafjahfmdoaaDoorA0
import Derived.Test.YtcjiafjahfmdoaaDoorA8
import Derived.Test.YtcjiafjahfmdoaaDoorGStr
namespace Go.Proofs.YtcjiafjahfmdoaaDoor.A
open Go.RowKit Go.Proofs.YtcjiafjahfmdoaaDoorW.PrintWords Go.Proofs.YtcjiafjahfmdoaaDoorW.PrintLast Go.Proofs.YtcjiafjahfmdoaaDoorW.PrintMore
attribute [local go_sem] max2_int min2_int max_two min_two max_three min_three max_four min_four   -- for this text's walks alone
set_option linter.unusedVariables false
set_option linter.unusedSimpArgs false

/-! ### goprinter_go_ast_zzIndex: function 23 -/
def goprinter_go_ast_zzIndex.l0 : Nat → ByteArray → ByteArray → Int → Option (Int)
  | 0, _, _, _ => none
  | k + 1, x0, x1, x5 => if (wrap64 (x5 + (x1.size : Int))) ≤ (x0.size : Int) then (if 0 ≤ x5 then (if x5 ≤ (wrap64 (x5 + (x1.size : Int))) then (if (x0.extract (x5 : Int).toNat ((wrap64 (x5 + (x1.size : Int))) : Int).toNat).toList = x1.toList then (some x5) else (goprinter_go_ast_zzIndex.l0 k x0 x1 (wrap64 (x5 + 1)))) else (none)) else (none)) else (some (-1))
def goprinter_go_ast_zzIndex.f (k : Nat) (a0 : ByteArray) (a1 : ByteArray) : Option (Int) := goprinter_go_ast_zzIndex.l0 k a0 a1 0
theorem goprinter_go_ast_zzIndex.mono_l : ∀ k, (∀ y0 y1 y2, LeO (goprinter_go_ast_zzIndex.l0 k y0 y1 y2) (goprinter_go_ast_zzIndex.l0 (k + 1) y0 y1 y2))
  | 0 => fun _ _ _ r h => by simp [goprinter_go_ast_zzIndex.l0] at h
  | k + 1 => by
    have ih0 := goprinter_go_ast_zzIndex.mono_l k
    · intro y0 y1 y2
      unfold goprinter_go_ast_zzIndex.l0
      repeat' first
      | (with_reducible exact ih0 _ _ _)
      | (with_reducible exact LeO.refl _)
      | (with_reducible exact LeO.none _)
      | (with_reducible refine LeO.ite ?_ ?_)
      | (with_reducible refine LeO.bind ?_ (fun _ => ?_))
      | exact ih0 _ _ _
      | exact LeO.none _
      | refine LeO.ite ?_ ?_
      | refine LeO.bind ?_ (fun _ => ?_)
theorem goprinter_go_ast_zzIndex.mono : ∀ a0 a1 k, LeO (goprinter_go_ast_zzIndex.f k a0 a1) (goprinter_go_ast_zzIndex.f (k + 1) a0 a1) := by
  intro a0 a1 k
  have ih0 := goprinter_go_ast_zzIndex.mono_l k
  unfold goprinter_go_ast_zzIndex.f
  repeat' first
      | (with_reducible exact ih0 _ _ _)
      | (with_reducible exact LeO.refl _)
      | (with_reducible exact LeO.none _)
      | (with_reducible refine LeO.ite ?_ ?_)
      | (with_reducible refine LeO.bind ?_ (fun _ => ?_))
      | exact ih0 _ _ _
      | exact LeO.none _
      | refine LeO.ite ?_ ?_
      | refine LeO.bind ?_ (fun _ => ?_)
set_option maxHeartbeats 8000000 in
set_option maxRecDepth 100000 in
theorem goprinter_go_ast_zzIndex.calls (k : Nat) (a0 : ByteArray) (a1 : ByteArray) (r : Int) (w : World) (h : goprinter_go_ast_zzIndex.f k a0 a1 = some r) :
    Calls Tryd.prog 23 #[.string a0, .string a1] w fun e w' => e = .returned (.int .i64 r) ∧ Drawn0 w w' := by
  have H : (goprinter_go_ast_zzIndex.l0 k a0 a1 0) = some r := h
  clear h
  have H' := Aside0.mk H
  clear H
  go_enter Tryd.func23, Tryd.ntmps23
  go_wp2
  go_loopg [5] k (fun kq v5 w' => ∃ (x5_1 : Int), v5 = .int .i64 x5_1 ∧ Aside0 (goprinter_go_ast_zzIndex.l0 kq a0 a1 x5_1 = some r) ∧ Aside0 (kq ≤ k) ∧ Drawn0 w w')
  case atStart => exact ⟨(0), (by first | rfl | (simp; done) | (simp [*]; done)), H', ⟨Nat.le_refl _⟩, by repeat (first | exact Drawn0.refl _ | apply Drawn0.step)⟩
  case round =>
    clear H'
    try clear c2
    try clear p2
    obtain ⟨x5_1, rfl, HA, HK1, ⟨m1, rfl⟩⟩ := hrel
    cases gk with
    | zero => exact absurd HA.out (by simp [goprinter_go_ast_zzIndex.l0])
    | succ k1 =>
      have H := HA.out
      clear HA
      simp only [goprinter_go_ast_zzIndex.l0] at H
      by_cases c3 : (wrap64 (x5_1 + (a1.size : Int))) ≤ (a0.size : Int)
      · rw [if_pos c3] at H
        have c3b0 : decide ((wrap64 (x5_1 + (a1.size : Int))) ≤ (a0.size : Int)) = true := decide_eq_true c3
        clear c3
        by_cases c4 : 0 ≤ x5_1
        · rw [if_pos c4] at H
          have c4b0 := eq_true c4
          have c4b1 : decide (0 ≤ x5_1) = true := decide_eq_true c4
          clear c4
          by_cases c5 : x5_1 ≤ (wrap64 (x5_1 + (a1.size : Int)))
          · rw [if_pos c5] at H
            have c5b0 := eq_true c5
            have c5b1 : decide (x5_1 ≤ (wrap64 (x5_1 + (a1.size : Int)))) = true := decide_eq_true c5
            have c6b0 := eq_true (of_decide_eq_true (by first | (with_reducible assumption) | assumption) : (wrap64 (x5_1 + (a1.size : Int))) ≤ (a0.size : Int))
            by_cases c7 : (a0.extract (x5_1 : Int).toNat ((wrap64 (x5_1 + (a1.size : Int))) : Int).toNat).toList = a1.toList
            · rw [if_pos c7] at H
              have c7b0 : ((a0.extract (x5_1 : Int).toNat ((wrap64 (x5_1 + (a1.size : Int))) : Int).toNat).toList == a1.toList) = true := beq_iff_eq.mpr c7
              have c7b1 : ((a0.extract (x5_1 : Int).toNat ((wrap64 (x5_1 + (a1.size : Int))) : Int).toNat).toList != a1.toList) = false := bne_eq_false_iff_eq.mpr c7
              clear c7
              obtain rfl := Option.some.inj H
              go_wp2
              go_ret
              exact ⟨by first | rfl | (simp; done) | (simp [*]; done), by repeat (first | exact Drawn0.refl _ | apply Drawn0.step)⟩
            · rw [if_neg c7] at H
              have c7b0 : ((a0.extract (x5_1 : Int).toNat ((wrap64 (x5_1 + (a1.size : Int))) : Int).toNat).toList == a1.toList) = false := beq_eq_false_iff_ne.mpr c7
              have c7b1 : ((a0.extract (x5_1 : Int).toNat ((wrap64 (x5_1 + (a1.size : Int))) : Int).toNat).toList != a1.toList) = true := bne_iff_ne.mpr c7
              have H' := Aside0.mk H
              clear H
              go_wp2
              go_roundg k1
              case measure => have := HK1.out; omega
              case rel => exact ⟨(wrap64 (x5_1 + 1)), (by first | rfl | (simp; done) | (simp [*]; done)), H', ⟨by have := HK1.out; omega⟩, by repeat (first | exact Drawn0.refl _ | apply Drawn0.step)⟩
          · rw [if_neg c5] at H
            exact absurd H (by simp)
        · rw [if_neg c4] at H
          exact absurd H (by simp)
      · rw [if_neg c3] at H
        have c3b0 : decide ((wrap64 (x5_1 + (a1.size : Int))) ≤ (a0.size : Int)) = false := decide_eq_false c3
        clear c3
        obtain rfl := Option.some.inj H
        go_wp2
        go_ret
        exact ⟨by first | rfl | (simp; done) | (simp [*]; done), by repeat (first | exact Drawn0.refl _ | apply Drawn0.step)⟩

/-! ### goprinter_go_ast_directiveScanner_take: function 24 -/
def goprinter_go_ast_directiveScanner_take.f (s0_0 : ByteArray) (s0_1 : Int) (a1 : Int) : Option (ByteArray × ByteArray × Int) := if 0 ≤ a1 then (if a1 ≤ (s0_0.size : Int) then ((goprinter_go_ast_directiveScanner_skip.f s0_0 s0_1 a1).bind fun bt114 => (some (s0_0.extract 0 (a1 : Int).toNat, bt114.1, bt114.2))) else (none)) else (none)
set_option maxHeartbeats 8000000 in
set_option maxRecDepth 100000 in
theorem goprinter_go_ast_directiveScanner_take.calls (g : Nat) (s0_0 : ByteArray) (s0_1 : Int) (a1 : Int) (r1 : ByteArray) (r2 : ByteArray) (r3 : Int) (w0 w : World) (hI : IsS49 w0 w g s0_0 s0_1) (hB : Below w0.heap.size w0 w) (h : goprinter_go_ast_directiveScanner_take.f s0_0 s0_1 a1 = some (r1, r2, r3)) :
    Calls Tryd.prog 24 #[.pointer (some ⟨g, 0, none⟩), .int .i64 a1] w fun e w' => e = .returned (.string r1) ∧ IsS49 w0 w' g r2 r3 ∧ Below w0.heap.size w0 w' ∧ KeepBut w w' g none := by
  have HI0 := Aside0.mk hI
  have HK := Aside0.mk (KeepBut.refl w g none)
  have HL := Aside0.mk hB.size
  clear hI
  have HW0 := Aside0.mk hB.size
  have HB := Aside0.mk hB
  clear hB
  have H : (if 0 ≤ a1 then (if a1 ≤ (s0_0.size : Int) then ((goprinter_go_ast_directiveScanner_skip.f s0_0 s0_1 a1).bind fun bt114 => (some (s0_0.extract 0 (a1 : Int).toNat, bt114.1, bt114.2))) else (none)) else (none)) = some (r1, r2, r3) := h
  clear h
  by_cases c3 : 0 ≤ a1
  · rw [if_pos c3] at H
    have c3b0 := eq_true c3
    have c3b1 : decide (0 ≤ a1) = true := decide_eq_true c3
    clear c3
    by_cases c4 : a1 ≤ (s0_0.size : Int)
    · rw [if_pos c4] at H
      have c4b0 := eq_true c4
      have c4b1 : decide (a1 ≤ (s0_0.size : Int)) = true := decide_eq_true c4
      clear c4
      replace H := Option.bind_eq_some_iff.mp H
      obtain ⟨⟨t114, t115⟩, A50, H⟩ := H
      replace H : (some (s0_0.extract 0 (a1 : Int).toNat, t114, t115)) = some (r1, r2, r3) := H
      have A5 := Aside0.mk A50
      clear A50
      simp only [Option.some.injEq, Prod.mk.injEq] at H
      obtain ⟨rfl, rfl, rfl⟩ := H
      obtain ⟨HGz6, hgz6⟩ := HI0.out
      have hcz6_0 := cellS49_0 HGz6
      have hcz6_1 := cellS49_1 HGz6
      have hfz6_0 := blk_frozen HGz6 0
      have hfz6_1 := blk_frozen HGz6 1
      clear HGz6 hgz6
      go_enter Tryd.func24, Tryd.ntmps24
      go_wp2_with (first | ((with_reducible refine gate_callee (f := 22) rfl ?_); refine goesL_ (some 14) rfl rfl Tryd.func22 (by kernel_rfl) rfl #[.pointer (some ⟨g, 0, none⟩), .int .i64 a1] rfl (by (try simp only [List.map_toArray, List.map_cons, List.map_nil]); first | done | rfl | (simp only [List.length_drop, List.length_take]; rfl)) ?_; (with_reducible refine (goprinter_go_ast_directiveScanner_skip.calls g s0_0 s0_1 a1 t114 t115 w0 _ ?side1 ?side2 A5.out).mono ?_); (case side1 => repeat (first | (with_reducible first | exact HI0.out | apply IsS49.alloc | apply IsS49.drewN | apply IsS49.drew | apply IsS49.set_0 | apply IsS49.set_1) | exact HI0.out)); (case side2 => repeat (first | (with_reducible first | exact HB.out | apply below_alloc | apply pw_below_drewN | apply below_drew1 | refine below_set ?_ (IsS49.ge HI0.out)) | exact HB.out)); rintro e w7 ⟨rfl, hi, hb, hk⟩; refine ⟨_, rfl, ?_⟩; have n0_ := Aside0.mk (KeepBut.trans (by repeat (first | (with_reducible first | exact HK.out | apply KeepBut.set_ | apply keep_drewN | apply keep_drew | apply keep_alloc) | exact HK.out)) hk (.inl rfl)); have n1_ := Aside0.mk (hb); have n2_ := Aside0.mk (hi); clear HK; clear HB; clear HI0; have HK := n0_; have HB := n1_; have HI0 := n2_; clear n0_ n1_ n2_; (try clear hb); (try clear hb2); (try clear hk); (try clear hi)))
      go_ret
      exact ⟨by first | rfl | (simp [errW_none, errW_some] <;> rfl) | (simp [*, errW_none, errW_some] <;> rfl), by repeat (first | (with_reducible first | exact HI0.out | apply IsS49.alloc | apply IsS49.drewN | apply IsS49.drew | apply IsS49.set_0 | apply IsS49.set_1) | exact HI0.out), by repeat (first | (with_reducible first | exact HB.out | apply below_alloc | apply pw_below_drewN | apply below_drew1 | refine below_set ?_ (IsS49.ge HI0.out)) | exact HB.out), by repeat (first | (with_reducible first | exact HK.out | apply KeepBut.set_ | apply keep_drewN | apply keep_drew | apply keep_alloc) | exact HK.out)⟩
    · rw [if_neg c4] at H
      exact absurd H (by simp)
  · rw [if_neg c3] at H
    exact absurd H (by simp)

-- NOT PRINTED: function 50 (unicode_is16)

-- NOT PRINTED: function 51 (unicode_is32)

-- NOT PRINTED: function 41 (unicode_isExcludingLatin)

-- NOT PRINTED: function 28 (unicode_IsSpace)

-- NOT PRINTED: function 47 (strings_indexFunc)

-- GIVEN: function 37 (strings_IndexFunc)

/-! ### goprinter_go_ast_directiveScanner_takeNonSpace: function 25 -/
def goprinter_go_ast_directiveScanner_takeNonSpace.f (s0_0 : ByteArray) (s0_1 : Int) : Option (ByteArray × ByteArray × Int) := (strings_IndexFunc.f s0_0).bind fun t119 => (if t119 = (-1) then ((goprinter_go_ast_directiveScanner_take.f s0_0 s0_1 (s0_0.size : Int)).bind fun bt120 => (some (bt120.1, bt120.2.1, bt120.2.2))) else ((goprinter_go_ast_directiveScanner_take.f s0_0 s0_1 t119).bind fun bt123 => (some (bt123.1, bt123.2.1, bt123.2.2))))
set_option maxHeartbeats 8000000 in
set_option maxRecDepth 100000 in
theorem goprinter_go_ast_directiveScanner_takeNonSpace.calls (g : Nat) (s0_0 : ByteArray) (s0_1 : Int) (r1 : ByteArray) (r2 : ByteArray) (r3 : Int) (w0 w : World) (hT : Tabs w0) (hI : IsS49 w0 w g s0_0 s0_1) (hB : Below w0.heap.size w0 w) (h : goprinter_go_ast_directiveScanner_takeNonSpace.f s0_0 s0_1 = some (r1, r2, r3)) :
    Calls Tryd.prog 25 #[.pointer (some ⟨g, 0, none⟩)] w fun e w' => e = .returned (.string r1) ∧ IsS49 w0 w' g r2 r3 ∧ Below w0.heap.size w0 w' ∧ KeepBut w w' g none := by
  have HT := Aside0.mk hT
  clear hT
  have HI0 := Aside0.mk hI
  have HK := Aside0.mk (KeepBut.refl w g none)
  have HL := Aside0.mk hB.size
  clear hI
  have HW0 := Aside0.mk hB.size
  have HB := Aside0.mk hB
  clear hB
  have H : ((strings_IndexFunc.f s0_0).bind fun t119 => (if t119 = (-1) then ((goprinter_go_ast_directiveScanner_take.f s0_0 s0_1 (s0_0.size : Int)).bind fun bt120 => (some (bt120.1, bt120.2.1, bt120.2.2))) else ((goprinter_go_ast_directiveScanner_take.f s0_0 s0_1 t119).bind fun bt123 => (some (bt123.1, bt123.2.1, bt123.2.2))))) = some (r1, r2, r3) := h
  clear h
  replace H := Option.bind_eq_some_iff.mp H
  obtain ⟨t119, A20, H⟩ := H
  replace H : (if t119 = (-1) then ((goprinter_go_ast_directiveScanner_take.f s0_0 s0_1 (s0_0.size : Int)).bind fun bt120 => (some (bt120.1, bt120.2.1, bt120.2.2))) else ((goprinter_go_ast_directiveScanner_take.f s0_0 s0_1 t119).bind fun bt123 => (some (bt123.1, bt123.2.1, bt123.2.2)))) = some (r1, r2, r3) := H
  have A2 := Aside0.mk A20
  clear A20
  by_cases c3 : t119 = (-1)
  · rw [if_pos c3] at H
    have c3b0 : (t119 == (-1)) = true := beq_iff_eq.mpr c3
    have c3b1 : (t119 != (-1)) = false := bne_eq_false_iff_eq.mpr c3
    clear c3
    replace H := Option.bind_eq_some_iff.mp H
    obtain ⟨⟨t120, t121, t122⟩, A40, H⟩ := H
    replace H : (some (t120, t121, t122)) = some (r1, r2, r3) := H
    have A4 := Aside0.mk A40
    clear A40
    simp only [Option.some.injEq, Prod.mk.injEq] at H
    obtain ⟨rfl, rfl, rfl⟩ := H
    obtain ⟨HGz5, hgz5⟩ := HI0.out
    have hcz5_0 := cellS49_0 HGz5
    have hcz5_1 := cellS49_1 HGz5
    have hfz5_0 := blk_frozen HGz5 0
    have hfz5_1 := blk_frozen HGz5 1
    clear HGz5 hgz5
    go_enter Tryd.func25, Tryd.ntmps25
    go_wp2_with (first | ((with_reducible refine gate_callee (f := 37) rfl ?_); refine goesL_ (some 8) rfl rfl Tryd.func37 (by kernel_rfl) rfl #[.string s0_0, .func (.func 28) #[] #[]] rfl (by (try simp only [List.map_toArray, List.map_cons, List.map_nil]); first | done | rfl | (simp only [List.length_drop, List.length_take]; rfl)) ?_; (with_reducible refine (strings_IndexFunc.calls s0_0 t119 _ (HT.out.below (by repeat (first | (with_reducible first | exact HB.out | apply below_alloc | apply pw_below_drewN | apply below_drew1 | refine below_set ?_ (IsS49.ge HI0.out)) | exact HB.out))) A2.out).mono ?_); rintro e w6 ⟨rfl, hb⟩; refine ⟨_, rfl, ?_⟩; have n0_ := Aside0.mk (IsS49.below (by repeat (first | (with_reducible first | exact HI0.out | apply IsS49.alloc | apply IsS49.drewN | apply IsS49.drew | apply IsS49.set_0 | apply IsS49.set_1) | exact HI0.out)) hb); have n1_ := Aside0.mk (KeepBut.trans (by repeat (first | (with_reducible first | exact HK.out | apply KeepBut.set_ | apply keep_drewN | apply keep_drew | apply keep_alloc) | exact HK.out)) (KeepBut.of_below hb g none) (.inl rfl)); have n2_ := Aside0.mk (below_step (by repeat (first | (with_reducible first | exact HB.out | apply below_alloc | apply pw_below_drewN | apply below_drew1 | refine below_set ?_ (IsS49.ge HI0.out)) | exact HB.out)) hb); clear HI0; clear HK; clear HB; have HI0 := n0_; have HK := n1_; have HB := n2_; clear n0_ n1_ n2_; (try clear hb); (try clear hb2); (try clear hk); (try clear hi); obtain ⟨HGz7, hgz7⟩ := HI0.out; have hcz7_0 := cellS49_0 HGz7; have hcz7_1 := cellS49_1 HGz7; have hfz7_0 := blk_frozen HGz7 0; have hfz7_1 := blk_frozen HGz7 1; clear HGz7 hgz7) | ((with_reducible refine gate_callee (f := 24) rfl ?_); refine goesL_ (some 18) rfl rfl Tryd.func24 (by kernel_rfl) rfl #[.pointer (some ⟨g, 0, none⟩), .int .i64 (s0_0.size : Int)] rfl (by (try simp only [List.map_toArray, List.map_cons, List.map_nil]); first | done | rfl | (simp only [List.length_drop, List.length_take]; rfl)) ?_; (with_reducible refine (goprinter_go_ast_directiveScanner_take.calls g s0_0 s0_1 (s0_0.size : Int) t120 t121 t122 w0 _ ?side1 ?side2 A4.out).mono ?_); (case side1 => repeat (first | (with_reducible first | exact HI0.out | apply IsS49.alloc | apply IsS49.drewN | apply IsS49.drew | apply IsS49.set_0 | apply IsS49.set_1) | exact HI0.out)); (case side2 => repeat (first | (with_reducible first | exact HB.out | apply below_alloc | apply pw_below_drewN | apply below_drew1 | refine below_set ?_ (IsS49.ge HI0.out)) | exact HB.out)); rintro e w8 ⟨rfl, hi, hb, hk⟩; refine ⟨_, rfl, ?_⟩; have n0_ := Aside0.mk (KeepBut.trans (by repeat (first | (with_reducible first | exact HK.out | apply KeepBut.set_ | apply keep_drewN | apply keep_drew | apply keep_alloc) | exact HK.out)) hk (.inl rfl)); have n1_ := Aside0.mk (hb); have n2_ := Aside0.mk (hi); clear HK; clear HB; clear HI0; have HK := n0_; have HB := n1_; have HI0 := n2_; clear n0_ n1_ n2_; (try clear hb); (try clear hb2); (try clear hk); (try clear hi)))
    go_ret
    exact ⟨by first | rfl | (simp [errW_none, errW_some] <;> rfl) | (simp [*, errW_none, errW_some] <;> rfl), by repeat (first | (with_reducible first | exact HI0.out | apply IsS49.alloc | apply IsS49.drewN | apply IsS49.drew | apply IsS49.set_0 | apply IsS49.set_1) | exact HI0.out), by repeat (first | (with_reducible first | exact HB.out | apply below_alloc | apply pw_below_drewN | apply below_drew1 | refine below_set ?_ (IsS49.ge HI0.out)) | exact HB.out), by repeat (first | (with_reducible first | exact HK.out | apply KeepBut.set_ | apply keep_drewN | apply keep_drew | apply keep_alloc) | exact HK.out)⟩
  · rw [if_neg c3] at H
    have c3b0 : (t119 == (-1)) = false := beq_eq_false_iff_ne.mpr c3
    have c3b1 : (t119 != (-1)) = true := bne_iff_ne.mpr c3
    replace H := Option.bind_eq_some_iff.mp H
    obtain ⟨⟨t123, t124, t125⟩, A90, H⟩ := H
    replace H : (some (t123, t124, t125)) = some (r1, r2, r3) := H
    have A9 := Aside0.mk A90
    clear A90
    simp only [Option.some.injEq, Prod.mk.injEq] at H
    obtain ⟨rfl, rfl, rfl⟩ := H
    obtain ⟨HGz10, hgz10⟩ := HI0.out
    have hcz10_0 := cellS49_0 HGz10
    have hcz10_1 := cellS49_1 HGz10
    have hfz10_0 := blk_frozen HGz10 0
    have hfz10_1 := blk_frozen HGz10 1
    clear HGz10 hgz10
    go_enter Tryd.func25, Tryd.ntmps25
    go_wp2_with (first | ((with_reducible refine gate_callee (f := 37) rfl ?_); refine goesL_ (some 8) rfl rfl Tryd.func37 (by kernel_rfl) rfl #[.string s0_0, .func (.func 28) #[] #[]] rfl (by (try simp only [List.map_toArray, List.map_cons, List.map_nil]); first | done | rfl | (simp only [List.length_drop, List.length_take]; rfl)) ?_; (with_reducible refine (strings_IndexFunc.calls s0_0 t119 _ (HT.out.below (by repeat (first | (with_reducible first | exact HB.out | apply below_alloc | apply pw_below_drewN | apply below_drew1 | refine below_set ?_ (IsS49.ge HI0.out)) | exact HB.out))) A2.out).mono ?_); rintro e w11 ⟨rfl, hb⟩; refine ⟨_, rfl, ?_⟩; have n0_ := Aside0.mk (IsS49.below (by repeat (first | (with_reducible first | exact HI0.out | apply IsS49.alloc | apply IsS49.drewN | apply IsS49.drew | apply IsS49.set_0 | apply IsS49.set_1) | exact HI0.out)) hb); have n1_ := Aside0.mk (KeepBut.trans (by repeat (first | (with_reducible first | exact HK.out | apply KeepBut.set_ | apply keep_drewN | apply keep_drew | apply keep_alloc) | exact HK.out)) (KeepBut.of_below hb g none) (.inl rfl)); have n2_ := Aside0.mk (below_step (by repeat (first | (with_reducible first | exact HB.out | apply below_alloc | apply pw_below_drewN | apply below_drew1 | refine below_set ?_ (IsS49.ge HI0.out)) | exact HB.out)) hb); clear HI0; clear HK; clear HB; have HI0 := n0_; have HK := n1_; have HB := n2_; clear n0_ n1_ n2_; (try clear hb); (try clear hb2); (try clear hk); (try clear hi)) | ((with_reducible refine gate_callee (f := 24) rfl ?_); refine goesL_ (some 18) rfl rfl Tryd.func24 (by kernel_rfl) rfl #[.pointer (some ⟨g, 0, none⟩), .int .i64 t119] rfl (by (try simp only [List.map_toArray, List.map_cons, List.map_nil]); first | done | rfl | (simp only [List.length_drop, List.length_take]; rfl)) ?_; (with_reducible refine (goprinter_go_ast_directiveScanner_take.calls g s0_0 s0_1 t119 t123 t124 t125 w0 _ ?side1 ?side2 A9.out).mono ?_); (case side1 => repeat (first | (with_reducible first | exact HI0.out | apply IsS49.alloc | apply IsS49.drewN | apply IsS49.drew | apply IsS49.set_0 | apply IsS49.set_1) | exact HI0.out)); (case side2 => repeat (first | (with_reducible first | exact HB.out | apply below_alloc | apply pw_below_drewN | apply below_drew1 | refine below_set ?_ (IsS49.ge HI0.out)) | exact HB.out)); rintro e w12 ⟨rfl, hi, hb, hk⟩; refine ⟨_, rfl, ?_⟩; have n0_ := Aside0.mk (KeepBut.trans (by repeat (first | (with_reducible first | exact HK.out | apply KeepBut.set_ | apply keep_drewN | apply keep_drew | apply keep_alloc) | exact HK.out)) hk (.inl rfl)); have n1_ := Aside0.mk (hb); have n2_ := Aside0.mk (hi); clear HK; clear HB; clear HI0; have HK := n0_; have HB := n1_; have HI0 := n2_; clear n0_ n1_ n2_; (try clear hb); (try clear hb2); (try clear hk); (try clear hi)))
    go_ret
    exact ⟨by first | rfl | (simp [errW_none, errW_some] <;> rfl) | (simp [*, errW_none, errW_some] <;> rfl), by repeat (first | (with_reducible first | exact HI0.out | apply IsS49.alloc | apply IsS49.drewN | apply IsS49.drew | apply IsS49.set_0 | apply IsS49.set_1) | exact HI0.out), by repeat (first | (with_reducible first | exact HB.out | apply below_alloc | apply pw_below_drewN | apply below_drew1 | refine below_set ?_ (IsS49.ge HI0.out)) | exact HB.out), by repeat (first | (with_reducible first | exact HK.out | apply KeepBut.set_ | apply keep_drewN | apply keep_drew | apply keep_alloc) | exact HK.out)⟩

-- GIVEN: function 38 (strings_TrimLeftFunc)

end Go.Proofs.YtcjiafjahfmdoaaDoor.A
