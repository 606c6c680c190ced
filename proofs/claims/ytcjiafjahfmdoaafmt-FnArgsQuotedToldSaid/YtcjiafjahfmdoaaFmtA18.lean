-- Written by a program of this session (gprint.py) out of the kit's print of the translation. Not trusted: Lean checks it.
import Derived.Test.YtcjiafjahfmdoaaFmtA10
import Derived.Test.YtcjiafjahfmdoaaFmtGStr
namespace Go.Proofs.YtcjiafjahfmdoaaFmt.A
open Go.RowKit Go.Proofs.YtcjiafjahfmdoaaFmtW.PrintWords Go.Proofs.YtcjiafjahfmdoaaFmtW.PrintLast Go.Proofs.YtcjiafjahfmdoaaFmtW.PrintMore
attribute [local go_sem] max2_int min2_int max_two min_two max_three min_three max_four min_four   -- for this text's walks alone
set_option linter.unusedVariables false
set_option linter.unusedSimpArgs false

/-! ### goprinter_go_ast_directiveScanner_takeNonSpace: function 22 -/
def goprinter_go_ast_directiveScanner_takeNonSpace.f (s0_0 : ByteArray) (s0_1 : Int) : Option (ByteArray × ByteArray × Int) := (strings_IndexFunc.f s0_0).bind fun t119 => (if t119 = (-1) then ((goprinter_go_ast_directiveScanner_take.f s0_0 s0_1 (s0_0.size : Int)).bind fun bt120 => (some (bt120.1, bt120.2.1, bt120.2.2))) else ((goprinter_go_ast_directiveScanner_take.f s0_0 s0_1 t119).bind fun bt123 => (some (bt123.1, bt123.2.1, bt123.2.2))))
set_option maxHeartbeats 8000000 in
set_option maxRecDepth 100000 in
theorem goprinter_go_ast_directiveScanner_takeNonSpace.calls (g : Nat) (s0_0 : ByteArray) (s0_1 : Int) (r1 : ByteArray) (r2 : ByteArray) (r3 : Int) (w0 w : World) (hT : Tabs w0) (hI : IsS59 w0 w g s0_0 s0_1) (hB : Below w0.heap.size w0 w) (h : goprinter_go_ast_directiveScanner_takeNonSpace.f s0_0 s0_1 = some (r1, r2, r3)) :
    Calls Tryf.prog 22 #[.pointer (some ⟨g, 0, none⟩)] w fun e w' => e = .returned (.string r1) ∧ IsS59 w0 w' g r2 r3 ∧ Below w0.heap.size w0 w' ∧ KeepBut w w' g none := by
  have HT := Aside0.mk hT
  clear hT
  have HI0 := Aside0.mk hI
  have HK := Aside0.mk (KeepBut.refl w g none)
  have HL := Aside0.mk hB.size
  clear hI
  have HW0 := Aside0.mk hB.size
  have HB := Aside0.mk hB
  clear hB
  have H : ((strings_IndexFunc.f s0_0).bind fun t119 => (if t119 = (-1) then ((goprinter_go_ast_directiveScanner_take.f s0_0 s0_1 (s0_0.size : Int)).bind fun bt120 => (some (bt120.1, bt120.2.1, bt120.2.2))) else ((goprinter_go_ast_directiveScanner_take.f s0_0 s0_1 t119).bind fun bt123 => (some (bt123.1, bt123.2.1, bt123.2.2))))) = some (r1, r2, r3) := h
  clear h
  replace H := Option.bind_eq_some_iff.mp H
  obtain ⟨t119, A20, H⟩ := H
  replace H : (if t119 = (-1) then ((goprinter_go_ast_directiveScanner_take.f s0_0 s0_1 (s0_0.size : Int)).bind fun bt120 => (some (bt120.1, bt120.2.1, bt120.2.2))) else ((goprinter_go_ast_directiveScanner_take.f s0_0 s0_1 t119).bind fun bt123 => (some (bt123.1, bt123.2.1, bt123.2.2)))) = some (r1, r2, r3) := H
  have A2 := Aside0.mk A20
  clear A20
  by_cases c3 : t119 = (-1)
  · rw [if_pos c3] at H
    have c3b0 : (t119 == (-1)) = true := beq_iff_eq.mpr c3
    have c3b1 : (t119 != (-1)) = false := bne_eq_false_iff_eq.mpr c3
    clear c3
    replace H := Option.bind_eq_some_iff.mp H
    obtain ⟨⟨t120, t121, t122⟩, A40, H⟩ := H
    replace H : (some (t120, t121, t122)) = some (r1, r2, r3) := H
    have A4 := Aside0.mk A40
    clear A40
    simp only [Option.some.injEq, Prod.mk.injEq] at H
    obtain ⟨rfl, rfl, rfl⟩ := H
    obtain ⟨HGz5, hgz5⟩ := HI0.out
    have hcz5_0 := cellS59_0 HGz5
    have hcz5_1 := cellS59_1 HGz5
    have hfz5_0 := blk_frozen HGz5 0
    have hfz5_1 := blk_frozen HGz5 1
    clear HGz5 hgz5
    go_enter Tryf.func22, Tryf.ntmps22
    go_wp2_with (first | ((with_reducible refine gate_callee (f := 32) rfl ?_); refine goesL_ (some 8) rfl rfl Tryf.func32 (by kernel_rfl) rfl #[.string s0_0, .func (.func 28) #[] #[]] rfl (by (try simp only [List.map_toArray, List.map_cons, List.map_nil]); first | done | rfl | (simp only [List.length_drop, List.length_take]; rfl)) ?_; (with_reducible refine (strings_IndexFunc.calls s0_0 t119 _ (HT.out.below (by repeat (first | (with_reducible first | exact HB.out | apply below_alloc | apply pw_below_drewN | apply below_drew1 | refine below_set ?_ (IsS59.ge HI0.out)) | exact HB.out))) A2.out).mono ?_); rintro e w6 ⟨rfl, hb⟩; refine ⟨_, rfl, ?_⟩; have n0_ := Aside0.mk (IsS59.below (by repeat (first | (with_reducible first | exact HI0.out | apply IsS59.alloc | apply IsS59.drewN | apply IsS59.drew | apply IsS59.set_0 | apply IsS59.set_1) | exact HI0.out)) hb); have n1_ := Aside0.mk (KeepBut.trans (by repeat (first | (with_reducible first | exact HK.out | apply KeepBut.set_ | apply keep_drewN | apply keep_drew | apply keep_alloc) | exact HK.out)) (KeepBut.of_below hb g none) (.inl rfl)); have n2_ := Aside0.mk (below_step (by repeat (first | (with_reducible first | exact HB.out | apply below_alloc | apply pw_below_drewN | apply below_drew1 | refine below_set ?_ (IsS59.ge HI0.out)) | exact HB.out)) hb); clear HI0; clear HK; clear HB; have HI0 := n0_; have HK := n1_; have HB := n2_; clear n0_ n1_ n2_; (try clear hb); (try clear hb2); (try clear hk); (try clear hi); obtain ⟨HGz7, hgz7⟩ := HI0.out; have hcz7_0 := cellS59_0 HGz7; have hcz7_1 := cellS59_1 HGz7; have hfz7_0 := blk_frozen HGz7 0; have hfz7_1 := blk_frozen HGz7 1; clear HGz7 hgz7) | ((with_reducible refine gate_callee (f := 26) rfl ?_); refine goesL_ (some 18) rfl rfl Tryf.func26 (by kernel_rfl) rfl #[.pointer (some ⟨g, 0, none⟩), .int .i64 (s0_0.size : Int)] rfl (by (try simp only [List.map_toArray, List.map_cons, List.map_nil]); first | done | rfl | (simp only [List.length_drop, List.length_take]; rfl)) ?_; (with_reducible refine (goprinter_go_ast_directiveScanner_take.calls g s0_0 s0_1 (s0_0.size : Int) t120 t121 t122 w0 _ ?side1 ?side2 A4.out).mono ?_); (case side1 => repeat (first | (with_reducible first | exact HI0.out | apply IsS59.alloc | apply IsS59.drewN | apply IsS59.drew | apply IsS59.set_0 | apply IsS59.set_1) | exact HI0.out)); (case side2 => repeat (first | (with_reducible first | exact HB.out | apply below_alloc | apply pw_below_drewN | apply below_drew1 | refine below_set ?_ (IsS59.ge HI0.out)) | exact HB.out)); rintro e w8 ⟨rfl, hi, hb, hk⟩; refine ⟨_, rfl, ?_⟩; have n0_ := Aside0.mk (KeepBut.trans (by repeat (first | (with_reducible first | exact HK.out | apply KeepBut.set_ | apply keep_drewN | apply keep_drew | apply keep_alloc) | exact HK.out)) hk (.inl rfl)); have n1_ := Aside0.mk (hb); have n2_ := Aside0.mk (hi); clear HK; clear HB; clear HI0; have HK := n0_; have HB := n1_; have HI0 := n2_; clear n0_ n1_ n2_; (try clear hb); (try clear hb2); (try clear hk); (try clear hi)))
    go_ret
    exact ⟨by first | rfl | (simp [errW_none, errW_some] <;> rfl) | (simp [*, errW_none, errW_some] <;> rfl), by repeat (first | (with_reducible first | exact HI0.out | apply IsS59.alloc | apply IsS59.drewN | apply IsS59.drew | apply IsS59.set_0 | apply IsS59.set_1) | exact HI0.out), by repeat (first | (with_reducible first | exact HB.out | apply below_alloc | apply pw_below_drewN | apply below_drew1 | refine below_set ?_ (IsS59.ge HI0.out)) | exact HB.out), by repeat (first | (with_reducible first | exact HK.out | apply KeepBut.set_ | apply keep_drewN | apply keep_drew | apply keep_alloc) | exact HK.out)⟩
  · rw [if_neg c3] at H
    have c3b0 : (t119 == (-1)) = false := beq_eq_false_iff_ne.mpr c3
    have c3b1 : (t119 != (-1)) = true := bne_iff_ne.mpr c3
    replace H := Option.bind_eq_some_iff.mp H
    obtain ⟨⟨t123, t124, t125⟩, A90, H⟩ := H
    replace H : (some (t123, t124, t125)) = some (r1, r2, r3) := H
    have A9 := Aside0.mk A90
    clear A90
    simp only [Option.some.injEq, Prod.mk.injEq] at H
    obtain ⟨rfl, rfl, rfl⟩ := H
    obtain ⟨HGz10, hgz10⟩ := HI0.out
    have hcz10_0 := cellS59_0 HGz10
    have hcz10_1 := cellS59_1 HGz10
    have hfz10_0 := blk_frozen HGz10 0
    have hfz10_1 := blk_frozen HGz10 1
    clear HGz10 hgz10
    go_enter Tryf.func22, Tryf.ntmps22
    go_wp2_with (first | ((with_reducible refine gate_callee (f := 32) rfl ?_); refine goesL_ (some 8) rfl rfl Tryf.func32 (by kernel_rfl) rfl #[.string s0_0, .func (.func 28) #[] #[]] rfl (by (try simp only [List.map_toArray, List.map_cons, List.map_nil]); first | done | rfl | (simp only [List.length_drop, List.length_take]; rfl)) ?_; (with_reducible refine (strings_IndexFunc.calls s0_0 t119 _ (HT.out.below (by repeat (first | (with_reducible first | exact HB.out | apply below_alloc | apply pw_below_drewN | apply below_drew1 | refine below_set ?_ (IsS59.ge HI0.out)) | exact HB.out))) A2.out).mono ?_); rintro e w11 ⟨rfl, hb⟩; refine ⟨_, rfl, ?_⟩; have n0_ := Aside0.mk (IsS59.below (by repeat (first | (with_reducible first | exact HI0.out | apply IsS59.alloc | apply IsS59.drewN | apply IsS59.drew | apply IsS59.set_0 | apply IsS59.set_1) | exact HI0.out)) hb); have n1_ := Aside0.mk (KeepBut.trans (by repeat (first | (with_reducible first | exact HK.out | apply KeepBut.set_ | apply keep_drewN | apply keep_drew | apply keep_alloc) | exact HK.out)) (KeepBut.of_below hb g none) (.inl rfl)); have n2_ := Aside0.mk (below_step (by repeat (first | (with_reducible first | exact HB.out | apply below_alloc | apply pw_below_drewN | apply below_drew1 | refine below_set ?_ (IsS59.ge HI0.out)) | exact HB.out)) hb); clear HI0; clear HK; clear HB; have HI0 := n0_; have HK := n1_; have HB := n2_; clear n0_ n1_ n2_; (try clear hb); (try clear hb2); (try clear hk); (try clear hi)) | ((with_reducible refine gate_callee (f := 26) rfl ?_); refine goesL_ (some 18) rfl rfl Tryf.func26 (by kernel_rfl) rfl #[.pointer (some ⟨g, 0, none⟩), .int .i64 t119] rfl (by (try simp only [List.map_toArray, List.map_cons, List.map_nil]); first | done | rfl | (simp only [List.length_drop, List.length_take]; rfl)) ?_; (with_reducible refine (goprinter_go_ast_directiveScanner_take.calls g s0_0 s0_1 t119 t123 t124 t125 w0 _ ?side1 ?side2 A9.out).mono ?_); (case side1 => repeat (first | (with_reducible first | exact HI0.out | apply IsS59.alloc | apply IsS59.drewN | apply IsS59.drew | apply IsS59.set_0 | apply IsS59.set_1) | exact HI0.out)); (case side2 => repeat (first | (with_reducible first | exact HB.out | apply below_alloc | apply pw_below_drewN | apply below_drew1 | refine below_set ?_ (IsS59.ge HI0.out)) | exact HB.out)); rintro e w12 ⟨rfl, hi, hb, hk⟩; refine ⟨_, rfl, ?_⟩; have n0_ := Aside0.mk (KeepBut.trans (by repeat (first | (with_reducible first | exact HK.out | apply KeepBut.set_ | apply keep_drewN | apply keep_drew | apply keep_alloc) | exact HK.out)) hk (.inl rfl)); have n1_ := Aside0.mk (hb); have n2_ := Aside0.mk (hi); clear HK; clear HB; clear HI0; have HK := n0_; have HB := n1_; have HI0 := n2_; clear n0_ n1_ n2_; (try clear hb); (try clear hb2); (try clear hk); (try clear hi)))
    go_ret
    exact ⟨by first | rfl | (simp [errW_none, errW_some] <;> rfl) | (simp [*, errW_none, errW_some] <;> rfl), by repeat (first | (with_reducible first | exact HI0.out | apply IsS59.alloc | apply IsS59.drewN | apply IsS59.drew | apply IsS59.set_0 | apply IsS59.set_1) | exact HI0.out), by repeat (first | (with_reducible first | exact HB.out | apply below_alloc | apply pw_below_drewN | apply below_drew1 | refine below_set ?_ (IsS59.ge HI0.out)) | exact HB.out), by repeat (first | (with_reducible first | exact HK.out | apply KeepBut.set_ | apply keep_drewN | apply keep_drew | apply keep_alloc) | exact HK.out)⟩

/-! ### goprinter_go_ast_directiveScanner_skipSpace: function 21 -/
def goprinter_go_ast_directiveScanner_skipSpace.f (s0_0 : ByteArray) (s0_1 : Int) : Option (ByteArray × Int) := (strings_TrimLeftFunc.f s0_0).bind fun t126 => ((goprinter_go_ast_directiveScanner_skip.f s0_0 s0_1 (wrap64 ((s0_0.size : Int) - (t126.size : Int)))).bind fun bt127 => (some (bt127.1, bt127.2)))
set_option maxHeartbeats 8000000 in
set_option maxRecDepth 100000 in
theorem goprinter_go_ast_directiveScanner_skipSpace.calls (g : Nat) (s0_0 : ByteArray) (s0_1 : Int) (r1 : ByteArray) (r2 : Int) (w0 w : World) (hT : Tabs w0) (hI : IsS59 w0 w g s0_0 s0_1) (hB : Below w0.heap.size w0 w) (h : goprinter_go_ast_directiveScanner_skipSpace.f s0_0 s0_1 = some (r1, r2)) :
    Calls Tryf.prog 21 #[.pointer (some ⟨g, 0, none⟩)] w fun e w' => e = .returned (.tuple #[]) ∧ IsS59 w0 w' g r1 r2 ∧ Below w0.heap.size w0 w' ∧ KeepBut w w' g none := by
  have HT := Aside0.mk hT
  clear hT
  have HI0 := Aside0.mk hI
  have HK := Aside0.mk (KeepBut.refl w g none)
  have HL := Aside0.mk hB.size
  clear hI
  have HW0 := Aside0.mk hB.size
  have HB := Aside0.mk hB
  clear hB
  have H : ((strings_TrimLeftFunc.f s0_0).bind fun t126 => ((goprinter_go_ast_directiveScanner_skip.f s0_0 s0_1 (wrap64 ((s0_0.size : Int) - (t126.size : Int)))).bind fun bt127 => (some (bt127.1, bt127.2)))) = some (r1, r2) := h
  clear h
  replace H := Option.bind_eq_some_iff.mp H
  obtain ⟨t126, A20, H⟩ := H
  replace H : ((goprinter_go_ast_directiveScanner_skip.f s0_0 s0_1 (wrap64 ((s0_0.size : Int) - (t126.size : Int)))).bind fun bt127 => (some (bt127.1, bt127.2))) = some (r1, r2) := H
  have A2 := Aside0.mk A20
  clear A20
  replace H := Option.bind_eq_some_iff.mp H
  obtain ⟨⟨t127, t128⟩, A30, H⟩ := H
  replace H : (some (t127, t128)) = some (r1, r2) := H
  have A3 := Aside0.mk A30
  clear A30
  simp only [Option.some.injEq, Prod.mk.injEq] at H
  obtain ⟨rfl, rfl⟩ := H
  obtain ⟨HGz4, hgz4⟩ := HI0.out
  have hcz4_0 := cellS59_0 HGz4
  have hcz4_1 := cellS59_1 HGz4
  have hfz4_0 := blk_frozen HGz4 0
  have hfz4_1 := blk_frozen HGz4 1
  clear HGz4 hgz4
  go_enter Tryf.func21, Tryf.ntmps21
  go_wp2_with (first | ((with_reducible refine gate_callee (f := 30) rfl ?_); refine goesL_ (some 7) rfl rfl Tryf.func30 (by kernel_rfl) rfl #[.string s0_0, .func (.func 28) #[] #[]] rfl (by (try simp only [List.map_toArray, List.map_cons, List.map_nil]); first | done | rfl | (simp only [List.length_drop, List.length_take]; rfl)) ?_; (with_reducible refine (strings_TrimLeftFunc.calls s0_0 t126 _ (HT.out.below (by repeat (first | (with_reducible first | exact HB.out | apply below_alloc | apply pw_below_drewN | apply below_drew1 | refine below_set ?_ (IsS59.ge HI0.out)) | exact HB.out))) A2.out).mono ?_); rintro e w5 ⟨rfl, hb⟩; refine ⟨_, rfl, ?_⟩; have n0_ := Aside0.mk (IsS59.below (by repeat (first | (with_reducible first | exact HI0.out | apply IsS59.alloc | apply IsS59.drewN | apply IsS59.drew | apply IsS59.set_0 | apply IsS59.set_1) | exact HI0.out)) hb); have n1_ := Aside0.mk (KeepBut.trans (by repeat (first | (with_reducible first | exact HK.out | apply KeepBut.set_ | apply keep_drewN | apply keep_drew | apply keep_alloc) | exact HK.out)) (KeepBut.of_below hb g none) (.inl rfl)); have n2_ := Aside0.mk (below_step (by repeat (first | (with_reducible first | exact HB.out | apply below_alloc | apply pw_below_drewN | apply below_drew1 | refine below_set ?_ (IsS59.ge HI0.out)) | exact HB.out)) hb); clear HI0; clear HK; clear HB; have HI0 := n0_; have HK := n1_; have HB := n2_; clear n0_ n1_ n2_; (try clear hb); (try clear hb2); (try clear hk); (try clear hi); obtain ⟨HGz6, hgz6⟩ := HI0.out; have hcz6_0 := cellS59_0 HGz6; have hcz6_1 := cellS59_1 HGz6; have hfz6_0 := blk_frozen HGz6 0; have hfz6_1 := blk_frozen HGz6 1; clear HGz6 hgz6) | ((with_reducible refine gate_callee (f := 31) rfl ?_); refine goesL_ (some 17) rfl rfl Tryf.func31 (by kernel_rfl) rfl #[.pointer (some ⟨g, 0, none⟩), .int .i64 (wrap64 ((s0_0.size : Int) - (t126.size : Int)))] rfl (by (try simp only [List.map_toArray, List.map_cons, List.map_nil]); first | done | rfl | (simp only [List.length_drop, List.length_take]; rfl)) ?_; (with_reducible refine (goprinter_go_ast_directiveScanner_skip.calls g s0_0 s0_1 (wrap64 ((s0_0.size : Int) - (t126.size : Int))) t127 t128 w0 _ ?side1 ?side2 A3.out).mono ?_); (case side1 => repeat (first | (with_reducible first | exact HI0.out | apply IsS59.alloc | apply IsS59.drewN | apply IsS59.drew | apply IsS59.set_0 | apply IsS59.set_1) | exact HI0.out)); (case side2 => repeat (first | (with_reducible first | exact HB.out | apply below_alloc | apply pw_below_drewN | apply below_drew1 | refine below_set ?_ (IsS59.ge HI0.out)) | exact HB.out)); rintro e w7 ⟨rfl, hi, hb, hk⟩; refine ⟨_, rfl, ?_⟩; have n0_ := Aside0.mk (KeepBut.trans (by repeat (first | (with_reducible first | exact HK.out | apply KeepBut.set_ | apply keep_drewN | apply keep_drew | apply keep_alloc) | exact HK.out)) hk (.inl rfl)); have n1_ := Aside0.mk (hb); have n2_ := Aside0.mk (hi); clear HK; clear HB; clear HI0; have HK := n0_; have HB := n1_; have HI0 := n2_; clear n0_ n1_ n2_; (try clear hb); (try clear hb2); (try clear hk); (try clear hi)))
  first | go_end0 | ((try simp only [Exit.inBlock, Exit.then]); refine bodyPost_ret (results_none rfl _ _ _) rfl ?_)
  exact ⟨by first | rfl | (simp [errW_none, errW_some] <;> rfl) | (simp [*, errW_none, errW_some] <;> rfl), by repeat (first | (with_reducible first | exact HI0.out | apply IsS59.alloc | apply IsS59.drewN | apply IsS59.drew | apply IsS59.set_0 | apply IsS59.set_1) | exact HI0.out), by repeat (first | (with_reducible first | exact HB.out | apply below_alloc | apply pw_below_drewN | apply below_drew1 | refine below_set ?_ (IsS59.ge HI0.out)) | exact HB.out), by repeat (first | (with_reducible first | exact HK.out | apply KeepBut.set_ | apply keep_drewN | apply keep_drew | apply keep_alloc) | exact HK.out)⟩

end Go.Proofs.YtcjiafjahfmdoaaFmt.A
