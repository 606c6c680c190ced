-- Written by programs of these sessions (gprint.py over an edited print, then mkparse.py) out of the kit's print of the translation. Not trusted: Lean checks it.
import Derived.Test.YtcjiafjahfmdoaaFmtA0
import Derived.Test.YtcjiafjahfmdoaaFmtA10
import Derived.Test.YtcjiafjahfmdoaaFmtA18
import Derived.Test.YtcjiafjahfmdoaaFmtGGiv
import Derived.Test.YtcjiafjahfmdoaaFmtGErr
namespace Go.Proofs.YtcjiafjahfmdoaaFmt.A
open Go.RowKit Go.Stop Go.Proofs.YtcjiafjahfmdoaaFmtW.PrintWords Go.Proofs.YtcjiafjahfmdoaaFmtW.PrintLast Go.Proofs.YtcjiafjahfmdoaaFmtW.PrintMore
attribute [local go_sem] max2_int min2_int max_two min_two max_three min_three max_four min_four   -- for this text's walks alone
set_option linter.unusedVariables false
set_option linter.unusedSimpArgs false

theorem info53 : (Tryf.prog.info? 53).map (fun i => (i.zero, i.size, i.bytes)) = some (some (.agg #[(.string ⟨#[]⟩), (.int .i64 0)]), 2, 24) := by kernel_rfl
/-! #### struct type 53 -/
structure S53 where
  f0 : ByteArray
  f1 : Int
def z53 : S53 := ⟨(⟨#[]⟩ : ByteArray), (0 : Int)⟩
def k53 : Kd S53 := Kd.iso (Kd.pair Kd.string (Kd.int .i64)) (fun x : S53 => (x.f0, x.f1))
theorem k53_open {w : World} {x : S53} {cs : List Value} (h : k53.K w x cs) : cs = [.string x.f0, .int .i64 x.f1] := by
  obtain ⟨_, _, rfl, rfl, rfl⟩ := h
  exact rfl
theorem k53_openM {w : World} {base : Nat} {ok : Nat → Prop} {x : S53} {cs : List Value} (h : k53.M w base ok x cs) : cs = [.string x.f0, .int .i64 x.f1] := by
  obtain ⟨_, _, rfl, rfl, rfl⟩ := h
  exact rfl
theorem k53_mk (w : World) (x : S53)  : k53.K w x [.string x.f0, .int .i64 x.f1] := ⟨[.string x.f0], [.int .i64 x.f1], rfl, rfl, rfl⟩
theorem k53_mkM (w : World) (base : Nat) (ok : Nat → Prop) (x : S53)  : k53.M w base ok x [.string x.f0, .int .i64 x.f1] := ⟨[.string x.f0], [.int .i64 x.f1], rfl, rfl, rfl⟩
def rd_T53 (xs : List S53) (i : Int) : S53 := xs.getD i.toNat z53
theorem at_T53 {w : World} {A : Option Addr} {n : Nat} {xs : List S53} (h : Kd.C k53 w A n xs) (i : Int) (h0 : 0 ≤ i) (h1 : i < n) : ∃ ad , A = some ad ∧ w.cell? (ad.add (i.toNat * 2)) = some (.string (rd_T53 xs i).f0) ∧ w.cell? ⟨(ad.add (i.toNat * 2)).block, (ad.add (i.toNat * 2)).off + 1, none⟩ = some (.int .i64 (rd_T53 xs i).f1) := by
  obtain ⟨ad, c, e, _, hK, hc0⟩ := Kd.C_get h z53 i h0 h1
  have hc : ∀ j u, c[j]? = some u → w.cell? (ad.add (i.toNat * 2 + j)) = some u := hc0
  obtain rfl := k53_open hK
  exact ⟨ad, e, hc 0 _ rfl, by rw [← add_field _ _ 1 (by omega)]; exact hc 1 _ rfl⟩

/-- What an error is shown as. -/
def EV : Bool → Value → Prop
  | true, v => ∃ t x, v = .iface t x
  | false, v => v = .nilIface

/-! ### goprinter_go_ast_Directive_ParseArgs: function 18 -/
mutual
noncomputable def goprinter_go_ast_Directive_ParseArgs.l0 : Nat → List (S53) → ByteArray → Int → Option ((List (S53)) × Bool × ByteArray × Int)
  | 0, _, _, _ => none
  | k + 1, x5, x1000, x1001 => if x1000.toList = ([] : List UInt8) then (some (x5, false, x1000, x1001)) else (if 0 < (x1000.size : Int) then (if (bt x1000 0) = 96 then (goprinter_go_ast_Directive_ParseArgs.j1 k x5 x1001 ((bt x1000 0) == 96) x1000 x1001) else (goprinter_go_ast_Directive_ParseArgs.j1 k x5 x1001 ((bt x1000 0) == 34) x1000 x1001)) else (none))
noncomputable def goprinter_go_ast_Directive_ParseArgs.j1 : Nat → List (S53) → Int → Bool → ByteArray → Int → Option ((List (S53)) × Bool × ByteArray × Int)
  | 0, _, _, _, _, _ => none
  | k + 1, x5, x7, x33, x1000, x1001 => if x33 = true then ((strconv_QuotedPrefix.f x1000).bind fun bt203 => (if bt203.2 = true then (some (([] : List (S53)), true, x1000, x1001)) else ((goprinter_go_ast_directiveScanner_take.f x1000 x1001 (bt203.1.size : Int)).bind fun bt205 => ((strconv_Unquote.f bt205.1).bind fun bt208 => (if bt205.2.1.toList = ([] : List UInt8) then (if x5.length < 5864062014805 then ((goprinter_go_ast_directiveScanner_skipSpace.f bt205.2.1 bt205.2.2).bind fun bt213 => (goprinter_go_ast_Directive_ParseArgs.l0 k (x5 ++ [(⟨bt208.1, x7⟩ : S53)]) bt213.1 bt213.2)) else (none)) else ((utf8_DecodeRuneInString.f bt205.2.1).bind fun bt215 => ((unicode_IsSpace.f bt215.1).bind fun t217 => (if t217 = true then (if x5.length < 5864062014805 then ((goprinter_go_ast_directiveScanner_skipSpace.f bt205.2.1 bt205.2.2).bind fun bt221 => (goprinter_go_ast_Directive_ParseArgs.l0 k (x5 ++ [(⟨bt208.1, x7⟩ : S53)]) bt221.1 bt221.2)) else (none)) else (some (([] : List (S53)), true, bt205.2.1, bt205.2.2)))))))))) else ((goprinter_go_ast_directiveScanner_takeNonSpace.f x1000 x1001).bind fun bt223 => (if x5.length < 5864062014805 then ((goprinter_go_ast_directiveScanner_skipSpace.f bt223.2.1 bt223.2.2).bind fun bt229 => (goprinter_go_ast_Directive_ParseArgs.l0 k (x5 ++ [(⟨bt223.1, x7⟩ : S53)]) bt229.1 bt229.2)) else (none)))
end
noncomputable def goprinter_go_ast_Directive_ParseArgs.f (k : Nat) (s0_0 : ByteArray) (s0_1 : Int) : Option ((List (S53)) × Bool × ByteArray × Int) := (goprinter_go_ast_directiveScanner_skipSpace.f s0_0 s0_1).bind fun bt201 => (goprinter_go_ast_Directive_ParseArgs.l0 k (([] : List (S53))) bt201.1 bt201.2)
theorem goprinter_go_ast_Directive_ParseArgs.mono_l : ∀ k, (∀ y0 y1 y2, LeO (goprinter_go_ast_Directive_ParseArgs.l0 k y0 y1 y2) (goprinter_go_ast_Directive_ParseArgs.l0 (k + 1) y0 y1 y2)) ∧ (∀ y0 y1 y2 y3 y4, LeO (goprinter_go_ast_Directive_ParseArgs.j1 k y0 y1 y2 y3 y4) (goprinter_go_ast_Directive_ParseArgs.j1 (k + 1) y0 y1 y2 y3 y4))
  | 0 => ⟨fun _ _ _ r h => by simp [goprinter_go_ast_Directive_ParseArgs.l0] at h, fun _ _ _ _ _ r h => by simp [goprinter_go_ast_Directive_ParseArgs.j1] at h⟩
  | k + 1 => by
    obtain ⟨ih0, ih1⟩ := goprinter_go_ast_Directive_ParseArgs.mono_l k
    refine ⟨?_, ?_⟩
    · intro y0 y1 y2
      unfold goprinter_go_ast_Directive_ParseArgs.l0
      repeat' first
      | (with_reducible exact ih0 _ _ _)
      | (with_reducible exact ih1 _ _ _ _ _)
      | (with_reducible exact LeO.refl _)
      | (with_reducible exact LeO.none _)
      | (with_reducible refine LeO.ite ?_ ?_)
      | (with_reducible refine LeO.bind ?_ (fun _ => ?_))
      | exact ih0 _ _ _
      | exact ih1 _ _ _ _ _
      | exact LeO.none _
      | refine LeO.ite ?_ ?_
      | refine LeO.bind ?_ (fun _ => ?_)
    · intro y0 y1 y2 y3 y4
      unfold goprinter_go_ast_Directive_ParseArgs.j1
      repeat' first
      | (with_reducible exact ih0 _ _ _)
      | (with_reducible exact ih1 _ _ _ _ _)
      | (with_reducible exact LeO.refl _)
      | (with_reducible exact LeO.none _)
      | (with_reducible refine LeO.ite ?_ ?_)
      | (with_reducible refine LeO.bind ?_ (fun _ => ?_))
      | exact ih0 _ _ _
      | exact ih1 _ _ _ _ _
      | exact LeO.none _
      | refine LeO.ite ?_ ?_
      | refine LeO.bind ?_ (fun _ => ?_)
theorem goprinter_go_ast_Directive_ParseArgs.mono : ∀ a0 a1 k, LeO (goprinter_go_ast_Directive_ParseArgs.f k a0 a1) (goprinter_go_ast_Directive_ParseArgs.f (k + 1) a0 a1) := by
  intro a0 a1 k
  obtain ⟨ih0, ih1⟩ := goprinter_go_ast_Directive_ParseArgs.mono_l k
  unfold goprinter_go_ast_Directive_ParseArgs.f
  repeat' first
      | (with_reducible exact ih0 _ _ _)
      | (with_reducible exact ih1 _ _ _ _ _)
      | (with_reducible exact LeO.refl _)
      | (with_reducible exact LeO.none _)
      | (with_reducible refine LeO.ite ?_ ?_)
      | (with_reducible refine LeO.bind ?_ (fun _ => ?_))
      | exact ih0 _ _ _
      | exact ih1 _ _ _ _ _
      | exact LeO.none _
      | refine LeO.ite ?_ ?_
      | refine LeO.bind ?_ (fun _ => ?_)
set_option maxHeartbeats 8000000 in
set_option maxRecDepth 100000 in
theorem goprinter_go_ast_Directive_ParseArgs.calls (F : Interp) (k : Nat) (d : Nat) (T N : ByteArray) (s0_0 : ByteArray) (q s0_1 : Int) (r1 : List (S53)) (r2 : Bool) (r3 : ByteArray) (r4 : Int) (w : World) (hd : w.heap[d]? = some (.cells #[.string T, .string N, .string s0_0, .int .i64 q, .int .i64 s0_1] 46 (0, 0))) (hT : Tabs w) (hF : F.told.answers w.tape) (h : goprinter_go_ast_Directive_ParseArgs.f k s0_0 s0_1 = some (r1, r2, r3, r4)) :
    Calls Tryf.prog 18 #[.pointer (some ⟨d, 0, none⟩)] w fun e w' => ∃ v0_ ev : Value, e = .returned (.tuple #[v0_, ev]) ∧ EV r2 ev ∧ Kd.R k53 53 w' w.heap.size (fun _ => True) v0_ r1 ∧ Below w.heap.size w w' := by
  have hu53 := Tryf.underlying53
  have HD := Aside0.mk (show w.cell? ⟨d, 0, none⟩ = some (.string T) ∧ w.cell? ⟨d, 1, none⟩ = some (.string N) ∧ d < w.heap.size from ⟨(blk_cell hd 0).trans rfl, (blk_cell hd 1).trans rfl, blk_lt hd⟩)
  have hd2 : w.cell? ⟨d, 2, none⟩ = some (.string s0_0) := (blk_cell hd 2).trans rfl
  have hd4 : w.cell? ⟨d, 4, none⟩ = some (.int .i64 s0_1) := (blk_cell hd 4).trans rfl
  have hdf2 := blk_frozen hd 2
  have hdf4 := blk_frozen hd 4
  clear hd
  have HT := Aside0.mk hT
  have HF := Aside0.mk hF
  clear hT hF
  have HI0 := Aside0.mk (IsS59.new w w s0_0 s0_1 (Below.refl _ _))
  have HL := Aside0.mk (Nat.le_refl w.heap.size)
  have HW0 := Aside0.mk (Nat.le_refl w.heap.size)
  have HK := Aside0.mk (KeepBut.refl w w.heap.size none)
  have HB := Aside0.mk (Below.refl w.heap.size w)
  have H : ((goprinter_go_ast_directiveScanner_skipSpace.f s0_0 s0_1).bind fun bt201 => (goprinter_go_ast_Directive_ParseArgs.l0 k (([] : List (S53))) bt201.1 bt201.2)) = some (r1, r2, r3, r4) := h
  clear h
  obtain ⟨y198, hy198⟩ : ∃ y_ : List (S53), y_ = (([] : List (S53))) := ⟨_, rfl⟩
  replace H : ((goprinter_go_ast_directiveScanner_skipSpace.f s0_0 s0_1).bind fun bt201 => (goprinter_go_ast_Directive_ParseArgs.l0 k y198 bt201.1 bt201.2)) = some (r1, r2, r3, r4) := by first | (rw [hy198]; with_reducible exact H) | (have H2_ := (Option.bind_some _ _).symm.trans H; rw [hy198]; with_reducible exact H2_) | (have H2_ := (Option.bind_some _ _).symm.trans H; with_reducible exact H2_) | with_reducible exact H | (rw [hy198]; exact H) | exact H
  have Ny198 := Aside0.mk hy198
  clear hy198
  replace H := Option.bind_eq_some_iff.mp H
  obtain ⟨⟨t201, t202⟩, A20, H⟩ := H
  replace H : (goprinter_go_ast_Directive_ParseArgs.l0 k y198 t201 t202) = some (r1, r2, r3, r4) := H
  have A2 := Aside0.mk A20
  clear A20
  have H' := Aside0.mk H
  clear H
  have HKEEP : Aside0 (∀ W, Below w.heap.size w W → (W.cell? ⟨d, 2, none⟩ = some (.string s0_0) ∧ W.cell? ⟨d, 4, none⟩ = some (.int .i64 s0_1))) := ⟨fun W hb => ⟨(hb.cell (World.block_lt_of_cell? w _ hd2)).trans hd2, (hb.cell (World.block_lt_of_cell? w _ hd4)).trans hd4⟩⟩
  go_enter Tryf.func18, Tryf.ntmps18
  go_wp2
  go_region_held3 (fun W => W.cell? ⟨d, 2, none⟩ = some (.string s0_0) ∧ W.cell? ⟨d, 4, none⟩ = some (.int .i64 s0_1))
    (exact HKEEP.out _ (by repeat (first | exact Below.refl _ _ | apply below_alloc | apply pw_below_drewN | apply below_drew1 | refine below_set ?_ (Nat.le_refl _))))
    (fail)
  rename_i hheld_
  clear hheld_ hd2 hd4 hdf2 hdf4 HKEEP
  go_wp2_with (first | ((with_reducible refine gate_dst (N := 21) rfl ?_); refine Kd.R_lit k53 _ 53 ?hg (N := 21) ?hd (xs := ([] : List (S53))) (inner := []) (ok := fun _ => True) (okp := fun _ => True) ?hr ?hp (fun _ hk => hk) trivial (Below.refl _ _) (Nat.le_refl _) (by simp) ?_; (case hd => rfl); (case hg => rfl); (case hr => first | (go_simp; done) | (go_simp; rfl)); (case hp => exact (Reps.none _ _)); intro v199 w3 ho4 hb hg_ hnew_; clear hg_ hnew_; (first | rw [← Ny198.out] at ho4 | (simp only [Int.reduceToNat] at ho4; rw [← Ny198.out] at ho4)); have n0_ := Aside0.mk (Kd.R_lower ho4 (keep_size (w := w) (g := w.heap.size) (row := none) (by repeat (first | (with_reducible first | exact HK.out | apply KeepBut.set_ | apply keep_drewN | apply keep_drew | apply keep_alloc) | exact HK.out)))); have n1_ := Aside0.mk (IsS59.below (by repeat (first | (with_reducible first | exact HI0.out | apply IsS59.alloc | apply IsS59.drewN | apply IsS59.drew | apply IsS59.set_0 | apply IsS59.set_1) | exact HI0.out)) hb); have n2_ := Aside0.mk (KeepBut.trans (by repeat (first | (with_reducible first | exact HK.out | apply KeepBut.set_ | apply keep_drewN | apply keep_drew | apply keep_alloc) | exact HK.out)) (KeepBut.of_below hb w.heap.size none) (.inl rfl)); have n3_ := Aside0.mk (below_step (by repeat (first | (with_reducible first | exact HB.out | apply below_alloc | apply pw_below_drewN | apply below_drew1 | refine below_set ?_ (IsS59.ge HI0.out)) | exact HB.out)) hb); clear HI0; clear HK; clear HB; have HO200 := n0_; have HI0 := n1_; have HK := n2_; have HB := n3_; clear n0_ n1_ n2_ n3_; clear hb ho4) | ((with_reducible refine gate_callee (f := 21) rfl ?_); refine goesL_ (some 22) rfl rfl Tryf.func21 (by kernel_rfl) rfl #[.pointer (some ⟨w.heap.size, 0, none⟩)] rfl (by (try simp only [List.map_toArray, List.map_cons, List.map_nil]); first | done | rfl | (simp only [List.length_drop, List.length_take]; rfl)) ?_; (with_reducible refine (goprinter_go_ast_directiveScanner_skipSpace.calls w.heap.size s0_0 s0_1 t201 t202 w _ HT.out ?side1 ?side2 A2.out).mono ?_); (case side1 => repeat (first | (with_reducible first | exact HI0.out | apply IsS59.alloc | apply IsS59.drewN | apply IsS59.drew | apply IsS59.set_0 | apply IsS59.set_1) | exact HI0.out)); (case side2 => repeat (first | (with_reducible first | exact HB.out | apply below_alloc | apply pw_below_drewN | apply below_drew1 | refine below_set ?_ (IsS59.ge HI0.out)) | exact HB.out)); rintro e w5 ⟨rfl, hi, hb, hk⟩; refine ⟨_, rfl, ?_⟩; have n0_ := Aside0.mk (Kd.R_mono (Kd.R_keep (IsS59.apart (show IsS59 w _ w.heap.size s0_0 s0_1 from by repeat (first | (with_reducible first | exact HI0.out | apply IsS59.alloc | apply IsS59.drewN | apply IsS59.drew | apply IsS59.set_0 | apply IsS59.set_1) | exact HI0.out)) (by (with_reducible repeat (first | apply Kd.R_alloc | apply Kd.R_drewN | apply Kd.R_drew)); exact HO200.out) (by decide)) hk (fun _ h => h.2)) (fun _ h => h.1)); have n1_ := Aside0.mk (KeepBut.trans (by repeat (first | (with_reducible first | exact HK.out | apply KeepBut.set_ | apply keep_drewN | apply keep_drew | apply keep_alloc) | exact HK.out)) hk (.inl rfl)); have n2_ := Aside0.mk (hb); have n3_ := Aside0.mk (hi); clear HO200; clear HK; clear HB; clear HI0; have HO200 := n0_; have HK := n1_; have HB := n2_; have HI0 := n3_; clear n0_ n1_ n2_ n3_; (try clear hb); (try clear hb2); (try clear hk); (try clear hi)))
  go_simp
  go_loopg [5] k (fun kq v5 w' => ∃ (x5_1 : List (S53)) (t201 : ByteArray) (t202 : Int), Aside0 (goprinter_go_ast_Directive_ParseArgs.l0 kq x5_1 t201 t202 = some (r1, r2, r3, r4)) ∧ Aside0 (kq ≤ k) ∧ Aside0 (Kd.R k53 53 w' w.heap.size (fun _ => True) v5 x5_1) ∧ Aside0 (IsS59 w w' w.heap.size t201 t202) ∧ Aside0 (KeepBut w w' w.heap.size none) ∧ Aside0 (Below w.heap.size w w'))
  case atStart => exact ⟨(y198), t201, t202, H', ⟨Nat.le_refl _⟩, ⟨by (with_reducible repeat (first | apply Kd.R_alloc | apply Kd.R_drewN | apply Kd.R_drew)); exact HO200.out⟩, ⟨by repeat (first | (with_reducible first | exact HI0.out | apply IsS59.alloc | apply IsS59.drewN | apply IsS59.drew | apply IsS59.set_0 | apply IsS59.set_1) | exact HI0.out)⟩, ⟨by repeat (first | (with_reducible first | exact HK.out | apply KeepBut.set_ | apply keep_drewN | apply keep_drew | apply keep_alloc) | exact HK.out)⟩, ⟨by repeat (first | (with_reducible first | exact HB.out | apply below_alloc | apply pw_below_drewN | apply below_drew1 | refine below_set ?_ (IsS59.ge HI0.out)) | exact HB.out)⟩⟩
  case round =>
    clear H'
    try clear c1
    try clear c2
    try clear p2
    obtain ⟨x5_1, t201, t202, HA, HK1, HO_5, HI0, HK, HB⟩ := hrel
    cases gk with
    | zero => exact absurd HA.out (by simp [goprinter_go_ast_Directive_ParseArgs.l0])
    | succ k1 =>
      have H := HA.out
      clear HA
      simp only [goprinter_go_ast_Directive_ParseArgs.l0] at H
      by_cases c6 : t201.toList = ([] : List UInt8)
      · rw [if_pos c6] at H
        have c6b0 : (t201.toList == ([] : List UInt8)) = true := beq_iff_eq.mpr c6
        have c6b1 : (t201.toList != ([] : List UInt8)) = false := bne_eq_false_iff_eq.mpr c6
        clear c6
        simp only [Option.some.injEq, Prod.mk.injEq] at H
        obtain ⟨rfl, rfl, rfl, rfl⟩ := H
        obtain ⟨HGz7, hgz7⟩ := HI0.out
        have hcz7_0 := cellS59_0 HGz7
        have hcz7_1 := cellS59_1 HGz7
        have hfz7_0 := blk_frozen HGz7 0
        have hfz7_1 := blk_frozen HGz7 1
        clear HGz7 hgz7
        go_wp2
        go_ret2
        exact ⟨_, _, by first | rfl | (simp [errW_none, errW_some] <;> rfl) | (simp [*, errW_none, errW_some] <;> rfl), rfl, by (with_reducible repeat (first | apply Kd.R_alloc | apply Kd.R_drewN | apply Kd.R_drew)); exact HO_5.out, by repeat (first | (with_reducible first | exact HB.out | apply below_alloc | apply pw_below_drewN | apply below_drew1 | refine below_set ?_ (IsS59.ge HI0.out)) | exact HB.out)⟩
      · rw [if_neg c6] at H
        have c6b0 : (t201.toList == ([] : List UInt8)) = false := beq_eq_false_iff_ne.mpr c6
        have c6b1 : (t201.toList != ([] : List UInt8)) = true := bne_iff_ne.mpr c6
        by_cases c8 : 0 < (t201.size : Int)
        · rw [if_pos c8] at H
          have c8b0 : decide (0 < (t201.size : Int)) = true := decide_eq_true c8
          have c8b1 : decide (0 < t201.size) = true := decide_eq_true (by omega)
          clear c8
          have HC10 := Aside0.mk H
          clear H
          obtain ⟨HGz11, hgz11⟩ := HI0.out
          have hcz11_0 := cellS59_0 HGz11
          have hcz11_1 := cellS59_1 HGz11
          have hfz11_0 := blk_frozen HGz11 0
          have hfz11_1 := blk_frozen HGz11 1
          clear HGz11 hgz11
          have p9 : 0 ≤ (0 : Int) := (by omega)
          have q9 : 0 < t201.size := (by have : (0 : Int) < (t201.size : Int) := of_decide_eq_true (by first | (with_reducible assumption) | assumption); omega)
          have hx9 : ∀ h : 0 < t201.size, ((t201[0]'h).toNat : Int) = bt t201 0 := bt_at t201 0
          clear p9
          have qi9 : (0 < (t201.size : Int)) = True := eq_true (of_decide_eq_true (by first | (with_reducible assumption) | assumption))
          replace q9 := eq_true q9
          go_upto_if 33 with (fail)
          go_cut [33] (fun v33 wc => ∃ (kq : Nat) (x33_9 : Bool), v33 = .bool x33_9 ∧ Aside0 (goprinter_go_ast_Directive_ParseArgs.j1 kq x5_1 t202 x33_9 t201 t202 = some (r1, r2, r3, r4)) ∧ Aside0 (kq ≤ k1) ∧ Aside0 (Kd.R k53 53 wc w.heap.size (fun _ => True) u5 x5_1) ∧ Aside0 (IsS59 w wc w.heap.size t201 t202) ∧ Aside0 (KeepBut w wc w.heap.size none) ∧ Aside0 (Below w.heap.size w wc))
          case first =>
            have H := HC10.out
            clear HC10
            by_cases c12 : (bt t201 0) = 96
            · rw [if_pos c12] at H
              have c12b0 : ((bt t201 0) == 96) = true := beq_iff_eq.mpr c12
              have c12b1 : ((bt t201 0) != 96) = false := bne_eq_false_iff_eq.mpr c12
              clear c12
              (first | rw [c12b0] | (simp only [i64_w, i32_w]; rw [c12b0]) | skip)
              have H' := Aside0.mk H
              clear H
              go_wp2
              go_meet
              case rel => exact ⟨_, (((bt t201 0) == 96)), (by first | rfl | (simp; done) | (simp [*]; done)), H', ⟨by have := HK1.out; first | omega | exact Nat.le_refl _⟩, ⟨by (with_reducible repeat (first | apply Kd.R_alloc | apply Kd.R_drewN | apply Kd.R_drew)); exact HO_5.out⟩, ⟨by repeat (first | (with_reducible first | exact HI0.out | apply IsS59.alloc | apply IsS59.drewN | apply IsS59.drew | apply IsS59.set_0 | apply IsS59.set_1) | exact HI0.out)⟩, ⟨by repeat (first | (with_reducible first | exact HK.out | apply KeepBut.set_ | apply keep_drewN | apply keep_drew | apply keep_alloc) | exact HK.out)⟩, ⟨by repeat (first | (with_reducible first | exact HB.out | apply below_alloc | apply pw_below_drewN | apply below_drew1 | refine below_set ?_ (IsS59.ge HI0.out)) | exact HB.out)⟩⟩
            · rw [if_neg c12] at H
              have c12b0 : ((bt t201 0) == 96) = false := beq_eq_false_iff_ne.mpr c12
              have c12b1 : ((bt t201 0) != 96) = true := bne_iff_ne.mpr c12
              (first | rw [c12b0] | (simp only [i64_w, i32_w]; rw [c12b0]) | skip)
              have H' := Aside0.mk H
              clear H
              go_wp2
              go_meet
              case rel => exact ⟨_, (((bt t201 0) == 34)), (by first | rfl | (simp; done) | (simp [*]; done)), H', ⟨by have := HK1.out; first | omega | exact Nat.le_refl _⟩, ⟨by (with_reducible repeat (first | apply Kd.R_alloc | apply Kd.R_drewN | apply Kd.R_drew)); exact HO_5.out⟩, ⟨by repeat (first | (with_reducible first | exact HI0.out | apply IsS59.alloc | apply IsS59.drewN | apply IsS59.drew | apply IsS59.set_0 | apply IsS59.set_1) | exact HI0.out)⟩, ⟨by repeat (first | (with_reducible first | exact HK.out | apply KeepBut.set_ | apply keep_drewN | apply keep_drew | apply keep_alloc) | exact HK.out)⟩, ⟨by repeat (first | (with_reducible first | exact HB.out | apply below_alloc | apply pw_below_drewN | apply below_drew1 | refine below_set ?_ (IsS59.ge HI0.out)) | exact HB.out)⟩⟩
          case rest =>
            clear HC10
            try clear c1
            try clear c2
            try clear p2
            try clear c6
            try clear c6b0
            try clear c6b1
            try clear c8
            try clear c8b0
            try clear c8b1
            try clear p9
            try clear q9
            try clear hx9
            try clear qi9
            try clear c12
            try clear c12b0
            try clear c12b1
            try clear hcz11_0
            try clear hcz11_1
            try clear hcz7_0
            try clear hcz7_1
            try clear hfz11_0
            try clear hfz11_1
            try clear hfz7_0
            try clear hfz7_1
            try clear p2
            try clear p9
            try clear q9
            obtain ⟨kq, x33_9, rfl, HA, HJ9, HO_5, HI0, HK, HB⟩ := hcut
            cases kq with
            | zero => exact absurd HA.out (by simp [goprinter_go_ast_Directive_ParseArgs.j1])
            | succ kj9 =>
              have H := HA.out
              clear HA
              simp only [goprinter_go_ast_Directive_ParseArgs.j1] at H
              by_cases c13 : x33_9 = true
              · subst c13
                have H1 : ((strconv_QuotedPrefix.f t201).bind fun bt203 => (if bt203.2 = true then (some (([] : List (S53)), true, t201, t202)) else ((goprinter_go_ast_directiveScanner_take.f t201 t202 (bt203.1.size : Int)).bind fun bt205 => ((strconv_Unquote.f bt205.1).bind fun bt208 => (if bt205.2.1.toList = ([] : List UInt8) then (if x5_1.length < 5864062014805 then ((goprinter_go_ast_directiveScanner_skipSpace.f bt205.2.1 bt205.2.2).bind fun bt213 => (goprinter_go_ast_Directive_ParseArgs.l0 kj9 (x5_1 ++ [(⟨bt208.1, t202⟩ : S53)]) bt213.1 bt213.2)) else (none)) else ((utf8_DecodeRuneInString.f bt205.2.1).bind fun bt215 => ((unicode_IsSpace.f bt215.1).bind fun t217 => (if t217 = true then (if x5_1.length < 5864062014805 then ((goprinter_go_ast_directiveScanner_skipSpace.f bt205.2.1 bt205.2.2).bind fun bt221 => (goprinter_go_ast_Directive_ParseArgs.l0 kj9 (x5_1 ++ [(⟨bt208.1, t202⟩ : S53)]) bt221.1 bt221.2)) else (none)) else (some (([] : List (S53)), true, bt205.2.1, bt205.2.2)))))))))) = some (r1, r2, r3, r4) := by rw [if_pos rfl] at H; exact H
                clear H
                have H := H1
                clear H1
                replace H := Option.bind_eq_some_iff.mp H
                obtain ⟨⟨t203, t204⟩, A140, H⟩ := H
                replace H : (if t204 = true then (some (([] : List (S53)), true, t201, t202)) else ((goprinter_go_ast_directiveScanner_take.f t201 t202 (t203.size : Int)).bind fun bt205 => ((strconv_Unquote.f bt205.1).bind fun bt208 => (if bt205.2.1.toList = ([] : List UInt8) then (if x5_1.length < 5864062014805 then ((goprinter_go_ast_directiveScanner_skipSpace.f bt205.2.1 bt205.2.2).bind fun bt213 => (goprinter_go_ast_Directive_ParseArgs.l0 kj9 (x5_1 ++ [(⟨bt208.1, t202⟩ : S53)]) bt213.1 bt213.2)) else (none)) else ((utf8_DecodeRuneInString.f bt205.2.1).bind fun bt215 => ((unicode_IsSpace.f bt215.1).bind fun t217 => (if t217 = true then (if x5_1.length < 5864062014805 then ((goprinter_go_ast_directiveScanner_skipSpace.f bt205.2.1 bt205.2.2).bind fun bt221 => (goprinter_go_ast_Directive_ParseArgs.l0 kj9 (x5_1 ++ [(⟨bt208.1, t202⟩ : S53)]) bt221.1 bt221.2)) else (none)) else (some (([] : List (S53)), true, bt205.2.1, bt205.2.2))))))))) = some (r1, r2, r3, r4) := H
                have A14 := Aside0.mk A140
                clear A140
                by_cases c15 : t204 = true
                · subst c15
                  have H1 : (some (([] : List (S53)), true, t201, t202)) = some (r1, r2, r3, r4) := by rw [if_pos rfl] at H; exact H
                  clear H
                  have H := H1
                  clear H1
                  simp only [Option.some.injEq, Prod.mk.injEq] at H
                  obtain ⟨rfl, rfl, rfl, rfl⟩ := H
                  obtain ⟨HGz16, hgz16⟩ := HI0.out
                  have hcz16_0 := cellS59_0 HGz16
                  have hcz16_1 := cellS59_1 HGz16
                  have hfz16_0 := blk_frozen HGz16 0
                  have hfz16_1 := blk_frozen HGz16 1
                  clear HGz16 hgz16
                  go_wp2_with (first | ((with_reducible refine gate_callee (f := 23) rfl ?_); refine goesL_ (some 39) rfl rfl Tryf.func23 (by kernel_rfl) rfl #[.string t201] rfl (by (try simp only [List.map_toArray, List.map_cons, List.map_nil]); first | done | rfl | (simp only [List.length_drop, List.length_take]; rfl)) ?_; (with_reducible refine (strconv_QuotedPrefix.calls1 t201 t203 _ (HT.out.below (by repeat (first | (with_reducible first | exact HB.out | apply below_alloc | apply pw_below_drewN | apply below_drew1 | refine below_set ?_ (IsS59.ge HI0.out)) | exact HB.out))) A14.out).mono ?_); rintro e w17 ⟨⟨pe_, rfl⟩, hb⟩; refine ⟨_, rfl, ?_⟩; have n0_ := Aside0.mk (Kd.R_below (by (with_reducible repeat (first | apply Kd.R_alloc | apply Kd.R_drewN | apply Kd.R_drew)); exact HO_5.out) hb); have n1_ := Aside0.mk (IsS59.below (by repeat (first | (with_reducible first | exact HI0.out | apply IsS59.alloc | apply IsS59.drewN | apply IsS59.drew | apply IsS59.set_0 | apply IsS59.set_1) | exact HI0.out)) hb); have n2_ := Aside0.mk (KeepBut.trans (by repeat (first | (with_reducible first | exact HK.out | apply KeepBut.set_ | apply keep_drewN | apply keep_drew | apply keep_alloc) | exact HK.out)) (KeepBut.of_below hb w.heap.size none) (.inl rfl)); have n3_ := Aside0.mk (below_step (by repeat (first | (with_reducible first | exact HB.out | apply below_alloc | apply pw_below_drewN | apply below_drew1 | refine below_set ?_ (IsS59.ge HI0.out)) | exact HB.out)) hb); clear HO_5; clear HI0; clear HK; clear HB; have HO_5 := n0_; have HI0 := n1_; have HK := n2_; have HB := n3_; clear n0_ n1_ n2_ n3_; (try clear hb); (try clear hb2); (try clear hk); (try clear hi)))
                  have hd0_ := (HB.out.cell (p := ⟨d, 0, none⟩) HD.out.2.2).trans HD.out.1
                  have hd1_ := (HB.out.cell (p := ⟨d, 1, none⟩) HD.out.2.2).trans HD.out.2.1
                  have hs0_ := cellS59_0 HI0.out.1
                  have HKEEP2 : Aside0 (∀ W, Below w17.heap.size w17 W → (W.cell? ⟨d, 0, none⟩ = some (.string T) ∧ W.cell? ⟨d, 1, none⟩ = some (.string N) ∧ W.cell? ⟨w.heap.size, 0, none⟩ = some (.string t201))) := ⟨fun W hb => ⟨(hb.cell (World.block_lt_of_cell? _ _ hd0_)).trans hd0_, (hb.cell (World.block_lt_of_cell? _ _ hd1_)).trans hd1_, (hb.cell (World.block_lt_of_cell? _ _ hs0_)).trans hs0_⟩⟩
                  go_region_held3 (fun W => W.cell? ⟨d, 0, none⟩ = some (.string T) ∧ W.cell? ⟨d, 1, none⟩ = some (.string N) ∧ W.cell? ⟨w.heap.size, 0, none⟩ = some (.string t201))
                    (first | exact HKEEP2.out _ HX.out | exact HKEEP2.out _ (by repeat (first | exact Below.refl _ _ | apply below_alloc | apply pw_below_drewN | apply below_drew1)))
                    ((go_at_call 24; refine (errorf_any F T N t201 _ _ ?ha ?hb0 ?hb1 ?hb2).mono ?_; (case ha => exact (show ∀ W, Below w.heap.size w W → F.told.answers W.tape from fun W h => by rw [h.tape]; exact HF.out) _ (by repeat (first | exact HB.out | apply below_alloc | apply pw_below_drewN | apply below_drew1))); (case hb0 => simp); (case hb1 => simp); (case hb2 => simp); rintro e w99 ⟨⟨t_, x_, rfl⟩, hb⟩; have HX := Aside0.mk (below_step (show Below w17.heap.size w17 _ by repeat (first | exact Below.refl _ _ | apply below_alloc | apply pw_below_drewN | apply below_drew1)) hb); clear hb))
                  all_goals
                    go_wp2
                    go_ret2
                    exact ⟨_, _, rfl, ⟨_, _, rfl⟩, Kd.R_nil _ _ _ _ _, by repeat (first | exact below_step HB.out HX.out | apply below_alloc | apply pw_below_drewN | apply below_drew1)⟩
                · replace c15 := Bool.eq_false_iff.mpr c15
                  subst c15
                  have H1 : ((goprinter_go_ast_directiveScanner_take.f t201 t202 (t203.size : Int)).bind fun bt205 => ((strconv_Unquote.f bt205.1).bind fun bt208 => (if bt205.2.1.toList = ([] : List UInt8) then (if x5_1.length < 5864062014805 then ((goprinter_go_ast_directiveScanner_skipSpace.f bt205.2.1 bt205.2.2).bind fun bt213 => (goprinter_go_ast_Directive_ParseArgs.l0 kj9 (x5_1 ++ [(⟨bt208.1, t202⟩ : S53)]) bt213.1 bt213.2)) else (none)) else ((utf8_DecodeRuneInString.f bt205.2.1).bind fun bt215 => ((unicode_IsSpace.f bt215.1).bind fun t217 => (if t217 = true then (if x5_1.length < 5864062014805 then ((goprinter_go_ast_directiveScanner_skipSpace.f bt205.2.1 bt205.2.2).bind fun bt221 => (goprinter_go_ast_Directive_ParseArgs.l0 kj9 (x5_1 ++ [(⟨bt208.1, t202⟩ : S53)]) bt221.1 bt221.2)) else (none)) else (some (([] : List (S53)), true, bt205.2.1, bt205.2.2)))))))) = some (r1, r2, r3, r4) := by rw [if_neg (show ¬ (false = true) by decide)] at H; exact H
                  clear H
                  have H := H1
                  clear H1
                  replace H := Option.bind_eq_some_iff.mp H
                  obtain ⟨⟨t205, t206, t207⟩, A180, H⟩ := H
                  replace H : ((strconv_Unquote.f t205).bind fun bt208 => (if t206.toList = ([] : List UInt8) then (if x5_1.length < 5864062014805 then ((goprinter_go_ast_directiveScanner_skipSpace.f t206 t207).bind fun bt213 => (goprinter_go_ast_Directive_ParseArgs.l0 kj9 (x5_1 ++ [(⟨bt208.1, t202⟩ : S53)]) bt213.1 bt213.2)) else (none)) else ((utf8_DecodeRuneInString.f t206).bind fun bt215 => ((unicode_IsSpace.f bt215.1).bind fun t217 => (if t217 = true then (if x5_1.length < 5864062014805 then ((goprinter_go_ast_directiveScanner_skipSpace.f t206 t207).bind fun bt221 => (goprinter_go_ast_Directive_ParseArgs.l0 kj9 (x5_1 ++ [(⟨bt208.1, t202⟩ : S53)]) bt221.1 bt221.2)) else (none)) else (some (([] : List (S53)), true, t206, t207))))))) = some (r1, r2, r3, r4) := H
                  have A18 := Aside0.mk A180
                  clear A180
                  replace H := Option.bind_eq_some_iff.mp H
                  obtain ⟨⟨t208, t209⟩, A190, H⟩ := H
                  replace H : (if t206.toList = ([] : List UInt8) then (if x5_1.length < 5864062014805 then ((goprinter_go_ast_directiveScanner_skipSpace.f t206 t207).bind fun bt213 => (goprinter_go_ast_Directive_ParseArgs.l0 kj9 (x5_1 ++ [(⟨t208, t202⟩ : S53)]) bt213.1 bt213.2)) else (none)) else ((utf8_DecodeRuneInString.f t206).bind fun bt215 => ((unicode_IsSpace.f bt215.1).bind fun t217 => (if t217 = true then (if x5_1.length < 5864062014805 then ((goprinter_go_ast_directiveScanner_skipSpace.f t206 t207).bind fun bt221 => (goprinter_go_ast_Directive_ParseArgs.l0 kj9 (x5_1 ++ [(⟨t208, t202⟩ : S53)]) bt221.1 bt221.2)) else (none)) else (some (([] : List (S53)), true, t206, t207)))))) = some (r1, r2, r3, r4) := H
                  have A19 := Aside0.mk A190
                  clear A190
                  by_cases c20 : t206.toList = ([] : List UInt8)
                  · rw [if_pos c20] at H
                    have c20b0 : (t206.toList == ([] : List UInt8)) = true := beq_iff_eq.mpr c20
                    have c20b1 : (t206.toList != ([] : List UInt8)) = false := bne_eq_false_iff_eq.mpr c20
                    clear c20
                    by_cases c21 : x5_1.length < 5864062014805
                    · rw [if_pos c21] at H
                      have LMc21 := Aside0.mk c21
                      clear c21
                      obtain ⟨y210, hy210⟩ : ∃ y_ : List (S53), y_ = (x5_1 ++ [(⟨t208, t202⟩ : S53)]) := ⟨_, rfl⟩
                      replace H : ((goprinter_go_ast_directiveScanner_skipSpace.f t206 t207).bind fun bt213 => (goprinter_go_ast_Directive_ParseArgs.l0 kj9 y210 bt213.1 bt213.2)) = some (r1, r2, r3, r4) := by first | (rw [hy210]; with_reducible exact H) | (have H2_ := (Option.bind_some _ _).symm.trans H; rw [hy210]; with_reducible exact H2_) | (have H2_ := (Option.bind_some _ _).symm.trans H; with_reducible exact H2_) | with_reducible exact H | (rw [hy210]; exact H) | exact H
                      have Ny210 := Aside0.mk hy210
                      clear hy210
                      replace H := Option.bind_eq_some_iff.mp H
                      obtain ⟨⟨t213, t214⟩, A220, H⟩ := H
                      replace H : (goprinter_go_ast_Directive_ParseArgs.l0 kj9 y210 t213 t214) = some (r1, r2, r3, r4) := H
                      have A22 := Aside0.mk A220
                      clear A220
                      have H' := Aside0.mk H
                      clear H
                      obtain ⟨HGz23, hgz23⟩ := HI0.out
                      have hcz23_0 := cellS59_0 HGz23
                      have hcz23_1 := cellS59_1 HGz23
                      have hfz23_0 := blk_frozen HGz23 0
                      have hfz23_1 := blk_frozen HGz23 1
                      clear HGz23 hgz23
                      go_wp2_with (first | ((with_reducible refine gate_callee (f := 23) rfl ?_); refine goesL_ (some 39) rfl rfl Tryf.func23 (by kernel_rfl) rfl #[.string t201] rfl (by (try simp only [List.map_toArray, List.map_cons, List.map_nil]); first | done | rfl | (simp only [List.length_drop, List.length_take]; rfl)) ?_; (with_reducible refine (strconv_QuotedPrefix.calls0 t201 t203 _ (HT.out.below (by repeat (first | (with_reducible first | exact HB.out | apply below_alloc | apply pw_below_drewN | apply below_drew1 | refine below_set ?_ (IsS59.ge HI0.out)) | exact HB.out))) A14.out).mono ?_); rintro e w24 ⟨rfl, hb⟩; refine ⟨_, rfl, ?_⟩; have n0_ := Aside0.mk (Kd.R_below (by (with_reducible repeat (first | apply Kd.R_alloc | apply Kd.R_drewN | apply Kd.R_drew)); exact HO_5.out) hb); have n1_ := Aside0.mk (IsS59.below (by repeat (first | (with_reducible first | exact HI0.out | apply IsS59.alloc | apply IsS59.drewN | apply IsS59.drew | apply IsS59.set_0 | apply IsS59.set_1) | exact HI0.out)) hb); have n2_ := Aside0.mk (KeepBut.trans (by repeat (first | (with_reducible first | exact HK.out | apply KeepBut.set_ | apply keep_drewN | apply keep_drew | apply keep_alloc) | exact HK.out)) (KeepBut.of_below hb w.heap.size none) (.inl rfl)); have n3_ := Aside0.mk (below_step (by repeat (first | (with_reducible first | exact HB.out | apply below_alloc | apply pw_below_drewN | apply below_drew1 | refine below_set ?_ (IsS59.ge HI0.out)) | exact HB.out)) hb); clear HO_5; clear HI0; clear HK; clear HB; have HO_5 := n0_; have HI0 := n1_; have HK := n2_; have HB := n3_; clear n0_ n1_ n2_ n3_; (try clear hb); (try clear hb2); (try clear hk); (try clear hi)) | ((with_reducible refine gate_callee (f := 26) rfl ?_); refine goesL_ (some 62) rfl rfl Tryf.func26 (by kernel_rfl) rfl #[.pointer (some ⟨w.heap.size, 0, none⟩), .int .i64 (t203.size : Int)] rfl (by (try simp only [List.map_toArray, List.map_cons, List.map_nil]); first | done | rfl | (simp only [List.length_drop, List.length_take]; rfl)) ?_; (with_reducible refine (goprinter_go_ast_directiveScanner_take.calls w.heap.size t201 t202 (t203.size : Int) t205 t206 t207 w _ ?side1 ?side2 A18.out).mono ?_); (case side1 => repeat (first | (with_reducible first | exact HI0.out | apply IsS59.alloc | apply IsS59.drewN | apply IsS59.drew | apply IsS59.set_0 | apply IsS59.set_1) | exact HI0.out)); (case side2 => repeat (first | (with_reducible first | exact HB.out | apply below_alloc | apply pw_below_drewN | apply below_drew1 | refine below_set ?_ (IsS59.ge HI0.out)) | exact HB.out)); rintro e w25 ⟨rfl, hi, hb, hk⟩; refine ⟨_, rfl, ?_⟩; have n0_ := Aside0.mk (Kd.R_mono (Kd.R_keep (IsS59.apart (show IsS59 w _ w.heap.size t201 t202 from by repeat (first | (with_reducible first | exact HI0.out | apply IsS59.alloc | apply IsS59.drewN | apply IsS59.drew | apply IsS59.set_0 | apply IsS59.set_1) | exact HI0.out)) (by (with_reducible repeat (first | apply Kd.R_alloc | apply Kd.R_drewN | apply Kd.R_drew)); exact HO_5.out) (by decide)) hk (fun _ h => h.2)) (fun _ h => h.1)); have n1_ := Aside0.mk (KeepBut.trans (by repeat (first | (with_reducible first | exact HK.out | apply KeepBut.set_ | apply keep_drewN | apply keep_drew | apply keep_alloc) | exact HK.out)) hk (.inl rfl)); have n2_ := Aside0.mk (hb); have n3_ := Aside0.mk (hi); clear HO_5; clear HK; clear HB; clear HI0; have HO_5 := n0_; have HK := n1_; have HB := n2_; have HI0 := n3_; clear n0_ n1_ n2_ n3_; (try clear hb); (try clear hb2); (try clear hk); (try clear hi)) | ((with_reducible refine gate_callee (f := 25) rfl ?_); refine goesL_ (some 63) rfl rfl Tryf.func25 (by kernel_rfl) rfl #[.string t205] rfl (by (try simp only [List.map_toArray, List.map_cons, List.map_nil]); first | done | rfl | (simp only [List.length_drop, List.length_take]; rfl)) ?_; (with_reducible refine (strconv_Unquote.calls t205 t208 t209 _ (HT.out.below (by repeat (first | (with_reducible first | exact HB.out | apply below_alloc | apply pw_below_drewN | apply below_drew1 | refine below_set ?_ (IsS59.ge HI0.out)) | exact HB.out))) A19.out).mono ?_); rintro e w26 ⟨rfl, hb⟩; refine ⟨_, rfl, ?_⟩; have n0_ := Aside0.mk (Kd.R_below (by (with_reducible repeat (first | apply Kd.R_alloc | apply Kd.R_drewN | apply Kd.R_drew)); exact HO_5.out) hb); have n1_ := Aside0.mk (IsS59.below (by repeat (first | (with_reducible first | exact HI0.out | apply IsS59.alloc | apply IsS59.drewN | apply IsS59.drew | apply IsS59.set_0 | apply IsS59.set_1) | exact HI0.out)) hb); have n2_ := Aside0.mk (KeepBut.trans (by repeat (first | (with_reducible first | exact HK.out | apply KeepBut.set_ | apply keep_drewN | apply keep_drew | apply keep_alloc) | exact HK.out)) (KeepBut.of_below hb w.heap.size none) (.inl rfl)); have n3_ := Aside0.mk (below_step (by repeat (first | (with_reducible first | exact HB.out | apply below_alloc | apply pw_below_drewN | apply below_drew1 | refine below_set ?_ (IsS59.ge HI0.out)) | exact HB.out)) hb); clear HO_5; clear HI0; clear HK; clear HB; have HO_5 := n0_; have HI0 := n1_; have HK := n2_; have HB := n3_; clear n0_ n1_ n2_ n3_; (try clear hb); (try clear hb2); (try clear hk); (try clear hi); obtain ⟨HGz27, hgz27⟩ := HI0.out; have hcz27_0 := cellS59_0 HGz27; have hcz27_1 := cellS59_1 HGz27; have hfz27_0 := blk_frozen HGz27 0; have hfz27_1 := blk_frozen HGz27 1; clear HGz27 hgz27) | ((with_reducible refine gate_builtin (b := .append) (xs := #[.tmp 93, .tmp 97]) rfl ?_); at_builtin; refine Kd.R_append k53 w.heap.size rfl (.tmp 93) (.tmp 97) 47 53 (.agg #[(.string ⟨#[]⟩), (.int .i64 0)]) 24 rfl Tryf.underlying47 info53 rfl (by decide) (by omega) u5 x5_1 (⟨t208, t202⟩ : S53) [.string t208, .int .i64 t202] (fun _ => True) (fun _ => False) rfl rfl ?aP (fun _ hk => hk.elim) ?aF ?aO (Below.refl _ _) ?aS ?aL ?_; (case aP => exact k53_mkM _ _ _ (⟨t208, t202⟩ : S53)); (case aF => exact (fun _ _ => trivial)); (case aO => exact (by (with_reducible repeat (first | apply Kd.R_alloc | apply Kd.R_drewN | apply Kd.R_drew)); exact HO_5.out)); (case aS => exact (keep_size (w := w) (g := w.heap.size) (row := none) (by repeat (first | (with_reducible first | exact HK.out | apply KeepBut.set_ | apply keep_drewN | apply keep_drew | apply keep_alloc) | exact HK.out)))); (case aL => have := LMc21.out; omega); intro v211 w28 ho hb hg hat; rw [← Ny210.out] at ho; have n0_ := Aside0.mk (IsS59.grown (by repeat (first | (with_reducible first | exact HI0.out | apply IsS59.alloc | apply IsS59.drewN | apply IsS59.drew | apply IsS59.set_0 | apply IsS59.set_1) | exact HI0.out)) hg (IsS59.own_ne HI0.out HO_5.out (by decide))); have n1_ := Aside0.mk (below_weaken (by repeat (first | (with_reducible first | exact HB.out | apply below_alloc | apply pw_below_drewN | apply below_drew1 | refine below_set ?_ (IsS59.ge HI0.out)) | exact HB.out)) HL.out hb); have n2_ := Aside0.mk (KeepBut.trans (by repeat (first | (with_reducible first | exact HK.out | apply KeepBut.set_ | apply keep_drewN | apply keep_drew | apply keep_alloc) | exact HK.out)) (KeepBut.of_grown hg w.heap.size) (Kd.R_base2 HO_5.out)); have n3_ := Aside0.mk (ho); clear HI0; clear HB; clear HK; clear HO_5; have HI0 := n0_; have HB := n1_; have HK := n2_; have HO212 := n3_; clear n0_ n1_ n2_ n3_; clear ho hb hg hat) | ((with_reducible refine gate_callee (f := 21) rfl ?_); refine goesL_ (some 26) rfl rfl Tryf.func21 (by kernel_rfl) rfl #[.pointer (some ⟨w.heap.size, 0, none⟩)] rfl (by (try simp only [List.map_toArray, List.map_cons, List.map_nil]); first | done | rfl | (simp only [List.length_drop, List.length_take]; rfl)) ?_; (with_reducible refine (goprinter_go_ast_directiveScanner_skipSpace.calls w.heap.size t206 t207 t213 t214 w _ HT.out ?side1 ?side2 A22.out).mono ?_); (case side1 => repeat (first | (with_reducible first | exact HI0.out | apply IsS59.alloc | apply IsS59.drewN | apply IsS59.drew | apply IsS59.set_0 | apply IsS59.set_1) | exact HI0.out)); (case side2 => repeat (first | (with_reducible first | exact HB.out | apply below_alloc | apply pw_below_drewN | apply below_drew1 | refine below_set ?_ (IsS59.ge HI0.out)) | exact HB.out)); rintro e w29 ⟨rfl, hi, hb, hk⟩; refine ⟨_, rfl, ?_⟩; have n0_ := Aside0.mk (Kd.R_mono (Kd.R_keep (IsS59.apart (show IsS59 w _ w.heap.size t206 t207 from by repeat (first | (with_reducible first | exact HI0.out | apply IsS59.alloc | apply IsS59.drewN | apply IsS59.drew | apply IsS59.set_0 | apply IsS59.set_1) | exact HI0.out)) (by (with_reducible repeat (first | apply Kd.R_alloc | apply Kd.R_drewN | apply Kd.R_drew)); exact HO212.out) (by decide)) hk (fun _ h => h.2)) (fun _ h => h.1)); have n1_ := Aside0.mk (KeepBut.trans (by repeat (first | (with_reducible first | exact HK.out | apply KeepBut.set_ | apply keep_drewN | apply keep_drew | apply keep_alloc) | exact HK.out)) hk (.inl rfl)); have n2_ := Aside0.mk (hb); have n3_ := Aside0.mk (hi); clear HO212; clear HK; clear HB; clear HI0; have HO212 := n0_; have HK := n1_; have HB := n2_; have HI0 := n3_; clear n0_ n1_ n2_ n3_; (try clear hb); (try clear hb2); (try clear hk); (try clear hi)))
                      go_roundg kj9
                      case measure => have := HK1.out; have := HJ9.out; omega
                      case rel => exact ⟨(y210), _, _, H', ⟨by have := HK1.out; have := HJ9.out; omega⟩, ⟨by (with_reducible repeat (first | apply Kd.R_alloc | apply Kd.R_drewN | apply Kd.R_drew)); exact HO212.out⟩, ⟨by repeat (first | (with_reducible first | exact HI0.out | apply IsS59.alloc | apply IsS59.drewN | apply IsS59.drew | apply IsS59.set_0 | apply IsS59.set_1) | exact HI0.out)⟩, ⟨by repeat (first | (with_reducible first | exact HK.out | apply KeepBut.set_ | apply keep_drewN | apply keep_drew | apply keep_alloc) | exact HK.out)⟩, ⟨by repeat (first | (with_reducible first | exact HB.out | apply below_alloc | apply pw_below_drewN | apply below_drew1 | refine below_set ?_ (IsS59.ge HI0.out)) | exact HB.out)⟩⟩
                    · rw [if_neg c21] at H
                      exact absurd H (by simp)
                  · rw [if_neg c20] at H
                    have c20b0 : (t206.toList == ([] : List UInt8)) = false := beq_eq_false_iff_ne.mpr c20
                    have c20b1 : (t206.toList != ([] : List UInt8)) = true := bne_iff_ne.mpr c20
                    replace H := Option.bind_eq_some_iff.mp H
                    obtain ⟨⟨t215, t216⟩, A300, H⟩ := H
                    replace H : ((unicode_IsSpace.f t215).bind fun t217 => (if t217 = true then (if x5_1.length < 5864062014805 then ((goprinter_go_ast_directiveScanner_skipSpace.f t206 t207).bind fun bt221 => (goprinter_go_ast_Directive_ParseArgs.l0 kj9 (x5_1 ++ [(⟨t208, t202⟩ : S53)]) bt221.1 bt221.2)) else (none)) else (some (([] : List (S53)), true, t206, t207)))) = some (r1, r2, r3, r4) := H
                    have A30 := Aside0.mk A300
                    clear A300
                    replace H := Option.bind_eq_some_iff.mp H
                    obtain ⟨t217, A310, H⟩ := H
                    replace H : (if t217 = true then (if x5_1.length < 5864062014805 then ((goprinter_go_ast_directiveScanner_skipSpace.f t206 t207).bind fun bt221 => (goprinter_go_ast_Directive_ParseArgs.l0 kj9 (x5_1 ++ [(⟨t208, t202⟩ : S53)]) bt221.1 bt221.2)) else (none)) else (some (([] : List (S53)), true, t206, t207))) = some (r1, r2, r3, r4) := H
                    have A31 := Aside0.mk A310
                    clear A310
                    by_cases c32 : t217 = true
                    · subst c32
                      have H1 : (if x5_1.length < 5864062014805 then ((goprinter_go_ast_directiveScanner_skipSpace.f t206 t207).bind fun bt221 => (goprinter_go_ast_Directive_ParseArgs.l0 kj9 (x5_1 ++ [(⟨t208, t202⟩ : S53)]) bt221.1 bt221.2)) else (none)) = some (r1, r2, r3, r4) := by rw [if_pos rfl] at H; exact H
                      clear H
                      have H := H1
                      clear H1
                      by_cases c33 : x5_1.length < 5864062014805
                      · rw [if_pos c33] at H
                        have LMc33 := Aside0.mk c33
                        clear c33
                        obtain ⟨y218, hy218⟩ : ∃ y_ : List (S53), y_ = (x5_1 ++ [(⟨t208, t202⟩ : S53)]) := ⟨_, rfl⟩
                        replace H : ((goprinter_go_ast_directiveScanner_skipSpace.f t206 t207).bind fun bt221 => (goprinter_go_ast_Directive_ParseArgs.l0 kj9 y218 bt221.1 bt221.2)) = some (r1, r2, r3, r4) := by first | (rw [hy218]; with_reducible exact H) | (have H2_ := (Option.bind_some _ _).symm.trans H; rw [hy218]; with_reducible exact H2_) | (have H2_ := (Option.bind_some _ _).symm.trans H; with_reducible exact H2_) | with_reducible exact H | (rw [hy218]; exact H) | exact H
                        have Ny218 := Aside0.mk hy218
                        clear hy218
                        replace H := Option.bind_eq_some_iff.mp H
                        obtain ⟨⟨t221, t222⟩, A340, H⟩ := H
                        replace H : (goprinter_go_ast_Directive_ParseArgs.l0 kj9 y218 t221 t222) = some (r1, r2, r3, r4) := H
                        have A34 := Aside0.mk A340
                        clear A340
                        have H' := Aside0.mk H
                        clear H
                        obtain ⟨HGz35, hgz35⟩ := HI0.out
                        have hcz35_0 := cellS59_0 HGz35
                        have hcz35_1 := cellS59_1 HGz35
                        have hfz35_0 := blk_frozen HGz35 0
                        have hfz35_1 := blk_frozen HGz35 1
                        clear HGz35 hgz35
                        go_wp2_with (first | ((with_reducible refine gate_callee (f := 23) rfl ?_); refine goesL_ (some 39) rfl rfl Tryf.func23 (by kernel_rfl) rfl #[.string t201] rfl (by (try simp only [List.map_toArray, List.map_cons, List.map_nil]); first | done | rfl | (simp only [List.length_drop, List.length_take]; rfl)) ?_; (with_reducible refine (strconv_QuotedPrefix.calls0 t201 t203 _ (HT.out.below (by repeat (first | (with_reducible first | exact HB.out | apply below_alloc | apply pw_below_drewN | apply below_drew1 | refine below_set ?_ (IsS59.ge HI0.out)) | exact HB.out))) A14.out).mono ?_); rintro e w36 ⟨rfl, hb⟩; refine ⟨_, rfl, ?_⟩; have n0_ := Aside0.mk (Kd.R_below (by (with_reducible repeat (first | apply Kd.R_alloc | apply Kd.R_drewN | apply Kd.R_drew)); exact HO_5.out) hb); have n1_ := Aside0.mk (IsS59.below (by repeat (first | (with_reducible first | exact HI0.out | apply IsS59.alloc | apply IsS59.drewN | apply IsS59.drew | apply IsS59.set_0 | apply IsS59.set_1) | exact HI0.out)) hb); have n2_ := Aside0.mk (KeepBut.trans (by repeat (first | (with_reducible first | exact HK.out | apply KeepBut.set_ | apply keep_drewN | apply keep_drew | apply keep_alloc) | exact HK.out)) (KeepBut.of_below hb w.heap.size none) (.inl rfl)); have n3_ := Aside0.mk (below_step (by repeat (first | (with_reducible first | exact HB.out | apply below_alloc | apply pw_below_drewN | apply below_drew1 | refine below_set ?_ (IsS59.ge HI0.out)) | exact HB.out)) hb); clear HO_5; clear HI0; clear HK; clear HB; have HO_5 := n0_; have HI0 := n1_; have HK := n2_; have HB := n3_; clear n0_ n1_ n2_ n3_; (try clear hb); (try clear hb2); (try clear hk); (try clear hi)) | ((with_reducible refine gate_callee (f := 26) rfl ?_); refine goesL_ (some 62) rfl rfl Tryf.func26 (by kernel_rfl) rfl #[.pointer (some ⟨w.heap.size, 0, none⟩), .int .i64 (t203.size : Int)] rfl (by (try simp only [List.map_toArray, List.map_cons, List.map_nil]); first | done | rfl | (simp only [List.length_drop, List.length_take]; rfl)) ?_; (with_reducible refine (goprinter_go_ast_directiveScanner_take.calls w.heap.size t201 t202 (t203.size : Int) t205 t206 t207 w _ ?side1 ?side2 A18.out).mono ?_); (case side1 => repeat (first | (with_reducible first | exact HI0.out | apply IsS59.alloc | apply IsS59.drewN | apply IsS59.drew | apply IsS59.set_0 | apply IsS59.set_1) | exact HI0.out)); (case side2 => repeat (first | (with_reducible first | exact HB.out | apply below_alloc | apply pw_below_drewN | apply below_drew1 | refine below_set ?_ (IsS59.ge HI0.out)) | exact HB.out)); rintro e w37 ⟨rfl, hi, hb, hk⟩; refine ⟨_, rfl, ?_⟩; have n0_ := Aside0.mk (Kd.R_mono (Kd.R_keep (IsS59.apart (show IsS59 w _ w.heap.size t201 t202 from by repeat (first | (with_reducible first | exact HI0.out | apply IsS59.alloc | apply IsS59.drewN | apply IsS59.drew | apply IsS59.set_0 | apply IsS59.set_1) | exact HI0.out)) (by (with_reducible repeat (first | apply Kd.R_alloc | apply Kd.R_drewN | apply Kd.R_drew)); exact HO_5.out) (by decide)) hk (fun _ h => h.2)) (fun _ h => h.1)); have n1_ := Aside0.mk (KeepBut.trans (by repeat (first | (with_reducible first | exact HK.out | apply KeepBut.set_ | apply keep_drewN | apply keep_drew | apply keep_alloc) | exact HK.out)) hk (.inl rfl)); have n2_ := Aside0.mk (hb); have n3_ := Aside0.mk (hi); clear HO_5; clear HK; clear HB; clear HI0; have HO_5 := n0_; have HK := n1_; have HB := n2_; have HI0 := n3_; clear n0_ n1_ n2_ n3_; (try clear hb); (try clear hb2); (try clear hk); (try clear hi)) | ((with_reducible refine gate_callee (f := 25) rfl ?_); refine goesL_ (some 63) rfl rfl Tryf.func25 (by kernel_rfl) rfl #[.string t205] rfl (by (try simp only [List.map_toArray, List.map_cons, List.map_nil]); first | done | rfl | (simp only [List.length_drop, List.length_take]; rfl)) ?_; (with_reducible refine (strconv_Unquote.calls t205 t208 t209 _ (HT.out.below (by repeat (first | (with_reducible first | exact HB.out | apply below_alloc | apply pw_below_drewN | apply below_drew1 | refine below_set ?_ (IsS59.ge HI0.out)) | exact HB.out))) A19.out).mono ?_); rintro e w38 ⟨rfl, hb⟩; refine ⟨_, rfl, ?_⟩; have n0_ := Aside0.mk (Kd.R_below (by (with_reducible repeat (first | apply Kd.R_alloc | apply Kd.R_drewN | apply Kd.R_drew)); exact HO_5.out) hb); have n1_ := Aside0.mk (IsS59.below (by repeat (first | (with_reducible first | exact HI0.out | apply IsS59.alloc | apply IsS59.drewN | apply IsS59.drew | apply IsS59.set_0 | apply IsS59.set_1) | exact HI0.out)) hb); have n2_ := Aside0.mk (KeepBut.trans (by repeat (first | (with_reducible first | exact HK.out | apply KeepBut.set_ | apply keep_drewN | apply keep_drew | apply keep_alloc) | exact HK.out)) (KeepBut.of_below hb w.heap.size none) (.inl rfl)); have n3_ := Aside0.mk (below_step (by repeat (first | (with_reducible first | exact HB.out | apply below_alloc | apply pw_below_drewN | apply below_drew1 | refine below_set ?_ (IsS59.ge HI0.out)) | exact HB.out)) hb); clear HO_5; clear HI0; clear HK; clear HB; have HO_5 := n0_; have HI0 := n1_; have HK := n2_; have HB := n3_; clear n0_ n1_ n2_ n3_; (try clear hb); (try clear hb2); (try clear hk); (try clear hi); obtain ⟨HGz39, hgz39⟩ := HI0.out; have hcz39_0 := cellS59_0 HGz39; have hcz39_1 := cellS59_1 HGz39; have hfz39_0 := blk_frozen HGz39 0; have hfz39_1 := blk_frozen HGz39 1; clear HGz39 hgz39) | ((with_reducible refine gate_callee (f := 27) rfl ?_); refine goesL_ (some 72) rfl rfl Tryf.func27 (by kernel_rfl) rfl #[.string t206] rfl (by (try simp only [List.map_toArray, List.map_cons, List.map_nil]); first | done | rfl | (simp only [List.length_drop, List.length_take]; rfl)) ?_; (with_reducible refine (utf8_DecodeRuneInString.calls t206 t215 t216 _ A30.out).mono ?_); rintro e w40 ⟨rfl, hb⟩; refine ⟨_, rfl, ?_⟩; have n0_ := Aside0.mk (Kd.R_below (by (with_reducible repeat (first | apply Kd.R_alloc | apply Kd.R_drewN | apply Kd.R_drew)); exact HO_5.out) hb); have n1_ := Aside0.mk (IsS59.below (by repeat (first | (with_reducible first | exact HI0.out | apply IsS59.alloc | apply IsS59.drewN | apply IsS59.drew | apply IsS59.set_0 | apply IsS59.set_1) | exact HI0.out)) hb); have n2_ := Aside0.mk (KeepBut.trans (by repeat (first | (with_reducible first | exact HK.out | apply KeepBut.set_ | apply keep_drewN | apply keep_drew | apply keep_alloc) | exact HK.out)) (KeepBut.of_below hb w.heap.size none) (.inl rfl)); have n3_ := Aside0.mk (below_step (by repeat (first | (with_reducible first | exact HB.out | apply below_alloc | apply pw_below_drewN | apply below_drew1 | refine below_set ?_ (IsS59.ge HI0.out)) | exact HB.out)) hb); clear HO_5; clear HI0; clear HK; clear HB; have HO_5 := n0_; have HI0 := n1_; have HK := n2_; have HB := n3_; clear n0_ n1_ n2_ n3_; (try clear hb); (try clear hb2); (try clear hk); (try clear hi)) | ((with_reducible refine gate_callee (f := 28) rfl ?_); refine goesL_ (some 76) rfl rfl Tryf.func28 (by kernel_rfl) rfl #[.int .i32 t215] rfl (by (try simp only [List.map_toArray, List.map_cons, List.map_nil]); first | done | rfl | (simp only [List.length_drop, List.length_take]; rfl)) ?_; (with_reducible refine (unicode_IsSpace.calls t215 true _ (HT.out.below (by repeat (first | (with_reducible first | exact HB.out | apply below_alloc | apply pw_below_drewN | apply below_drew1 | refine below_set ?_ (IsS59.ge HI0.out)) | exact HB.out))) A31.out).mono ?_); rintro e w41 ⟨rfl, hb⟩; refine ⟨_, rfl, ?_⟩; have n0_ := Aside0.mk (Kd.R_below (by (with_reducible repeat (first | apply Kd.R_alloc | apply Kd.R_drewN | apply Kd.R_drew)); exact HO_5.out) hb); have n1_ := Aside0.mk (IsS59.below (by repeat (first | (with_reducible first | exact HI0.out | apply IsS59.alloc | apply IsS59.drewN | apply IsS59.drew | apply IsS59.set_0 | apply IsS59.set_1) | exact HI0.out)) hb); have n2_ := Aside0.mk (KeepBut.trans (by repeat (first | (with_reducible first | exact HK.out | apply KeepBut.set_ | apply keep_drewN | apply keep_drew | apply keep_alloc) | exact HK.out)) (KeepBut.of_below hb w.heap.size none) (.inl rfl)); have n3_ := Aside0.mk (below_step (by repeat (first | (with_reducible first | exact HB.out | apply below_alloc | apply pw_below_drewN | apply below_drew1 | refine below_set ?_ (IsS59.ge HI0.out)) | exact HB.out)) hb); clear HO_5; clear HI0; clear HK; clear HB; have HO_5 := n0_; have HI0 := n1_; have HK := n2_; have HB := n3_; clear n0_ n1_ n2_ n3_; (try clear hb); (try clear hb2); (try clear hk); (try clear hi)) | ((with_reducible refine gate_builtin (b := .append) (xs := #[.tmp 93, .tmp 97]) rfl ?_); at_builtin; refine Kd.R_append k53 w.heap.size rfl (.tmp 93) (.tmp 97) 47 53 (.agg #[(.string ⟨#[]⟩), (.int .i64 0)]) 24 rfl Tryf.underlying47 info53 rfl (by decide) (by omega) u5 x5_1 (⟨t208, t202⟩ : S53) [.string t208, .int .i64 t202] (fun _ => True) (fun _ => False) rfl rfl ?aP (fun _ hk => hk.elim) ?aF ?aO (Below.refl _ _) ?aS ?aL ?_; (case aP => exact k53_mkM _ _ _ (⟨t208, t202⟩ : S53)); (case aF => exact (fun _ _ => trivial)); (case aO => exact (by (with_reducible repeat (first | apply Kd.R_alloc | apply Kd.R_drewN | apply Kd.R_drew)); exact HO_5.out)); (case aS => exact (keep_size (w := w) (g := w.heap.size) (row := none) (by repeat (first | (with_reducible first | exact HK.out | apply KeepBut.set_ | apply keep_drewN | apply keep_drew | apply keep_alloc) | exact HK.out)))); (case aL => have := LMc33.out; omega); intro v219 w42 ho hb hg hat; rw [← Ny218.out] at ho; have n0_ := Aside0.mk (IsS59.grown (by repeat (first | (with_reducible first | exact HI0.out | apply IsS59.alloc | apply IsS59.drewN | apply IsS59.drew | apply IsS59.set_0 | apply IsS59.set_1) | exact HI0.out)) hg (IsS59.own_ne HI0.out HO_5.out (by decide))); have n1_ := Aside0.mk (below_weaken (by repeat (first | (with_reducible first | exact HB.out | apply below_alloc | apply pw_below_drewN | apply below_drew1 | refine below_set ?_ (IsS59.ge HI0.out)) | exact HB.out)) HL.out hb); have n2_ := Aside0.mk (KeepBut.trans (by repeat (first | (with_reducible first | exact HK.out | apply KeepBut.set_ | apply keep_drewN | apply keep_drew | apply keep_alloc) | exact HK.out)) (KeepBut.of_grown hg w.heap.size) (Kd.R_base2 HO_5.out)); have n3_ := Aside0.mk (ho); clear HI0; clear HB; clear HK; clear HO_5; have HI0 := n0_; have HB := n1_; have HK := n2_; have HO220 := n3_; clear n0_ n1_ n2_ n3_; clear ho hb hg hat) | ((with_reducible refine gate_callee (f := 21) rfl ?_); refine goesL_ (some 26) rfl rfl Tryf.func21 (by kernel_rfl) rfl #[.pointer (some ⟨w.heap.size, 0, none⟩)] rfl (by (try simp only [List.map_toArray, List.map_cons, List.map_nil]); first | done | rfl | (simp only [List.length_drop, List.length_take]; rfl)) ?_; (with_reducible refine (goprinter_go_ast_directiveScanner_skipSpace.calls w.heap.size t206 t207 t221 t222 w _ HT.out ?side1 ?side2 A34.out).mono ?_); (case side1 => repeat (first | (with_reducible first | exact HI0.out | apply IsS59.alloc | apply IsS59.drewN | apply IsS59.drew | apply IsS59.set_0 | apply IsS59.set_1) | exact HI0.out)); (case side2 => repeat (first | (with_reducible first | exact HB.out | apply below_alloc | apply pw_below_drewN | apply below_drew1 | refine below_set ?_ (IsS59.ge HI0.out)) | exact HB.out)); rintro e w43 ⟨rfl, hi, hb, hk⟩; refine ⟨_, rfl, ?_⟩; have n0_ := Aside0.mk (Kd.R_mono (Kd.R_keep (IsS59.apart (show IsS59 w _ w.heap.size t206 t207 from by repeat (first | (with_reducible first | exact HI0.out | apply IsS59.alloc | apply IsS59.drewN | apply IsS59.drew | apply IsS59.set_0 | apply IsS59.set_1) | exact HI0.out)) (by (with_reducible repeat (first | apply Kd.R_alloc | apply Kd.R_drewN | apply Kd.R_drew)); exact HO220.out) (by decide)) hk (fun _ h => h.2)) (fun _ h => h.1)); have n1_ := Aside0.mk (KeepBut.trans (by repeat (first | (with_reducible first | exact HK.out | apply KeepBut.set_ | apply keep_drewN | apply keep_drew | apply keep_alloc) | exact HK.out)) hk (.inl rfl)); have n2_ := Aside0.mk (hb); have n3_ := Aside0.mk (hi); clear HO220; clear HK; clear HB; clear HI0; have HO220 := n0_; have HK := n1_; have HB := n2_; have HI0 := n3_; clear n0_ n1_ n2_ n3_; (try clear hb); (try clear hb2); (try clear hk); (try clear hi)))
                        go_roundg kj9
                        case measure => have := HK1.out; have := HJ9.out; omega
                        case rel => exact ⟨(y218), _, _, H', ⟨by have := HK1.out; have := HJ9.out; omega⟩, ⟨by (with_reducible repeat (first | apply Kd.R_alloc | apply Kd.R_drewN | apply Kd.R_drew)); exact HO220.out⟩, ⟨by repeat (first | (with_reducible first | exact HI0.out | apply IsS59.alloc | apply IsS59.drewN | apply IsS59.drew | apply IsS59.set_0 | apply IsS59.set_1) | exact HI0.out)⟩, ⟨by repeat (first | (with_reducible first | exact HK.out | apply KeepBut.set_ | apply keep_drewN | apply keep_drew | apply keep_alloc) | exact HK.out)⟩, ⟨by repeat (first | (with_reducible first | exact HB.out | apply below_alloc | apply pw_below_drewN | apply below_drew1 | refine below_set ?_ (IsS59.ge HI0.out)) | exact HB.out)⟩⟩
                      · rw [if_neg c33] at H
                        exact absurd H (by simp)
                    · replace c32 := Bool.eq_false_iff.mpr c32
                      subst c32
                      have H1 : (some (([] : List (S53)), true, t206, t207)) = some (r1, r2, r3, r4) := by rw [if_neg (show ¬ (false = true) by decide)] at H; exact H
                      clear H
                      have H := H1
                      clear H1
                      simp only [Option.some.injEq, Prod.mk.injEq] at H
                      obtain ⟨rfl, rfl, rfl, rfl⟩ := H
                      obtain ⟨HGz44, hgz44⟩ := HI0.out
                      have hcz44_0 := cellS59_0 HGz44
                      have hcz44_1 := cellS59_1 HGz44
                      have hfz44_0 := blk_frozen HGz44 0
                      have hfz44_1 := blk_frozen HGz44 1
                      clear HGz44 hgz44
                      go_wp2_with (first | ((with_reducible refine gate_callee (f := 23) rfl ?_); refine goesL_ (some 39) rfl rfl Tryf.func23 (by kernel_rfl) rfl #[.string t201] rfl (by (try simp only [List.map_toArray, List.map_cons, List.map_nil]); first | done | rfl | (simp only [List.length_drop, List.length_take]; rfl)) ?_; (with_reducible refine (strconv_QuotedPrefix.calls0 t201 t203 _ (HT.out.below (by repeat (first | (with_reducible first | exact HB.out | apply below_alloc | apply pw_below_drewN | apply below_drew1 | refine below_set ?_ (IsS59.ge HI0.out)) | exact HB.out))) A14.out).mono ?_); rintro e w45 ⟨rfl, hb⟩; refine ⟨_, rfl, ?_⟩; have n0_ := Aside0.mk (Kd.R_below (by (with_reducible repeat (first | apply Kd.R_alloc | apply Kd.R_drewN | apply Kd.R_drew)); exact HO_5.out) hb); have n1_ := Aside0.mk (IsS59.below (by repeat (first | (with_reducible first | exact HI0.out | apply IsS59.alloc | apply IsS59.drewN | apply IsS59.drew | apply IsS59.set_0 | apply IsS59.set_1) | exact HI0.out)) hb); have n2_ := Aside0.mk (KeepBut.trans (by repeat (first | (with_reducible first | exact HK.out | apply KeepBut.set_ | apply keep_drewN | apply keep_drew | apply keep_alloc) | exact HK.out)) (KeepBut.of_below hb w.heap.size none) (.inl rfl)); have n3_ := Aside0.mk (below_step (by repeat (first | (with_reducible first | exact HB.out | apply below_alloc | apply pw_below_drewN | apply below_drew1 | refine below_set ?_ (IsS59.ge HI0.out)) | exact HB.out)) hb); clear HO_5; clear HI0; clear HK; clear HB; have HO_5 := n0_; have HI0 := n1_; have HK := n2_; have HB := n3_; clear n0_ n1_ n2_ n3_; (try clear hb); (try clear hb2); (try clear hk); (try clear hi)) | ((with_reducible refine gate_callee (f := 26) rfl ?_); refine goesL_ (some 62) rfl rfl Tryf.func26 (by kernel_rfl) rfl #[.pointer (some ⟨w.heap.size, 0, none⟩), .int .i64 (t203.size : Int)] rfl (by (try simp only [List.map_toArray, List.map_cons, List.map_nil]); first | done | rfl | (simp only [List.length_drop, List.length_take]; rfl)) ?_; (with_reducible refine (goprinter_go_ast_directiveScanner_take.calls w.heap.size t201 t202 (t203.size : Int) t205 t206 t207 w _ ?side1 ?side2 A18.out).mono ?_); (case side1 => repeat (first | (with_reducible first | exact HI0.out | apply IsS59.alloc | apply IsS59.drewN | apply IsS59.drew | apply IsS59.set_0 | apply IsS59.set_1) | exact HI0.out)); (case side2 => repeat (first | (with_reducible first | exact HB.out | apply below_alloc | apply pw_below_drewN | apply below_drew1 | refine below_set ?_ (IsS59.ge HI0.out)) | exact HB.out)); rintro e w46 ⟨rfl, hi, hb, hk⟩; refine ⟨_, rfl, ?_⟩; have n0_ := Aside0.mk (Kd.R_mono (Kd.R_keep (IsS59.apart (show IsS59 w _ w.heap.size t201 t202 from by repeat (first | (with_reducible first | exact HI0.out | apply IsS59.alloc | apply IsS59.drewN | apply IsS59.drew | apply IsS59.set_0 | apply IsS59.set_1) | exact HI0.out)) (by (with_reducible repeat (first | apply Kd.R_alloc | apply Kd.R_drewN | apply Kd.R_drew)); exact HO_5.out) (by decide)) hk (fun _ h => h.2)) (fun _ h => h.1)); have n1_ := Aside0.mk (KeepBut.trans (by repeat (first | (with_reducible first | exact HK.out | apply KeepBut.set_ | apply keep_drewN | apply keep_drew | apply keep_alloc) | exact HK.out)) hk (.inl rfl)); have n2_ := Aside0.mk (hb); have n3_ := Aside0.mk (hi); clear HO_5; clear HK; clear HB; clear HI0; have HO_5 := n0_; have HK := n1_; have HB := n2_; have HI0 := n3_; clear n0_ n1_ n2_ n3_; (try clear hb); (try clear hb2); (try clear hk); (try clear hi)) | ((with_reducible refine gate_callee (f := 25) rfl ?_); refine goesL_ (some 63) rfl rfl Tryf.func25 (by kernel_rfl) rfl #[.string t205] rfl (by (try simp only [List.map_toArray, List.map_cons, List.map_nil]); first | done | rfl | (simp only [List.length_drop, List.length_take]; rfl)) ?_; (with_reducible refine (strconv_Unquote.calls t205 t208 t209 _ (HT.out.below (by repeat (first | (with_reducible first | exact HB.out | apply below_alloc | apply pw_below_drewN | apply below_drew1 | refine below_set ?_ (IsS59.ge HI0.out)) | exact HB.out))) A19.out).mono ?_); rintro e w47 ⟨rfl, hb⟩; refine ⟨_, rfl, ?_⟩; have n0_ := Aside0.mk (Kd.R_below (by (with_reducible repeat (first | apply Kd.R_alloc | apply Kd.R_drewN | apply Kd.R_drew)); exact HO_5.out) hb); have n1_ := Aside0.mk (IsS59.below (by repeat (first | (with_reducible first | exact HI0.out | apply IsS59.alloc | apply IsS59.drewN | apply IsS59.drew | apply IsS59.set_0 | apply IsS59.set_1) | exact HI0.out)) hb); have n2_ := Aside0.mk (KeepBut.trans (by repeat (first | (with_reducible first | exact HK.out | apply KeepBut.set_ | apply keep_drewN | apply keep_drew | apply keep_alloc) | exact HK.out)) (KeepBut.of_below hb w.heap.size none) (.inl rfl)); have n3_ := Aside0.mk (below_step (by repeat (first | (with_reducible first | exact HB.out | apply below_alloc | apply pw_below_drewN | apply below_drew1 | refine below_set ?_ (IsS59.ge HI0.out)) | exact HB.out)) hb); clear HO_5; clear HI0; clear HK; clear HB; have HO_5 := n0_; have HI0 := n1_; have HK := n2_; have HB := n3_; clear n0_ n1_ n2_ n3_; (try clear hb); (try clear hb2); (try clear hk); (try clear hi); obtain ⟨HGz48, hgz48⟩ := HI0.out; have hcz48_0 := cellS59_0 HGz48; have hcz48_1 := cellS59_1 HGz48; have hfz48_0 := blk_frozen HGz48 0; have hfz48_1 := blk_frozen HGz48 1; clear HGz48 hgz48) | ((with_reducible refine gate_callee (f := 27) rfl ?_); refine goesL_ (some 72) rfl rfl Tryf.func27 (by kernel_rfl) rfl #[.string t206] rfl (by (try simp only [List.map_toArray, List.map_cons, List.map_nil]); first | done | rfl | (simp only [List.length_drop, List.length_take]; rfl)) ?_; (with_reducible refine (utf8_DecodeRuneInString.calls t206 t215 t216 _ A30.out).mono ?_); rintro e w49 ⟨rfl, hb⟩; refine ⟨_, rfl, ?_⟩; have n0_ := Aside0.mk (Kd.R_below (by (with_reducible repeat (first | apply Kd.R_alloc | apply Kd.R_drewN | apply Kd.R_drew)); exact HO_5.out) hb); have n1_ := Aside0.mk (IsS59.below (by repeat (first | (with_reducible first | exact HI0.out | apply IsS59.alloc | apply IsS59.drewN | apply IsS59.drew | apply IsS59.set_0 | apply IsS59.set_1) | exact HI0.out)) hb); have n2_ := Aside0.mk (KeepBut.trans (by repeat (first | (with_reducible first | exact HK.out | apply KeepBut.set_ | apply keep_drewN | apply keep_drew | apply keep_alloc) | exact HK.out)) (KeepBut.of_below hb w.heap.size none) (.inl rfl)); have n3_ := Aside0.mk (below_step (by repeat (first | (with_reducible first | exact HB.out | apply below_alloc | apply pw_below_drewN | apply below_drew1 | refine below_set ?_ (IsS59.ge HI0.out)) | exact HB.out)) hb); clear HO_5; clear HI0; clear HK; clear HB; have HO_5 := n0_; have HI0 := n1_; have HK := n2_; have HB := n3_; clear n0_ n1_ n2_ n3_; (try clear hb); (try clear hb2); (try clear hk); (try clear hi)) | ((with_reducible refine gate_callee (f := 28) rfl ?_); refine goesL_ (some 76) rfl rfl Tryf.func28 (by kernel_rfl) rfl #[.int .i32 t215] rfl (by (try simp only [List.map_toArray, List.map_cons, List.map_nil]); first | done | rfl | (simp only [List.length_drop, List.length_take]; rfl)) ?_; (with_reducible refine (unicode_IsSpace.calls t215 false _ (HT.out.below (by repeat (first | (with_reducible first | exact HB.out | apply below_alloc | apply pw_below_drewN | apply below_drew1 | refine below_set ?_ (IsS59.ge HI0.out)) | exact HB.out))) A31.out).mono ?_); rintro e w50 ⟨rfl, hb⟩; refine ⟨_, rfl, ?_⟩; have n0_ := Aside0.mk (Kd.R_below (by (with_reducible repeat (first | apply Kd.R_alloc | apply Kd.R_drewN | apply Kd.R_drew)); exact HO_5.out) hb); have n1_ := Aside0.mk (IsS59.below (by repeat (first | (with_reducible first | exact HI0.out | apply IsS59.alloc | apply IsS59.drewN | apply IsS59.drew | apply IsS59.set_0 | apply IsS59.set_1) | exact HI0.out)) hb); have n2_ := Aside0.mk (KeepBut.trans (by repeat (first | (with_reducible first | exact HK.out | apply KeepBut.set_ | apply keep_drewN | apply keep_drew | apply keep_alloc) | exact HK.out)) (KeepBut.of_below hb w.heap.size none) (.inl rfl)); have n3_ := Aside0.mk (below_step (by repeat (first | (with_reducible first | exact HB.out | apply below_alloc | apply pw_below_drewN | apply below_drew1 | refine below_set ?_ (IsS59.ge HI0.out)) | exact HB.out)) hb); clear HO_5; clear HI0; clear HK; clear HB; have HO_5 := n0_; have HI0 := n1_; have HK := n2_; have HB := n3_; clear n0_ n1_ n2_ n3_; (try clear hb); (try clear hb2); (try clear hk); (try clear hi)))
                      have hd0_ := (HB.out.cell (p := ⟨d, 0, none⟩) HD.out.2.2).trans HD.out.1
                      have hd1_ := (HB.out.cell (p := ⟨d, 1, none⟩) HD.out.2.2).trans HD.out.2.1
                      have hs0_ := cellS59_0 HI0.out.1
                      have HKEEP2 : Aside0 (∀ W, Below w50.heap.size w50 W → (W.cell? ⟨d, 0, none⟩ = some (.string T) ∧ W.cell? ⟨d, 1, none⟩ = some (.string N) ∧ W.cell? ⟨w.heap.size, 0, none⟩ = some (.string t206))) := ⟨fun W hb => ⟨(hb.cell (World.block_lt_of_cell? _ _ hd0_)).trans hd0_, (hb.cell (World.block_lt_of_cell? _ _ hd1_)).trans hd1_, (hb.cell (World.block_lt_of_cell? _ _ hs0_)).trans hs0_⟩⟩
                      go_region_held3 (fun W => W.cell? ⟨d, 0, none⟩ = some (.string T) ∧ W.cell? ⟨d, 1, none⟩ = some (.string N) ∧ W.cell? ⟨w.heap.size, 0, none⟩ = some (.string t206))
                        (first | exact HKEEP2.out _ HX.out | exact HKEEP2.out _ (by repeat (first | exact Below.refl _ _ | apply below_alloc | apply pw_below_drewN | apply below_drew1)))
                        ((go_at_call 24; refine (errorf_any F T N t206 _ _ ?ha ?hb0 ?hb1 ?hb2).mono ?_; (case ha => exact (show ∀ W, Below w.heap.size w W → F.told.answers W.tape from fun W h => by rw [h.tape]; exact HF.out) _ (by repeat (first | exact HB.out | apply below_alloc | apply pw_below_drewN | apply below_drew1))); (case hb0 => simp); (case hb1 => simp); (case hb2 => simp); rintro e w99 ⟨⟨t_, x_, rfl⟩, hb⟩; have HX := Aside0.mk (below_step (show Below w50.heap.size w50 _ by repeat (first | exact Below.refl _ _ | apply below_alloc | apply pw_below_drewN | apply below_drew1)) hb); clear hb))
                      all_goals
                        go_wp2
                        go_ret2
                        exact ⟨_, _, rfl, ⟨_, _, rfl⟩, Kd.R_nil _ _ _ _ _, by repeat (first | exact below_step HB.out HX.out | apply below_alloc | apply pw_below_drewN | apply below_drew1)⟩
              · replace c13 := Bool.eq_false_iff.mpr c13
                subst c13
                have H1 : ((goprinter_go_ast_directiveScanner_takeNonSpace.f t201 t202).bind fun bt223 => (if x5_1.length < 5864062014805 then ((goprinter_go_ast_directiveScanner_skipSpace.f bt223.2.1 bt223.2.2).bind fun bt229 => (goprinter_go_ast_Directive_ParseArgs.l0 kj9 (x5_1 ++ [(⟨bt223.1, t202⟩ : S53)]) bt229.1 bt229.2)) else (none))) = some (r1, r2, r3, r4) := by rw [if_neg (show ¬ (false = true) by decide)] at H; exact H
                clear H
                have H := H1
                clear H1
                replace H := Option.bind_eq_some_iff.mp H
                obtain ⟨⟨t223, t224, t225⟩, A510, H⟩ := H
                replace H : (if x5_1.length < 5864062014805 then ((goprinter_go_ast_directiveScanner_skipSpace.f t224 t225).bind fun bt229 => (goprinter_go_ast_Directive_ParseArgs.l0 kj9 (x5_1 ++ [(⟨t223, t202⟩ : S53)]) bt229.1 bt229.2)) else (none)) = some (r1, r2, r3, r4) := H
                have A51 := Aside0.mk A510
                clear A510
                by_cases c52 : x5_1.length < 5864062014805
                · rw [if_pos c52] at H
                  have LMc52 := Aside0.mk c52
                  clear c52
                  obtain ⟨y226, hy226⟩ : ∃ y_ : List (S53), y_ = (x5_1 ++ [(⟨t223, t202⟩ : S53)]) := ⟨_, rfl⟩
                  replace H : ((goprinter_go_ast_directiveScanner_skipSpace.f t224 t225).bind fun bt229 => (goprinter_go_ast_Directive_ParseArgs.l0 kj9 y226 bt229.1 bt229.2)) = some (r1, r2, r3, r4) := by first | (rw [hy226]; with_reducible exact H) | (have H2_ := (Option.bind_some _ _).symm.trans H; rw [hy226]; with_reducible exact H2_) | (have H2_ := (Option.bind_some _ _).symm.trans H; with_reducible exact H2_) | with_reducible exact H | (rw [hy226]; exact H) | exact H
                  have Ny226 := Aside0.mk hy226
                  clear hy226
                  replace H := Option.bind_eq_some_iff.mp H
                  obtain ⟨⟨t229, t230⟩, A530, H⟩ := H
                  replace H : (goprinter_go_ast_Directive_ParseArgs.l0 kj9 y226 t229 t230) = some (r1, r2, r3, r4) := H
                  have A53 := Aside0.mk A530
                  clear A530
                  have H' := Aside0.mk H
                  clear H
                  go_wp2_with (first | ((with_reducible refine gate_callee (f := 22) rfl ?_); refine goesL_ (some 32) rfl rfl Tryf.func22 (by kernel_rfl) rfl #[.pointer (some ⟨w.heap.size, 0, none⟩)] rfl (by (try simp only [List.map_toArray, List.map_cons, List.map_nil]); first | done | rfl | (simp only [List.length_drop, List.length_take]; rfl)) ?_; (with_reducible refine (goprinter_go_ast_directiveScanner_takeNonSpace.calls w.heap.size t201 t202 t223 t224 t225 w _ HT.out ?side1 ?side2 A51.out).mono ?_); (case side1 => repeat (first | (with_reducible first | exact HI0.out | apply IsS59.alloc | apply IsS59.drewN | apply IsS59.drew | apply IsS59.set_0 | apply IsS59.set_1) | exact HI0.out)); (case side2 => repeat (first | (with_reducible first | exact HB.out | apply below_alloc | apply pw_below_drewN | apply below_drew1 | refine below_set ?_ (IsS59.ge HI0.out)) | exact HB.out)); rintro e w54 ⟨rfl, hi, hb, hk⟩; refine ⟨_, rfl, ?_⟩; have n0_ := Aside0.mk (Kd.R_mono (Kd.R_keep (IsS59.apart (show IsS59 w _ w.heap.size t201 t202 from by repeat (first | (with_reducible first | exact HI0.out | apply IsS59.alloc | apply IsS59.drewN | apply IsS59.drew | apply IsS59.set_0 | apply IsS59.set_1) | exact HI0.out)) (by (with_reducible repeat (first | apply Kd.R_alloc | apply Kd.R_drewN | apply Kd.R_drew)); exact HO_5.out) (by decide)) hk (fun _ h => h.2)) (fun _ h => h.1)); have n1_ := Aside0.mk (KeepBut.trans (by repeat (first | (with_reducible first | exact HK.out | apply KeepBut.set_ | apply keep_drewN | apply keep_drew | apply keep_alloc) | exact HK.out)) hk (.inl rfl)); have n2_ := Aside0.mk (hb); have n3_ := Aside0.mk (hi); clear HO_5; clear HK; clear HB; clear HI0; have HO_5 := n0_; have HK := n1_; have HB := n2_; have HI0 := n3_; clear n0_ n1_ n2_ n3_; (try clear hb); (try clear hb2); (try clear hk); (try clear hi)) | ((with_reducible refine gate_builtin (b := .append) (xs := #[.tmp 93, .tmp 97]) rfl ?_); at_builtin; refine Kd.R_append k53 w.heap.size rfl (.tmp 93) (.tmp 97) 47 53 (.agg #[(.string ⟨#[]⟩), (.int .i64 0)]) 24 rfl Tryf.underlying47 info53 rfl (by decide) (by omega) u5 x5_1 (⟨t223, t202⟩ : S53) [.string t223, .int .i64 t202] (fun _ => True) (fun _ => False) rfl rfl ?aP (fun _ hk => hk.elim) ?aF ?aO (Below.refl _ _) ?aS ?aL ?_; (case aP => exact k53_mkM _ _ _ (⟨t223, t202⟩ : S53)); (case aF => exact (fun _ _ => trivial)); (case aO => exact (by (with_reducible repeat (first | apply Kd.R_alloc | apply Kd.R_drewN | apply Kd.R_drew)); exact HO_5.out)); (case aS => exact (keep_size (w := w) (g := w.heap.size) (row := none) (by repeat (first | (with_reducible first | exact HK.out | apply KeepBut.set_ | apply keep_drewN | apply keep_drew | apply keep_alloc) | exact HK.out)))); (case aL => have := LMc52.out; omega); intro v227 w55 ho hb hg hat; rw [← Ny226.out] at ho; have n0_ := Aside0.mk (IsS59.grown (by repeat (first | (with_reducible first | exact HI0.out | apply IsS59.alloc | apply IsS59.drewN | apply IsS59.drew | apply IsS59.set_0 | apply IsS59.set_1) | exact HI0.out)) hg (IsS59.own_ne HI0.out HO_5.out (by decide))); have n1_ := Aside0.mk (below_weaken (by repeat (first | (with_reducible first | exact HB.out | apply below_alloc | apply pw_below_drewN | apply below_drew1 | refine below_set ?_ (IsS59.ge HI0.out)) | exact HB.out)) HL.out hb); have n2_ := Aside0.mk (KeepBut.trans (by repeat (first | (with_reducible first | exact HK.out | apply KeepBut.set_ | apply keep_drewN | apply keep_drew | apply keep_alloc) | exact HK.out)) (KeepBut.of_grown hg w.heap.size) (Kd.R_base2 HO_5.out)); have n3_ := Aside0.mk (ho); clear HI0; clear HB; clear HK; clear HO_5; have HI0 := n0_; have HB := n1_; have HK := n2_; have HO228 := n3_; clear n0_ n1_ n2_ n3_; clear ho hb hg hat) | ((with_reducible refine gate_callee (f := 21) rfl ?_); refine goesL_ (some 26) rfl rfl Tryf.func21 (by kernel_rfl) rfl #[.pointer (some ⟨w.heap.size, 0, none⟩)] rfl (by (try simp only [List.map_toArray, List.map_cons, List.map_nil]); first | done | rfl | (simp only [List.length_drop, List.length_take]; rfl)) ?_; (with_reducible refine (goprinter_go_ast_directiveScanner_skipSpace.calls w.heap.size t224 t225 t229 t230 w _ HT.out ?side1 ?side2 A53.out).mono ?_); (case side1 => repeat (first | (with_reducible first | exact HI0.out | apply IsS59.alloc | apply IsS59.drewN | apply IsS59.drew | apply IsS59.set_0 | apply IsS59.set_1) | exact HI0.out)); (case side2 => repeat (first | (with_reducible first | exact HB.out | apply below_alloc | apply pw_below_drewN | apply below_drew1 | refine below_set ?_ (IsS59.ge HI0.out)) | exact HB.out)); rintro e w56 ⟨rfl, hi, hb, hk⟩; refine ⟨_, rfl, ?_⟩; have n0_ := Aside0.mk (Kd.R_mono (Kd.R_keep (IsS59.apart (show IsS59 w _ w.heap.size t224 t225 from by repeat (first | (with_reducible first | exact HI0.out | apply IsS59.alloc | apply IsS59.drewN | apply IsS59.drew | apply IsS59.set_0 | apply IsS59.set_1) | exact HI0.out)) (by (with_reducible repeat (first | apply Kd.R_alloc | apply Kd.R_drewN | apply Kd.R_drew)); exact HO228.out) (by decide)) hk (fun _ h => h.2)) (fun _ h => h.1)); have n1_ := Aside0.mk (KeepBut.trans (by repeat (first | (with_reducible first | exact HK.out | apply KeepBut.set_ | apply keep_drewN | apply keep_drew | apply keep_alloc) | exact HK.out)) hk (.inl rfl)); have n2_ := Aside0.mk (hb); have n3_ := Aside0.mk (hi); clear HO228; clear HK; clear HB; clear HI0; have HO228 := n0_; have HK := n1_; have HB := n2_; have HI0 := n3_; clear n0_ n1_ n2_ n3_; (try clear hb); (try clear hb2); (try clear hk); (try clear hi)))
                  go_roundg kj9
                  case measure => have := HK1.out; have := HJ9.out; omega
                  case rel => exact ⟨(y226), _, _, H', ⟨by have := HK1.out; have := HJ9.out; omega⟩, ⟨by (with_reducible repeat (first | apply Kd.R_alloc | apply Kd.R_drewN | apply Kd.R_drew)); exact HO228.out⟩, ⟨by repeat (first | (with_reducible first | exact HI0.out | apply IsS59.alloc | apply IsS59.drewN | apply IsS59.drew | apply IsS59.set_0 | apply IsS59.set_1) | exact HI0.out)⟩, ⟨by repeat (first | (with_reducible first | exact HK.out | apply KeepBut.set_ | apply keep_drewN | apply keep_drew | apply keep_alloc) | exact HK.out)⟩, ⟨by repeat (first | (with_reducible first | exact HB.out | apply below_alloc | apply pw_below_drewN | apply below_drew1 | refine below_set ?_ (IsS59.ge HI0.out)) | exact HB.out)⟩⟩
                · rw [if_neg c52] at H
                  exact absurd H (by simp)
        · rw [if_neg c8] at H
          exact absurd H (by simp)

end Go.Proofs.YtcjiafjahfmdoaaFmt.A
