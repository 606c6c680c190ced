-- Written by a program of this session (gprint.py) out of the kit's print of the translation. Not trusted: Lean checks it.
import Derived.Test.YtdcaabjkklppjaaGreatFmtA0
import Derived.Test.YtdcaabjkklppjaaGreatFmtA2
import Derived.Test.YtdcaabjkklppjaaGreatFmtA3
import Derived.Test.YtdcaabjkklppjaaGreatFmtA3i
import Derived.Test.YtdcaabjkklppjaaGreatFmtGInr
namespace Go.Proofs.YtdcaabjkklppjaaGreatFmt.A
open Go.RowKit Go.Proofs.YtdcaabjkklppjaaGreatFmtW.PrintWords Go.Proofs.YtdcaabjkklppjaaGreatFmtW.PrintLast Go.Proofs.YtdcaabjkklppjaaGreatFmtW.PrintMore
attribute [local go_sem] max2_int min2_int max_two min_two max_three min_three max_four min_four   -- for this text's walks alone
set_option linter.unusedVariables false
set_option linter.unusedSimpArgs false

/-! ### laws_FnInspectBalance: function 3 -/
mutual
noncomputable def laws_FnInspectBalance.l0 : Nat → List (S29) → Int → List (S29) → Int → Int → Option (Bool)
  | 0, _, _, _, _, _ => none
  | k + 1, x3, x4, x15, x16, x17 => if x17 < x16 then (if 0 ≤ x17 then (if x17 < (x15.length : Int) then (if ((rd_T29 x15 x17).f0).toList = ([] : List UInt8) then (laws_FnInspectBalance.j1 k x3 (wrap64 (x4 - 1)) x17 x15 x16 x17 ((rd_T29 x15 x17).f0) ((rd_T29 x15 x17).f1) ((rd_T29 x15 x17).f2)) else (laws_FnInspectBalance.j1 k x3 x4 x17 x15 x16 x17 ((rd_T29 x15 x17).f0) ((rd_T29 x15 x17).f1) ((rd_T29 x15 x17).f2))) else (none)) else (none)) else (if x4 = 0 then (some (decide ((x3.length : Int) > 0))) else (some false))
noncomputable def laws_FnInspectBalance.j1 : Nat → List (S29) → Int → Int → List (S29) → Int → Int → ByteArray → ByteArray → Int → Option (Bool)
  | 0, _, _, _, _, _, _, _, _, _ => none
  | k + 1, x3, x4, x5, x15, x16, x17, x180000, x180001, x180002 => if x180002 = x4 then (if x4 < 0 then (laws_FnInspectBalance.j2 k x3 x4 x15 x16 x17 true x180000 x180001 x180002) else (if x4 = 0 then (if x180000.toList = ([] : List UInt8) then (laws_FnInspectBalance.j2 k x3 x4 x15 x16 x17 (decide (x5 < (wrap64 ((x3.length : Int) - 1)))) x180000 x180001 x180002) else (laws_FnInspectBalance.j2 k x3 x4 x15 x16 x17 false x180000 x180001 x180002)) else (laws_FnInspectBalance.j2 k x3 x4 x15 x16 x17 false x180000 x180001 x180002))) else (laws_FnInspectBalance.j2 k x3 x4 x15 x16 x17 true x180000 x180001 x180002)
noncomputable def laws_FnInspectBalance.j2 : Nat → List (S29) → Int → List (S29) → Int → Int → Bool → ByteArray → ByteArray → Int → Option (Bool)
  | 0, _, _, _, _, _, _, _, _, _ => none
  | k + 1, x3, x4, x15, x16, x17, x50, x180000, x180001, x180002 => if x50 = true then (some false) else (if x180000.toList = ([] : List UInt8) then (laws_FnInspectBalance.l0 k x3 x4 x15 x16 (wrap64 (x17 + 1))) else (laws_FnInspectBalance.l0 k x3 (wrap64 (x4 + 1)) x15 x16 (wrap64 (x17 + 1))))
end
noncomputable def laws_FnInspectBalance.f (k : Nat) (a0_0 : ByteArray) (a0_1 : ByteArray) (l0_2 : List (S24)) : Option (Bool) := (laws_zzFits10.f a0_0 a0_1 l0_2).bind fun t173 => (if t173 = true then ((spec_IsExprTree.f k a0_0 a0_1 l0_2).bind fun t174 => (if t174 = true then ((impl_Inspected.f a0_0 a0_1 l0_2 (⟨#[110, 111, 110, 101]⟩ : ByteArray)).bind fun t175 => (laws_FnInspectBalance.l0 k t175 0 t175 (t175.length : Int) 0)) else (some true))) else (some true))
theorem laws_FnInspectBalance.mono_l : ∀ k, (∀ y0 y1 y2 y3 y4, LeO (laws_FnInspectBalance.l0 k y0 y1 y2 y3 y4) (laws_FnInspectBalance.l0 (k + 1) y0 y1 y2 y3 y4)) ∧ (∀ y0 y1 y2 y3 y4 y5 y6 y7 y8, LeO (laws_FnInspectBalance.j1 k y0 y1 y2 y3 y4 y5 y6 y7 y8) (laws_FnInspectBalance.j1 (k + 1) y0 y1 y2 y3 y4 y5 y6 y7 y8)) ∧ (∀ y0 y1 y2 y3 y4 y5 y6 y7 y8, LeO (laws_FnInspectBalance.j2 k y0 y1 y2 y3 y4 y5 y6 y7 y8) (laws_FnInspectBalance.j2 (k + 1) y0 y1 y2 y3 y4 y5 y6 y7 y8))
  | 0 => ⟨fun _ _ _ _ _ r h => by simp [laws_FnInspectBalance.l0] at h, fun _ _ _ _ _ _ _ _ _ r h => by simp [laws_FnInspectBalance.j1] at h, fun _ _ _ _ _ _ _ _ _ r h => by simp [laws_FnInspectBalance.j2] at h⟩
  | k + 1 => by
    obtain ⟨ih0, ih1, ih2⟩ := laws_FnInspectBalance.mono_l k
    refine ⟨?_, ?_, ?_⟩
    · intro y0 y1 y2 y3 y4
      unfold laws_FnInspectBalance.l0
      repeat' first
      | (with_reducible exact ih0 _ _ _ _ _)
      | (with_reducible exact ih1 _ _ _ _ _ _ _ _ _)
      | (with_reducible exact ih2 _ _ _ _ _ _ _ _ _)
      | (with_reducible exact spec_IsExprTree.mono _ _ _ _)
      | (with_reducible exact LeO.refl _)
      | (with_reducible exact LeO.none _)
      | (with_reducible refine LeO.ite ?_ ?_)
      | (with_reducible refine LeO.bind ?_ (fun _ => ?_))
      | exact ih0 _ _ _ _ _
      | exact ih1 _ _ _ _ _ _ _ _ _
      | exact ih2 _ _ _ _ _ _ _ _ _
      | exact spec_IsExprTree.mono _ _ _ _
      | exact LeO.none _
      | refine LeO.ite ?_ ?_
      | refine LeO.bind ?_ (fun _ => ?_)
    · intro y0 y1 y2 y3 y4 y5 y6 y7 y8
      unfold laws_FnInspectBalance.j1
      repeat' first
      | (with_reducible exact ih0 _ _ _ _ _)
      | (with_reducible exact ih1 _ _ _ _ _ _ _ _ _)
      | (with_reducible exact ih2 _ _ _ _ _ _ _ _ _)
      | (with_reducible exact spec_IsExprTree.mono _ _ _ _)
      | (with_reducible exact LeO.refl _)
      | (with_reducible exact LeO.none _)
      | (with_reducible refine LeO.ite ?_ ?_)
      | (with_reducible refine LeO.bind ?_ (fun _ => ?_))
      | exact ih0 _ _ _ _ _
      | exact ih1 _ _ _ _ _ _ _ _ _
      | exact ih2 _ _ _ _ _ _ _ _ _
      | exact spec_IsExprTree.mono _ _ _ _
      | exact LeO.none _
      | refine LeO.ite ?_ ?_
      | refine LeO.bind ?_ (fun _ => ?_)
    · intro y0 y1 y2 y3 y4 y5 y6 y7 y8
      unfold laws_FnInspectBalance.j2
      repeat' first
      | (with_reducible exact ih0 _ _ _ _ _)
      | (with_reducible exact ih1 _ _ _ _ _ _ _ _ _)
      | (with_reducible exact ih2 _ _ _ _ _ _ _ _ _)
      | (with_reducible exact spec_IsExprTree.mono _ _ _ _)
      | (with_reducible exact LeO.refl _)
      | (with_reducible exact LeO.none _)
      | (with_reducible refine LeO.ite ?_ ?_)
      | (with_reducible refine LeO.bind ?_ (fun _ => ?_))
      | exact ih0 _ _ _ _ _
      | exact ih1 _ _ _ _ _ _ _ _ _
      | exact ih2 _ _ _ _ _ _ _ _ _
      | exact spec_IsExprTree.mono _ _ _ _
      | exact LeO.none _
      | refine LeO.ite ?_ ?_
      | refine LeO.bind ?_ (fun _ => ?_)
theorem laws_FnInspectBalance.mono : ∀ a0 a1 a2 k, LeO (laws_FnInspectBalance.f k a0 a1 a2) (laws_FnInspectBalance.f (k + 1) a0 a1 a2) := by
  intro a0 a1 a2 k
  obtain ⟨ih0, ih1, ih2⟩ := laws_FnInspectBalance.mono_l k
  unfold laws_FnInspectBalance.f
  repeat' first
      | (with_reducible exact ih0 _ _ _ _ _)
      | (with_reducible exact ih1 _ _ _ _ _ _ _ _ _)
      | (with_reducible exact ih2 _ _ _ _ _ _ _ _ _)
      | (with_reducible exact spec_IsExprTree.mono _ _ _ _)
      | (with_reducible exact LeO.refl _)
      | (with_reducible exact LeO.none _)
      | (with_reducible refine LeO.ite ?_ ?_)
      | (with_reducible refine LeO.bind ?_ (fun _ => ?_))
      | exact ih0 _ _ _ _ _
      | exact ih1 _ _ _ _ _ _ _ _ _
      | exact ih2 _ _ _ _ _ _ _ _ _
      | exact spec_IsExprTree.mono _ _ _ _
      | exact LeO.none _
      | refine LeO.ite ?_ ?_
      | refine LeO.bind ?_ (fun _ => ?_)
set_option maxHeartbeats 8000000 in
set_option maxRecDepth 100000 in
theorem laws_FnInspectBalance.calls (k : Nat) (a0_0 : ByteArray) (a0_1 : ByteArray) (A0_2 : Option Addr) (c0_2 : Nat) (l0_2 : List (S24)) (r : Bool) (w : World) (hr0_2 : Kd.C k24 w A0_2 l0_2.length l0_2) (hc0_2 : l0_2.length ≤ c0_2) (hT : TokTab tokS w) (h : laws_FnInspectBalance.f k a0_0 a0_1 l0_2 = some r) :
    Calls Tryz.prog 3 #[.agg #[.string a0_0, .string a0_1, .slice A0_2 l0_2.length c0_2]] w fun e w' => e = .returned (.bool r) ∧ Below w.heap.size w w' := by
  have HTT := Aside0.mk hT
  clear hT
  have hu24 := Tryz.underlying24
  have hu29 := Tryz.underlying29
  have HR0_2 := Aside0.mk hr0_2
  have HC0_2 := Aside0.mk hc0_2
  clear hr0_2 hc0_2
  have HB := Aside0.mk (Below.refl w.heap.size w)
  have H : ((laws_zzFits10.f a0_0 a0_1 l0_2).bind fun t173 => (if t173 = true then ((spec_IsExprTree.f k a0_0 a0_1 l0_2).bind fun t174 => (if t174 = true then ((impl_Inspected.f a0_0 a0_1 l0_2 (⟨#[110, 111, 110, 101]⟩ : ByteArray)).bind fun t175 => (laws_FnInspectBalance.l0 k t175 0 t175 (t175.length : Int) 0)) else (some true))) else (some true))) = some r := h
  clear h
  replace H := Option.bind_eq_some_iff.mp H
  obtain ⟨t173, A20, H⟩ := H
  replace H : (if t173 = true then ((spec_IsExprTree.f k a0_0 a0_1 l0_2).bind fun t174 => (if t174 = true then ((impl_Inspected.f a0_0 a0_1 l0_2 (⟨#[110, 111, 110, 101]⟩ : ByteArray)).bind fun t175 => (laws_FnInspectBalance.l0 k t175 0 t175 (t175.length : Int) 0)) else (some true))) else (some true)) = some r := H
  have A2 := Aside0.mk A20
  clear A20
  by_cases c3 : t173 = true
  · subst c3
    have H1 : ((spec_IsExprTree.f k a0_0 a0_1 l0_2).bind fun t174 => (if t174 = true then ((impl_Inspected.f a0_0 a0_1 l0_2 (⟨#[110, 111, 110, 101]⟩ : ByteArray)).bind fun t175 => (laws_FnInspectBalance.l0 k t175 0 t175 (t175.length : Int) 0)) else (some true))) = some r := by rw [if_pos rfl] at H; exact H
    clear H
    have H := H1
    clear H1
    replace H := Option.bind_eq_some_iff.mp H
    obtain ⟨t174, A40, H⟩ := H
    replace H : (if t174 = true then ((impl_Inspected.f a0_0 a0_1 l0_2 (⟨#[110, 111, 110, 101]⟩ : ByteArray)).bind fun t175 => (laws_FnInspectBalance.l0 k t175 0 t175 (t175.length : Int) 0)) else (some true)) = some r := H
    have A4 := Aside0.mk A40
    clear A40
    by_cases c5 : t174 = true
    · subst c5
      have H1 : ((impl_Inspected.f a0_0 a0_1 l0_2 (⟨#[110, 111, 110, 101]⟩ : ByteArray)).bind fun t175 => (laws_FnInspectBalance.l0 k t175 0 t175 (t175.length : Int) 0)) = some r := by rw [if_pos rfl] at H; exact H
      clear H
      have H := H1
      clear H1
      replace H := Option.bind_eq_some_iff.mp H
      obtain ⟨t175, A60, H⟩ := H
      replace H : (laws_FnInspectBalance.l0 k t175 0 t175 (t175.length : Int) 0) = some r := H
      have A6 := Aside0.mk A60
      clear A60
      have H' := Aside0.mk H
      clear H
      go_enter Tryz.func3, Tryz.ntmps3
      go_wp2_with (first | ((with_reducible refine gate_dst (N := 1) rfl ?_); (try (refine gate_guard (by rfl) ?_; dsimp only)); refine box_event ?hg (N := 1) ?hd (cs := #[.string a0_0, .string a0_1, .slice A0_2 l0_2.length c0_2]) (t := 24) ?hr ?_; (case hd => rfl); (case hg => rfl); (case hr => first | (go_simp; done) | (go_simp; rfl)); intro gb172 hg w7 hbox hb; have n0_ := Aside0.mk (below_step (by repeat (first | (with_reducible first | exact HB.out | apply below_alloc | apply pw_below_drewN | apply below_drew1) | exact HB.out)) hb); have n1_ := Aside0.mk (hbox); have n2_ := Aside0.mk ((by rw [hg]; exact (below_size (by repeat (first | (with_reducible first | exact HB.out | apply below_alloc | apply pw_below_drewN | apply below_drew1) | exact HB.out))) : w.heap.size ≤ gb172)); have n3_ := Aside0.mk ((by rw [hg]; exact (below_size (by repeat (first | (with_reducible first | exact HB.out | apply below_alloc | apply pw_below_drewN | apply below_drew1) | exact HB.out))) : w.heap.size ≤ gb172)); clear HB; have HB := n0_; have BK172 := n1_; have GW172 := n2_; have GE172 := n3_; clear n0_ n1_ n2_ n3_; clear hb hbox hg; have hcz8_0 : w7.cell? ⟨gb172, 0, none⟩ = some (.string a0_0) := (blk_cell BK172.out 0).trans rfl; have hcz8_1 : w7.cell? ⟨gb172, 1, none⟩ = some (.string a0_1) := (blk_cell BK172.out 1).trans rfl; have hcz8_2 : w7.cell? ⟨gb172, 2, none⟩ = some (.slice A0_2 l0_2.length c0_2) := (blk_cell BK172.out 2).trans rfl; have hfz8_0 := blk_frozen BK172.out 0; have hfz8_1 := blk_frozen BK172.out 1; have hfz8_2 := blk_frozen BK172.out 2) | ((with_reducible refine gate_callee (f := 9) rfl ?_); refine goesL_ (some 8) rfl rfl Tryz.func9 (by kernel_rfl) rfl #[.agg #[.string a0_0, .string a0_1, .slice A0_2 l0_2.length c0_2]] rfl (by (try simp only [List.map_toArray, List.map_cons, List.map_nil]); first | done | rfl | (simp only [List.length_drop, List.length_take]; rfl)) ?_; (with_reducible refine (laws_zzFits10.calls a0_0 a0_1 _ _ l0_2 true _ ?side1 ?side2 A2.out).mono ?_); (case side1 => repeat (first | exact (Kd.C_below HR0_2.out HB.out) | (with_reducible refine Kd.C_alloc ?_ _) | (with_reducible refine Kd.C_drewN ?_ _) | (with_reducible refine Kd.C_drew ?_))); (case side2 => exact HC0_2.out); rintro e w9 ⟨rfl, hb⟩; refine ⟨_, rfl, ?_⟩; have n0_ := Aside0.mk (blk_below (g := gb172) (o := .cells #[.string a0_0, .string a0_1, .slice A0_2 l0_2.length c0_2] 24 (0, 0)) (by (with_reducible repeat (first | refine blk_drewN ?_ _ | refine blk_drew ?_ | refine blk_alloc ?_ _)); exact BK172.out) hb); have n1_ := Aside0.mk (below_step (by repeat (first | (with_reducible first | exact HB.out | apply below_alloc | apply pw_below_drewN | apply below_drew1 | refine below_set ?_ GE172.out) | exact HB.out)) hb); clear BK172; clear HB; have BK172 := n0_; have HB := n1_; clear n0_ n1_; (try clear hb); (try clear hb2); (try clear hk); (try clear hi); have hcz10_0 : w9.cell? ⟨gb172, 0, none⟩ = some (.string a0_0) := (blk_cell BK172.out 0).trans rfl; have hcz10_1 : w9.cell? ⟨gb172, 1, none⟩ = some (.string a0_1) := (blk_cell BK172.out 1).trans rfl; have hcz10_2 : w9.cell? ⟨gb172, 2, none⟩ = some (.slice A0_2 l0_2.length c0_2) := (blk_cell BK172.out 2).trans rfl; have hfz10_0 := blk_frozen BK172.out 0; have hfz10_1 := blk_frozen BK172.out 1; have hfz10_2 := blk_frozen BK172.out 2) | ((with_reducible refine gate_callee (f := 10) rfl ?_); refine goesL_ (some 11) rfl rfl Tryz.func10 (by kernel_rfl) rfl #[.agg #[.string a0_0, .string a0_1, .slice A0_2 l0_2.length c0_2]] rfl (by (try simp only [List.map_toArray, List.map_cons, List.map_nil]); first | done | rfl | (simp only [List.length_drop, List.length_take]; rfl)) ?_; (with_reducible refine (spec_IsExprTree.calls k a0_0 a0_1 _ _ l0_2 true _ ?side1 ?side2 A4.out).mono ?_); (case side1 => repeat (first | exact (Kd.C_below HR0_2.out HB.out) | (with_reducible refine Kd.C_alloc ?_ _) | (with_reducible refine Kd.C_drewN ?_ _) | (with_reducible refine Kd.C_drew ?_))); (case side2 => exact HC0_2.out); rintro e w11 ⟨rfl, hb⟩; refine ⟨_, rfl, ?_⟩; have n0_ := Aside0.mk (blk_below (g := gb172) (o := .cells #[.string a0_0, .string a0_1, .slice A0_2 l0_2.length c0_2] 24 (0, 0)) (by (with_reducible repeat (first | refine blk_drewN ?_ _ | refine blk_drew ?_ | refine blk_alloc ?_ _)); exact BK172.out) hb); have n1_ := Aside0.mk (below_step (by repeat (first | (with_reducible first | exact HB.out | apply below_alloc | apply pw_below_drewN | apply below_drew1 | refine below_set ?_ GE172.out) | exact HB.out)) hb); clear BK172; clear HB; have BK172 := n0_; have HB := n1_; clear n0_ n1_; (try clear hb); (try clear hb2); (try clear hk); (try clear hi); have hcz12_0 : w11.cell? ⟨gb172, 0, none⟩ = some (.string a0_0) := (blk_cell BK172.out 0).trans rfl; have hcz12_1 : w11.cell? ⟨gb172, 1, none⟩ = some (.string a0_1) := (blk_cell BK172.out 1).trans rfl; have hcz12_2 : w11.cell? ⟨gb172, 2, none⟩ = some (.slice A0_2 l0_2.length c0_2) := (blk_cell BK172.out 2).trans rfl; have hfz12_0 := blk_frozen BK172.out 0; have hfz12_1 := blk_frozen BK172.out 1; have hfz12_2 := blk_frozen BK172.out 2) | ((with_reducible refine gate_callee (f := 11) rfl ?_); refine goesL_ (some 14) rfl rfl Tryz.func11 (by kernel_rfl) rfl #[.agg #[.string a0_0, .string a0_1, .slice A0_2 l0_2.length c0_2], .string (⟨#[110, 111, 110, 101]⟩ : ByteArray)] rfl (by (try simp only [List.map_toArray, List.map_cons, List.map_nil]); first | done | rfl | (simp only [List.length_drop, List.length_take]; rfl)) ?_; (with_reducible refine (impl_Inspected.calls a0_0 a0_1 _ _ l0_2 (⟨#[110, 111, 110, 101]⟩ : ByteArray) t175 _ ?side1 ?side2 (HTT.out.below ?side3) A6.out).mono ?_); (case side1 => repeat (first | exact (Kd.C_below HR0_2.out HB.out) | (with_reducible refine Kd.C_alloc ?_ _) | (with_reducible refine Kd.C_drewN ?_ _) | (with_reducible refine Kd.C_drew ?_))); (case side2 => exact HC0_2.out); (case side3 => repeat (first | (with_reducible first | exact HB.out | apply below_alloc | apply pw_below_drewN | apply below_drew1 | refine below_set ?_ GE172.out) | exact HB.out)); rintro e w13 ⟨v176, rfl, ho0, hb⟩; refine ⟨_, rfl, ?_⟩; have n0_ := Aside0.mk (Kd.R_lower ho0 (below_size (by repeat (first | (with_reducible first | exact HB.out | apply below_alloc | apply pw_below_drewN | apply below_drew1 | refine below_set ?_ GE172.out) | exact HB.out)))); have n1_ := Aside0.mk (blk_below (g := gb172) (o := .cells #[.string a0_0, .string a0_1, .slice A0_2 l0_2.length c0_2] 24 (0, 0)) (by (with_reducible repeat (first | refine blk_drewN ?_ _ | refine blk_drew ?_ | refine blk_alloc ?_ _)); exact BK172.out) hb); have n2_ := Aside0.mk (below_step (by repeat (first | (with_reducible first | exact HB.out | apply below_alloc | apply pw_below_drewN | apply below_drew1 | refine below_set ?_ GE172.out) | exact HB.out)) hb); clear BK172; clear HB; have HO177 := n0_; have BK172 := n1_; have HB := n2_; clear n0_ n1_ n2_; (try clear hb); (try clear hb2); (try clear hk); (try clear hi); (try clear ho0); obtain ⟨Ao14, co14, eo14⟩ := Kd.R_slice HO177.out; subst eo14))
      go_loopg [4, 17] k (fun kq v4 v17 w' => ∃ (x4_1 : Int) (x17_1 : Int), v4 = .int .i64 x4_1 ∧ v17 = .int .i64 x17_1 ∧ Aside0 (laws_FnInspectBalance.l0 kq t175 x4_1 t175 (t175.length : Int) x17_1 = some r) ∧ Aside0 (kq ≤ k) ∧ Aside0 (Kd.R k29 29 w' w.heap.size (fun _ => True) (.slice Ao14 t175.length co14) t175) ∧ Aside0 (Kd.R k29 29 w' w.heap.size (fun _ => True) (.slice Ao14 t175.length co14) t175) ∧ Aside0 (w'.heap[gb172]? = some (.cells #[.string a0_0, .string a0_1, (.slice A0_2 l0_2.length c0_2)] 24 (0, 0))) ∧ Aside0 (Below w.heap.size w w'))
      case atStart => exact ⟨(0), (0), (by first | rfl | (simp; done) | (simp [*]; done)), (by first | rfl | (simp; done) | (simp [*]; done)), H', ⟨Nat.le_refl _⟩, ⟨by (with_reducible repeat (first | apply Kd.R_alloc | apply Kd.R_drewN | apply Kd.R_drew)); exact HO177.out⟩, ⟨by (with_reducible repeat (first | apply Kd.R_alloc | apply Kd.R_drewN | apply Kd.R_drew)); exact HO177.out⟩, ⟨by (with_reducible repeat (first | refine blk_drewN ?_ _ | refine blk_drew ?_ | refine blk_alloc ?_ _)); exact BK172.out⟩, ⟨by repeat (first | (with_reducible first | exact HB.out | apply below_alloc | apply pw_below_drewN | apply below_drew1 | refine below_set ?_ GE172.out) | exact HB.out)⟩⟩
      case round =>
        clear H'
        try clear c1
        try clear p2
        try clear c3
        try clear c5
        try clear c9
        try clear c10
        try clear c11
        try clear hcz10_0
        try clear hcz10_1
        try clear hcz10_2
        try clear hcz12_0
        try clear hcz12_1
        try clear hcz12_2
        try clear hcz8_0
        try clear hcz8_1
        try clear hcz8_2
        try clear hfz10_0
        try clear hfz10_1
        try clear hfz10_2
        try clear hfz12_0
        try clear hfz12_1
        try clear hfz12_2
        try clear hfz8_0
        try clear hfz8_1
        try clear hfz8_2
        obtain ⟨x4_1, x17_1, rfl, rfl, HA, HK1, HO_3, HO_15, BK172, HB⟩ := hrel
        cases gk with
        | zero => exact absurd HA.out (by simp [laws_FnInspectBalance.l0])
        | succ k1 =>
          have H := HA.out
          clear HA
          simp only [laws_FnInspectBalance.l0] at H
          by_cases c15 : x17_1 < (t175.length : Int)
          · rw [if_pos c15] at H
            have c15b0 : decide (x17_1 < (t175.length : Int)) = true := decide_eq_true c15
            clear c15
            by_cases c16 : 0 ≤ x17_1
            · rw [if_pos c16] at H
              have c16b0 : decide (0 ≤ x17_1) = true := decide_eq_true c16
              clear c16
              by_cases c17 : x17_1 < (t175.length : Int)
              · rw [if_pos c17] at H
                have c17b0 : decide (x17_1 < (t175.length : Int)) = true := decide_eq_true c17
                clear c17
                have HC18 := Aside0.mk H
                clear H
                have p178 : 0 ≤ (x17_1 : Int) := of_decide_eq_true (by first | (with_reducible assumption) | assumption)
                have q178 : x17_1 < (t175.length : Int) := of_decide_eq_true (by first | (with_reducible assumption) | assumption)
                obtain ⟨ad178, e178, hx178_0, hx178_1, hx178_2⟩ := at_T29 (Kd.R_reads' HO_15.out).2.2 x17_1 p178 q178
                cases e178
                replace p178 := eq_true p178
                replace q178 := eq_true q178
                go_upto_if 24 with (first | ((with_reducible refine gate_dst (N := 6) rfl ?_); (try (refine gate_guard (by rfl) ?_; dsimp only)); refine box_event ?hg (N := 6) ?hd (cs := #[.string (⟨#[]⟩ : ByteArray), .string (⟨#[]⟩ : ByteArray), .int .i64 0]) (t := 29) ?hr ?_; (case hd => rfl); (case hg => rfl); (case hr => first | (go_simp; done) | (go_simp; rfl)); intro gb179 hg w19 hbox hb; have n0_ := Aside0.mk (Kd.R_below (Kd.R_elderB (by (with_reducible repeat (first | apply Kd.R_alloc | apply Kd.R_drewN | apply Kd.R_drew)); exact HO_3.out) gb179 (Nat.le_of_eq hg.symm)) hb); have n1_ := Aside0.mk (Kd.R_below (Kd.R_elderB (by (with_reducible repeat (first | apply Kd.R_alloc | apply Kd.R_drewN | apply Kd.R_drew)); exact HO_15.out) gb179 (Nat.le_of_eq hg.symm)) hb); have n2_ := Aside0.mk (blk_below (g := gb172) (o := .cells #[.string a0_0, .string a0_1, .slice A0_2 l0_2.length c0_2] 24 (0, 0)) (by (with_reducible repeat (first | refine blk_drewN ?_ _ | refine blk_drew ?_ | refine blk_alloc ?_ _)); exact BK172.out) hb); have n3_ := Aside0.mk (below_step (by repeat (first | (with_reducible first | exact HB.out | apply below_alloc | apply pw_below_drewN | apply below_drew1 | refine below_set ?_ GE172.out) | exact HB.out)) hb); have n4_ := Aside0.mk (hbox); have n5_ := Aside0.mk ((by rw [hg]; exact (below_size (by repeat (first | (with_reducible first | exact HB.out | apply below_alloc | apply pw_below_drewN | apply below_drew1 | refine below_set ?_ GE172.out) | exact HB.out))) : w.heap.size ≤ gb179)); have n6_ := Aside0.mk ((by rw [hg]; exact (below_size (by repeat (first | (with_reducible first | exact HB.out | apply below_alloc | apply pw_below_drewN | apply below_drew1 | refine below_set ?_ GE172.out) | exact HB.out))) : w.heap.size ≤ gb179)); have n7_ := Aside0.mk ((by rw [hg]; exact Nat.ne_of_lt (blk_lt (g := gb172) (o := .cells #[.string a0_0, .string a0_1, .slice A0_2 l0_2.length c0_2] 24 (0, 0)) (by (with_reducible repeat (first | refine blk_drewN ?_ _ | refine blk_drew ?_ | refine blk_alloc ?_ _)); exact BK172.out)) : gb172 ≠ gb179)); have n8_ := Aside0.mk ((by rw [hg]; exact Nat.ne_of_gt (blk_lt (g := gb172) (o := .cells #[.string a0_0, .string a0_1, .slice A0_2 l0_2.length c0_2] 24 (0, 0)) (by (with_reducible repeat (first | refine blk_drewN ?_ _ | refine blk_drew ?_ | refine blk_alloc ?_ _)); exact BK172.out)) : gb179 ≠ gb172)); clear HO_3; clear HO_15; clear BK172; clear HB; have HO_3 := n0_; have HO_15 := n1_; have BK172 := n2_; have HB := n3_; have BK179 := n4_; have GW179 := n5_; have GE179 := n6_; have NB172_179 := n7_; have NB179_172 := n8_; clear n0_ n1_ n2_ n3_ n4_ n5_ n6_ n7_ n8_; clear hb hbox hg; have hnb20 := NB179_172.out; have hnc20 := NB172_179.out; have hcz21_0 : w19.cell? ⟨gb179, 0, none⟩ = some (.string (⟨#[]⟩ : ByteArray)) := (blk_cell BK179.out 0).trans rfl; have hcz21_1 : w19.cell? ⟨gb179, 1, none⟩ = some (.string (⟨#[]⟩ : ByteArray)) := (blk_cell BK179.out 1).trans rfl; have hcz21_2 : w19.cell? ⟨gb179, 2, none⟩ = some (.int .i64 0) := (blk_cell BK179.out 2).trans rfl; have hfz21_0 := blk_frozen BK179.out 0; have hfz21_1 := blk_frozen BK179.out 1; have hfz21_2 := blk_frozen BK179.out 2))
                (try simp only [Act.put, List.setIfInBounds_toArray, List.set_cons_zero, List.set_cons_succ])
                go_cut [4] (fun v4 wc => ∃ (kq : Nat) (x4_17 : Int), v4 = .int .i64 x4_17 ∧ Aside0 (laws_FnInspectBalance.j1 kq t175 x4_17 x17_1 t175 (t175.length : Int) x17_1 ((rd_T29 t175 x17_1).f0) ((rd_T29 t175 x17_1).f1) ((rd_T29 t175 x17_1).f2) = some r) ∧ Aside0 (kq ≤ k1) ∧ Aside0 (Kd.R k29 29 wc w.heap.size (fun k_ => k_ ≠ gb179) (.slice (some ad178) t175.length co14) t175) ∧ Aside0 (Kd.R k29 29 wc w.heap.size (fun k_ => k_ ≠ gb179) (.slice (some ad178) t175.length co14) t175) ∧ Aside0 (wc.heap[gb172]? = some (.cells #[.string a0_0, .string a0_1, (.slice A0_2 l0_2.length c0_2)] 24 (0, 0))) ∧ Aside0 (wc.heap[gb179]? = some (.cells #[.string ((rd_T29 t175 x17_1).f0), .string ((rd_T29 t175 x17_1).f1), .int .i64 ((rd_T29 t175 x17_1).f2)] 29 (0, 0))) ∧ Aside0 (Below w.heap.size w wc))
                case first =>
                  have H := HC18.out
                  clear HC18
                  by_cases c22 : ((rd_T29 t175 x17_1).f0).toList = ([] : List UInt8)
                  · rw [if_pos c22] at H
                    have c22b0 : (((rd_T29 t175 x17_1).f0).toList == ([] : List UInt8)) = true := beq_iff_eq.mpr c22
                    have c22e0 : ((rd_T29 t175 x17_1).f0).toList.isEmpty = true := List.isEmpty_iff.2 c22
                    have c22b1 : (((rd_T29 t175 x17_1).f0).toList != ([] : List UInt8)) = false := bne_eq_false_iff_eq.mpr c22
                    clear c22
                    (first | rw [c22b0] | rw [c22e0] | (simp only [i64_w, i32_w]; rw [c22b0]) | skip)
                    have H' := Aside0.mk H
                    clear H
                    go_wp2
                    go_meet
                    case rel => exact ⟨_, (wrap64 (x4_1 - 1)), (by first | rfl | (simp; done) | (simp [*]; done)), H', ⟨by have := HK1.out; first | omega | exact Nat.le_refl _⟩, ⟨by (with_reducible repeat (first | apply Kd.R_alloc | apply Kd.R_drewN | apply Kd.R_drew)); exact Kd.R_mono (Kd.R_far (p := ⟨gb179, 2, none⟩) (Kd.R_far (p := ⟨gb179, 1, none⟩) (Kd.R_far (p := ⟨gb179, 0, none⟩) (Kd.R_mono HO_3.out (fun k_ hk => (⟨hk, hk.2⟩ : _ ∧ k_ ≠ gb179))) (fun _ hk => hk.2) (.string ((rd_T29 t175 x17_1).f0))) (fun _ hk => hk.2) (.string ((rd_T29 t175 x17_1).f1))) (fun _ hk => hk.2) (.int .i64 ((rd_T29 t175 x17_1).f2))) (fun _ hk => hk.1.2)⟩, ⟨by (with_reducible repeat (first | apply Kd.R_alloc | apply Kd.R_drewN | apply Kd.R_drew)); exact Kd.R_mono (Kd.R_far (p := ⟨gb179, 2, none⟩) (Kd.R_far (p := ⟨gb179, 1, none⟩) (Kd.R_far (p := ⟨gb179, 0, none⟩) (Kd.R_mono HO_15.out (fun k_ hk => (⟨hk, hk.2⟩ : _ ∧ k_ ≠ gb179))) (fun _ hk => hk.2) (.string ((rd_T29 t175 x17_1).f0))) (fun _ hk => hk.2) (.string ((rd_T29 t175 x17_1).f1))) (fun _ hk => hk.2) (.int .i64 ((rd_T29 t175 x17_1).f2))) (fun _ hk => hk.1.2)⟩, ⟨by (with_reducible repeat (first | refine blk_drewN ?_ _ | refine blk_drew ?_ | refine blk_alloc ?_ _)); refine blk_far ?_ NB172_179.out _; (with_reducible repeat (first | refine blk_drewN ?_ _ | refine blk_drew ?_ | refine blk_alloc ?_ _)); refine blk_far ?_ NB172_179.out _; (with_reducible repeat (first | refine blk_drewN ?_ _ | refine blk_drew ?_ | refine blk_alloc ?_ _)); refine blk_far ?_ NB172_179.out _; (with_reducible repeat (first | refine blk_drewN ?_ _ | refine blk_drew ?_ | refine blk_alloc ?_ _)); exact BK172.out⟩, ⟨by (with_reducible repeat (first | refine blk_drewN ?_ _ | refine blk_drew ?_ | refine blk_alloc ?_ _)); refine blk_put (cs := #[.string ((rd_T29 t175 x17_1).f0), .string ((rd_T29 t175 x17_1).f1), .int .i64 0]) ?_ 2 _ rfl; (with_reducible repeat (first | refine blk_drewN ?_ _ | refine blk_drew ?_ | refine blk_alloc ?_ _)); refine blk_put (cs := #[.string ((rd_T29 t175 x17_1).f0), .string (⟨#[]⟩ : ByteArray), .int .i64 0]) ?_ 1 _ rfl; (with_reducible repeat (first | refine blk_drewN ?_ _ | refine blk_drew ?_ | refine blk_alloc ?_ _)); refine blk_put (cs := #[.string (⟨#[]⟩ : ByteArray), .string (⟨#[]⟩ : ByteArray), .int .i64 0]) ?_ 0 _ rfl; (with_reducible repeat (first | refine blk_drewN ?_ _ | refine blk_drew ?_ | refine blk_alloc ?_ _)); exact BK179.out⟩, ⟨by repeat (first | (with_reducible first | exact HB.out | apply below_alloc | apply pw_below_drewN | apply below_drew1 | refine below_set ?_ GE172.out | refine below_set ?_ GE179.out) | exact HB.out)⟩⟩
                  · rw [if_neg c22] at H
                    have c22b0 : (((rd_T29 t175 x17_1).f0).toList == ([] : List UInt8)) = false := beq_eq_false_iff_ne.mpr c22
                    have c22e0 : ((rd_T29 t175 x17_1).f0).toList.isEmpty = false := Bool.eq_false_iff.2 (fun h_ => c22 (List.isEmpty_iff.1 h_))
                    have c22b1 : (((rd_T29 t175 x17_1).f0).toList != ([] : List UInt8)) = true := bne_iff_ne.mpr c22
                    (first | rw [c22b0] | rw [c22e0] | (simp only [i64_w, i32_w]; rw [c22b0]) | skip)
                    have H' := Aside0.mk H
                    clear H
                    go_wp2
                    go_meet
                    case rel => exact ⟨_, (x4_1), (by first | rfl | (simp; done) | (simp [*]; done)), H', ⟨by have := HK1.out; first | omega | exact Nat.le_refl _⟩, ⟨by (with_reducible repeat (first | apply Kd.R_alloc | apply Kd.R_drewN | apply Kd.R_drew)); exact Kd.R_mono (Kd.R_far (p := ⟨gb179, 2, none⟩) (Kd.R_far (p := ⟨gb179, 1, none⟩) (Kd.R_far (p := ⟨gb179, 0, none⟩) (Kd.R_mono HO_3.out (fun k_ hk => (⟨hk, hk.2⟩ : _ ∧ k_ ≠ gb179))) (fun _ hk => hk.2) (.string ((rd_T29 t175 x17_1).f0))) (fun _ hk => hk.2) (.string ((rd_T29 t175 x17_1).f1))) (fun _ hk => hk.2) (.int .i64 ((rd_T29 t175 x17_1).f2))) (fun _ hk => hk.1.2)⟩, ⟨by (with_reducible repeat (first | apply Kd.R_alloc | apply Kd.R_drewN | apply Kd.R_drew)); exact Kd.R_mono (Kd.R_far (p := ⟨gb179, 2, none⟩) (Kd.R_far (p := ⟨gb179, 1, none⟩) (Kd.R_far (p := ⟨gb179, 0, none⟩) (Kd.R_mono HO_15.out (fun k_ hk => (⟨hk, hk.2⟩ : _ ∧ k_ ≠ gb179))) (fun _ hk => hk.2) (.string ((rd_T29 t175 x17_1).f0))) (fun _ hk => hk.2) (.string ((rd_T29 t175 x17_1).f1))) (fun _ hk => hk.2) (.int .i64 ((rd_T29 t175 x17_1).f2))) (fun _ hk => hk.1.2)⟩, ⟨by (with_reducible repeat (first | refine blk_drewN ?_ _ | refine blk_drew ?_ | refine blk_alloc ?_ _)); refine blk_far ?_ NB172_179.out _; (with_reducible repeat (first | refine blk_drewN ?_ _ | refine blk_drew ?_ | refine blk_alloc ?_ _)); refine blk_far ?_ NB172_179.out _; (with_reducible repeat (first | refine blk_drewN ?_ _ | refine blk_drew ?_ | refine blk_alloc ?_ _)); refine blk_far ?_ NB172_179.out _; (with_reducible repeat (first | refine blk_drewN ?_ _ | refine blk_drew ?_ | refine blk_alloc ?_ _)); exact BK172.out⟩, ⟨by (with_reducible repeat (first | refine blk_drewN ?_ _ | refine blk_drew ?_ | refine blk_alloc ?_ _)); refine blk_put (cs := #[.string ((rd_T29 t175 x17_1).f0), .string ((rd_T29 t175 x17_1).f1), .int .i64 0]) ?_ 2 _ rfl; (with_reducible repeat (first | refine blk_drewN ?_ _ | refine blk_drew ?_ | refine blk_alloc ?_ _)); refine blk_put (cs := #[.string ((rd_T29 t175 x17_1).f0), .string (⟨#[]⟩ : ByteArray), .int .i64 0]) ?_ 1 _ rfl; (with_reducible repeat (first | refine blk_drewN ?_ _ | refine blk_drew ?_ | refine blk_alloc ?_ _)); refine blk_put (cs := #[.string (⟨#[]⟩ : ByteArray), .string (⟨#[]⟩ : ByteArray), .int .i64 0]) ?_ 0 _ rfl; (with_reducible repeat (first | refine blk_drewN ?_ _ | refine blk_drew ?_ | refine blk_alloc ?_ _)); exact BK179.out⟩, ⟨by repeat (first | (with_reducible first | exact HB.out | apply below_alloc | apply pw_below_drewN | apply below_drew1 | refine below_set ?_ GE172.out | refine below_set ?_ GE179.out) | exact HB.out)⟩⟩
                case rest =>
                  clear HC18
                  try clear c1
                  try clear p1
                  try clear q1
                  try clear hx1
                  try clear c2
                  try clear p2
                  try clear c3
                  try clear c5
                  try clear p6
                  try clear c9
                  try clear c10
                  try clear c11
                  try clear c15
                  try clear c15b0
                  try clear c16
                  try clear c16b0
                  try clear c17
                  try clear c17b0
                  try clear p17
                  try clear q17
                  try clear hx17
                  try clear c20
                  try clear c22
                  try clear c22b0
                  try clear c22b1
                  try clear hcz10_0
                  try clear hcz10_1
                  try clear hcz10_2
                  try clear hcz12_0
                  try clear hcz12_1
                  try clear hcz12_2
                  try clear hcz21_0
                  try clear hcz21_1
                  try clear hcz21_2
                  try clear hcz8_0
                  try clear hcz8_1
                  try clear hcz8_2
                  try clear hfz10_0
                  try clear hfz10_1
                  try clear hfz10_2
                  try clear hfz12_0
                  try clear hfz12_1
                  try clear hfz12_2
                  try clear hfz21_0
                  try clear hfz21_1
                  try clear hfz21_2
                  try clear hfz8_0
                  try clear hfz8_1
                  try clear hfz8_2
                  try clear hx178_0
                  try clear hx178_1
                  try clear hx178_2
                  try clear p178
                  try clear p2
                  try clear q178
                  obtain ⟨kq, x4_17, rfl, HA, HJ17, HO_3, HO_15, BK172, BK179, HB⟩ := hcut
                  cases kq with
                  | zero => exact absurd HA.out (by simp [laws_FnInspectBalance.j1])
                  | succ kj17 =>
                    have H := HA.out
                    clear HA
                    simp only [laws_FnInspectBalance.j1] at H
                    have HC23 := Aside0.mk H
                    clear H
                    go_upto_region 11 with (fail)
                    go_cut [50] (fun v50 wc => ∃ (kq : Nat) (x50_22 : Bool), v50 = .bool x50_22 ∧ Aside0 (laws_FnInspectBalance.j2 kq t175 x4_17 t175 (t175.length : Int) x17_1 x50_22 ((rd_T29 t175 x17_1).f0) ((rd_T29 t175 x17_1).f1) ((rd_T29 t175 x17_1).f2) = some r) ∧ Aside0 (kq ≤ kj17) ∧ Aside0 (Kd.R k29 29 wc w.heap.size (fun k_ => k_ ≠ gb179) (.slice (some ad178) t175.length co14) t175) ∧ Aside0 (Kd.R k29 29 wc w.heap.size (fun k_ => k_ ≠ gb179) (.slice (some ad178) t175.length co14) t175) ∧ Aside0 (wc.heap[gb172]? = some (.cells #[.string a0_0, .string a0_1, (.slice A0_2 l0_2.length c0_2)] 24 (0, 0))) ∧ Aside0 (wc.heap[gb179]? = some (.cells #[.string ((rd_T29 t175 x17_1).f0), .string ((rd_T29 t175 x17_1).f1), .int .i64 ((rd_T29 t175 x17_1).f2)] 29 (0, 0))) ∧ Aside0 (Below w.heap.size w wc))
                    case first =>
                      have H := HC23.out
                      clear HC23
                      by_cases c24 : ((rd_T29 t175 x17_1).f2) = x4_17
                      · rw [if_pos c24] at H
                        have c24b0 : (((rd_T29 t175 x17_1).f2) == x4_17) = true := beq_iff_eq.mpr c24
                        have c24b1 : (((rd_T29 t175 x17_1).f2) != x4_17) = false := bne_eq_false_iff_eq.mpr c24
                        clear c24
                        (first | rw [c24b0] | (simp only [i64_w, i32_w]; rw [c24b0]) | skip)
                        by_cases c25 : x4_17 < 0
                        · rw [if_pos c25] at H
                          have c25b0 : decide (x4_17 < 0) = true := decide_eq_true c25
                          clear c25
                          have H' := Aside0.mk H
                          clear H
                          have hnb26 := NB179_172.out
                          have hnc26 := NB172_179.out
                          have hcz27_0 : wc.cell? ⟨gb179, 0, none⟩ = some (.string ((rd_T29 t175 x17_1).f0)) := (blk_cell BK179.out 0).trans rfl
                          have hcz27_1 : wc.cell? ⟨gb179, 1, none⟩ = some (.string ((rd_T29 t175 x17_1).f1)) := (blk_cell BK179.out 1).trans rfl
                          have hcz27_2 : wc.cell? ⟨gb179, 2, none⟩ = some (.int .i64 ((rd_T29 t175 x17_1).f2)) := (blk_cell BK179.out 2).trans rfl
                          have hfz27_0 := blk_frozen BK179.out 0
                          have hfz27_1 := blk_frozen BK179.out 1
                          have hfz27_2 := blk_frozen BK179.out 2
                          go_wp2
                          go_meet
                          case rel => exact ⟨_, (true), (by first | rfl | (simp; done) | (simp [*]; done)), H', ⟨by have := HK1.out; have := HJ17.out; first | omega | exact Nat.le_refl _⟩, ⟨by (with_reducible repeat (first | apply Kd.R_alloc | apply Kd.R_drewN | apply Kd.R_drew)); exact HO_3.out⟩, ⟨by (with_reducible repeat (first | apply Kd.R_alloc | apply Kd.R_drewN | apply Kd.R_drew)); exact HO_15.out⟩, ⟨by (with_reducible repeat (first | refine blk_drewN ?_ _ | refine blk_drew ?_ | refine blk_alloc ?_ _)); exact BK172.out⟩, ⟨by (with_reducible repeat (first | refine blk_drewN ?_ _ | refine blk_drew ?_ | refine blk_alloc ?_ _)); exact BK179.out⟩, ⟨by repeat (first | (with_reducible first | exact HB.out | apply below_alloc | apply pw_below_drewN | apply below_drew1 | refine below_set ?_ GE172.out | refine below_set ?_ GE179.out) | exact HB.out)⟩⟩
                        · rw [if_neg c25] at H
                          have c25b0 : decide (x4_17 < 0) = false := decide_eq_false c25
                          clear c25
                          by_cases c28 : x4_17 = 0
                          · rw [if_pos c28] at H
                            have c28b0 : (x4_17 == 0) = true := beq_iff_eq.mpr c28
                            have c28b1 : (x4_17 != 0) = false := bne_eq_false_iff_eq.mpr c28
                            clear c28
                            by_cases c29 : ((rd_T29 t175 x17_1).f0).toList = ([] : List UInt8)
                            · rw [if_pos c29] at H
                              have c29b0 : (((rd_T29 t175 x17_1).f0).toList == ([] : List UInt8)) = true := beq_iff_eq.mpr c29
                              have c29e0 : ((rd_T29 t175 x17_1).f0).toList.isEmpty = true := List.isEmpty_iff.2 c29
                              have c29b1 : (((rd_T29 t175 x17_1).f0).toList != ([] : List UInt8)) = false := bne_eq_false_iff_eq.mpr c29
                              clear c29
                              have H' := Aside0.mk H
                              clear H
                              have hnb30 := NB179_172.out
                              have hnc30 := NB172_179.out
                              have hcz31_0 : wc.cell? ⟨gb179, 0, none⟩ = some (.string ((rd_T29 t175 x17_1).f0)) := (blk_cell BK179.out 0).trans rfl
                              have hcz31_1 : wc.cell? ⟨gb179, 1, none⟩ = some (.string ((rd_T29 t175 x17_1).f1)) := (blk_cell BK179.out 1).trans rfl
                              have hcz31_2 : wc.cell? ⟨gb179, 2, none⟩ = some (.int .i64 ((rd_T29 t175 x17_1).f2)) := (blk_cell BK179.out 2).trans rfl
                              have hfz31_0 := blk_frozen BK179.out 0
                              have hfz31_1 := blk_frozen BK179.out 1
                              have hfz31_2 := blk_frozen BK179.out 2
                              go_wp2
                              go_meet
                              case rel => exact ⟨_, (decide (x17_1 < (wrap64 ((t175.length : Int) - 1)))), (by first | rfl | (simp; done) | (simp [*]; done)), H', ⟨by have := HK1.out; have := HJ17.out; first | omega | exact Nat.le_refl _⟩, ⟨by (with_reducible repeat (first | apply Kd.R_alloc | apply Kd.R_drewN | apply Kd.R_drew)); exact HO_3.out⟩, ⟨by (with_reducible repeat (first | apply Kd.R_alloc | apply Kd.R_drewN | apply Kd.R_drew)); exact HO_15.out⟩, ⟨by (with_reducible repeat (first | refine blk_drewN ?_ _ | refine blk_drew ?_ | refine blk_alloc ?_ _)); exact BK172.out⟩, ⟨by (with_reducible repeat (first | refine blk_drewN ?_ _ | refine blk_drew ?_ | refine blk_alloc ?_ _)); exact BK179.out⟩, ⟨by repeat (first | (with_reducible first | exact HB.out | apply below_alloc | apply pw_below_drewN | apply below_drew1 | refine below_set ?_ GE172.out | refine below_set ?_ GE179.out) | exact HB.out)⟩⟩
                            · rw [if_neg c29] at H
                              have c29b0 : (((rd_T29 t175 x17_1).f0).toList == ([] : List UInt8)) = false := beq_eq_false_iff_ne.mpr c29
                              have c29e0 : ((rd_T29 t175 x17_1).f0).toList.isEmpty = false := Bool.eq_false_iff.2 (fun h_ => c29 (List.isEmpty_iff.1 h_))
                              have c29b1 : (((rd_T29 t175 x17_1).f0).toList != ([] : List UInt8)) = true := bne_iff_ne.mpr c29
                              have H' := Aside0.mk H
                              clear H
                              have hnb32 := NB179_172.out
                              have hnc32 := NB172_179.out
                              have hcz33_0 : wc.cell? ⟨gb179, 0, none⟩ = some (.string ((rd_T29 t175 x17_1).f0)) := (blk_cell BK179.out 0).trans rfl
                              have hcz33_1 : wc.cell? ⟨gb179, 1, none⟩ = some (.string ((rd_T29 t175 x17_1).f1)) := (blk_cell BK179.out 1).trans rfl
                              have hcz33_2 : wc.cell? ⟨gb179, 2, none⟩ = some (.int .i64 ((rd_T29 t175 x17_1).f2)) := (blk_cell BK179.out 2).trans rfl
                              have hfz33_0 := blk_frozen BK179.out 0
                              have hfz33_1 := blk_frozen BK179.out 1
                              have hfz33_2 := blk_frozen BK179.out 2
                              go_wp2
                              go_meet
                              case rel => exact ⟨_, (false), (by first | rfl | (simp; done) | (simp [*]; done)), H', ⟨by have := HK1.out; have := HJ17.out; first | omega | exact Nat.le_refl _⟩, ⟨by (with_reducible repeat (first | apply Kd.R_alloc | apply Kd.R_drewN | apply Kd.R_drew)); exact HO_3.out⟩, ⟨by (with_reducible repeat (first | apply Kd.R_alloc | apply Kd.R_drewN | apply Kd.R_drew)); exact HO_15.out⟩, ⟨by (with_reducible repeat (first | refine blk_drewN ?_ _ | refine blk_drew ?_ | refine blk_alloc ?_ _)); exact BK172.out⟩, ⟨by (with_reducible repeat (first | refine blk_drewN ?_ _ | refine blk_drew ?_ | refine blk_alloc ?_ _)); exact BK179.out⟩, ⟨by repeat (first | (with_reducible first | exact HB.out | apply below_alloc | apply pw_below_drewN | apply below_drew1 | refine below_set ?_ GE172.out | refine below_set ?_ GE179.out) | exact HB.out)⟩⟩
                          · rw [if_neg c28] at H
                            have c28b0 : (x4_17 == 0) = false := beq_eq_false_iff_ne.mpr c28
                            have c28b1 : (x4_17 != 0) = true := bne_iff_ne.mpr c28
                            have H' := Aside0.mk H
                            clear H
                            have hnb34 := NB179_172.out
                            have hnc34 := NB172_179.out
                            have hcz35_0 : wc.cell? ⟨gb179, 0, none⟩ = some (.string ((rd_T29 t175 x17_1).f0)) := (blk_cell BK179.out 0).trans rfl
                            have hcz35_1 : wc.cell? ⟨gb179, 1, none⟩ = some (.string ((rd_T29 t175 x17_1).f1)) := (blk_cell BK179.out 1).trans rfl
                            have hcz35_2 : wc.cell? ⟨gb179, 2, none⟩ = some (.int .i64 ((rd_T29 t175 x17_1).f2)) := (blk_cell BK179.out 2).trans rfl
                            have hfz35_0 := blk_frozen BK179.out 0
                            have hfz35_1 := blk_frozen BK179.out 1
                            have hfz35_2 := blk_frozen BK179.out 2
                            go_wp2
                            go_meet
                            case rel => exact ⟨_, (false), (by first | rfl | (simp; done) | (simp [*]; done)), H', ⟨by have := HK1.out; have := HJ17.out; first | omega | exact Nat.le_refl _⟩, ⟨by (with_reducible repeat (first | apply Kd.R_alloc | apply Kd.R_drewN | apply Kd.R_drew)); exact HO_3.out⟩, ⟨by (with_reducible repeat (first | apply Kd.R_alloc | apply Kd.R_drewN | apply Kd.R_drew)); exact HO_15.out⟩, ⟨by (with_reducible repeat (first | refine blk_drewN ?_ _ | refine blk_drew ?_ | refine blk_alloc ?_ _)); exact BK172.out⟩, ⟨by (with_reducible repeat (first | refine blk_drewN ?_ _ | refine blk_drew ?_ | refine blk_alloc ?_ _)); exact BK179.out⟩, ⟨by repeat (first | (with_reducible first | exact HB.out | apply below_alloc | apply pw_below_drewN | apply below_drew1 | refine below_set ?_ GE172.out | refine below_set ?_ GE179.out) | exact HB.out)⟩⟩
                      · rw [if_neg c24] at H
                        have c24b0 : (((rd_T29 t175 x17_1).f2) == x4_17) = false := beq_eq_false_iff_ne.mpr c24
                        have c24b1 : (((rd_T29 t175 x17_1).f2) != x4_17) = true := bne_iff_ne.mpr c24
                        (first | rw [c24b0] | (simp only [i64_w, i32_w]; rw [c24b0]) | skip)
                        have H' := Aside0.mk H
                        clear H
                        have hnb36 := NB179_172.out
                        have hnc36 := NB172_179.out
                        have hcz37_0 : wc.cell? ⟨gb179, 0, none⟩ = some (.string ((rd_T29 t175 x17_1).f0)) := (blk_cell BK179.out 0).trans rfl
                        have hcz37_1 : wc.cell? ⟨gb179, 1, none⟩ = some (.string ((rd_T29 t175 x17_1).f1)) := (blk_cell BK179.out 1).trans rfl
                        have hcz37_2 : wc.cell? ⟨gb179, 2, none⟩ = some (.int .i64 ((rd_T29 t175 x17_1).f2)) := (blk_cell BK179.out 2).trans rfl
                        have hfz37_0 := blk_frozen BK179.out 0
                        have hfz37_1 := blk_frozen BK179.out 1
                        have hfz37_2 := blk_frozen BK179.out 2
                        go_wp2
                        go_meet
                        case rel => exact ⟨_, (true), (by first | rfl | (simp; done) | (simp [*]; done)), H', ⟨by have := HK1.out; have := HJ17.out; first | omega | exact Nat.le_refl _⟩, ⟨by (with_reducible repeat (first | apply Kd.R_alloc | apply Kd.R_drewN | apply Kd.R_drew)); exact HO_3.out⟩, ⟨by (with_reducible repeat (first | apply Kd.R_alloc | apply Kd.R_drewN | apply Kd.R_drew)); exact HO_15.out⟩, ⟨by (with_reducible repeat (first | refine blk_drewN ?_ _ | refine blk_drew ?_ | refine blk_alloc ?_ _)); exact BK172.out⟩, ⟨by (with_reducible repeat (first | refine blk_drewN ?_ _ | refine blk_drew ?_ | refine blk_alloc ?_ _)); exact BK179.out⟩, ⟨by repeat (first | (with_reducible first | exact HB.out | apply below_alloc | apply pw_below_drewN | apply below_drew1 | refine below_set ?_ GE172.out | refine below_set ?_ GE179.out) | exact HB.out)⟩⟩
                    case rest =>
                      clear HC23
                      try clear c1
                      try clear p1
                      try clear q1
                      try clear hx1
                      try clear c2
                      try clear p2
                      try clear c3
                      try clear c5
                      try clear p6
                      try clear c9
                      try clear c10
                      try clear c11
                      try clear c15
                      try clear c15b0
                      try clear c16
                      try clear c16b0
                      try clear c17
                      try clear c17b0
                      try clear p17
                      try clear q17
                      try clear hx17
                      try clear c20
                      try clear c22
                      try clear c22b0
                      try clear c22b1
                      try clear c24
                      try clear c24b0
                      try clear c24b1
                      try clear c25
                      try clear c25b0
                      try clear c26
                      try clear c28
                      try clear c28b0
                      try clear c28b1
                      try clear c29
                      try clear c29b0
                      try clear c29b1
                      try clear c30
                      try clear c32
                      try clear c34
                      try clear c36
                      try clear hcz10_0
                      try clear hcz10_1
                      try clear hcz10_2
                      try clear hcz12_0
                      try clear hcz12_1
                      try clear hcz12_2
                      try clear hcz21_0
                      try clear hcz21_1
                      try clear hcz21_2
                      try clear hcz27_0
                      try clear hcz27_1
                      try clear hcz27_2
                      try clear hcz31_0
                      try clear hcz31_1
                      try clear hcz31_2
                      try clear hcz33_0
                      try clear hcz33_1
                      try clear hcz33_2
                      try clear hcz35_0
                      try clear hcz35_1
                      try clear hcz35_2
                      try clear hcz37_0
                      try clear hcz37_1
                      try clear hcz37_2
                      try clear hcz8_0
                      try clear hcz8_1
                      try clear hcz8_2
                      try clear hfz10_0
                      try clear hfz10_1
                      try clear hfz10_2
                      try clear hfz12_0
                      try clear hfz12_1
                      try clear hfz12_2
                      try clear hfz21_0
                      try clear hfz21_1
                      try clear hfz21_2
                      try clear hfz27_0
                      try clear hfz27_1
                      try clear hfz27_2
                      try clear hfz31_0
                      try clear hfz31_1
                      try clear hfz31_2
                      try clear hfz33_0
                      try clear hfz33_1
                      try clear hfz33_2
                      try clear hfz35_0
                      try clear hfz35_1
                      try clear hfz35_2
                      try clear hfz37_0
                      try clear hfz37_1
                      try clear hfz37_2
                      try clear hfz8_0
                      try clear hfz8_1
                      try clear hfz8_2
                      try clear hx178_0
                      try clear hx178_1
                      try clear hx178_2
                      try clear p1
                      try clear p17
                      try clear p178
                      try clear p2
                      try clear p6
                      try clear q1
                      try clear q17
                      try clear q178
                      obtain ⟨kq, x50_22, rfl, HA, HJ22, HO_3, HO_15, BK172, BK179, HB⟩ := hcut
                      cases kq with
                      | zero => exact absurd HA.out (by simp [laws_FnInspectBalance.j2])
                      | succ kj22 =>
                        have H := HA.out
                        clear HA
                        simp only [laws_FnInspectBalance.j2] at H
                        by_cases c38 : x50_22 = true
                        · subst c38
                          have H1 : (some false) = some r := by rw [if_pos rfl] at H; exact H
                          clear H
                          have H := H1
                          clear H1
                          obtain rfl := Option.some.inj H
                          go_wp2
                          go_ret
                          exact ⟨by first | rfl | (simp [errW_none, errW_some] <;> rfl) | (simp [*, errW_none, errW_some] <;> rfl), by repeat (first | (with_reducible first | exact HB.out | apply below_alloc | apply pw_below_drewN | apply below_drew1 | refine below_set ?_ GE172.out | refine below_set ?_ GE179.out) | exact HB.out)⟩
                        · replace c38 := Bool.eq_false_iff.mpr c38
                          subst c38
                          have H1 : (if ((rd_T29 t175 x17_1).f0).toList = ([] : List UInt8) then (laws_FnInspectBalance.l0 kj22 t175 x4_17 t175 (t175.length : Int) (wrap64 (x17_1 + 1))) else (laws_FnInspectBalance.l0 kj22 t175 (wrap64 (x4_17 + 1)) t175 (t175.length : Int) (wrap64 (x17_1 + 1)))) = some r := by rw [if_neg (show ¬ (false = true) by decide)] at H; exact H
                          clear H
                          have H := H1
                          clear H1
                          by_cases c39 : ((rd_T29 t175 x17_1).f0).toList = ([] : List UInt8)
                          · rw [if_pos c39] at H
                            have c39b0 : (((rd_T29 t175 x17_1).f0).toList == ([] : List UInt8)) = true := beq_iff_eq.mpr c39
                            have c39e0 : ((rd_T29 t175 x17_1).f0).toList.isEmpty = true := List.isEmpty_iff.2 c39
                            have c39b1 : (((rd_T29 t175 x17_1).f0).toList != ([] : List UInt8)) = false := bne_eq_false_iff_eq.mpr c39
                            clear c39
                            have H' := Aside0.mk H
                            clear H
                            have hnb40 := NB179_172.out
                            have hnc40 := NB172_179.out
                            have hcz41_0 : wc.cell? ⟨gb179, 0, none⟩ = some (.string ((rd_T29 t175 x17_1).f0)) := (blk_cell BK179.out 0).trans rfl
                            have hcz41_1 : wc.cell? ⟨gb179, 1, none⟩ = some (.string ((rd_T29 t175 x17_1).f1)) := (blk_cell BK179.out 1).trans rfl
                            have hcz41_2 : wc.cell? ⟨gb179, 2, none⟩ = some (.int .i64 ((rd_T29 t175 x17_1).f2)) := (blk_cell BK179.out 2).trans rfl
                            have hfz41_0 := blk_frozen BK179.out 0
                            have hfz41_1 := blk_frozen BK179.out 1
                            have hfz41_2 := blk_frozen BK179.out 2
                            go_wp2
                            go_roundg kj22
                            case measure => have := HK1.out; have := HJ17.out; have := HJ22.out; omega
                            case rel => exact ⟨(x4_17), (wrap64 (x17_1 + 1)), (by first | rfl | (simp; done) | (simp [*]; done)), (by first | rfl | (simp; done) | (simp [*]; done)), H', ⟨by have := HK1.out; have := HJ17.out; have := HJ22.out; omega⟩, ⟨by (with_reducible repeat (first | apply Kd.R_alloc | apply Kd.R_drewN | apply Kd.R_drew)); exact Kd.R_mono HO_3.out (fun _ hk => trivial)⟩, ⟨by (with_reducible repeat (first | apply Kd.R_alloc | apply Kd.R_drewN | apply Kd.R_drew)); exact Kd.R_mono HO_15.out (fun _ hk => trivial)⟩, ⟨by (with_reducible repeat (first | refine blk_drewN ?_ _ | refine blk_drew ?_ | refine blk_alloc ?_ _)); exact BK172.out⟩, ⟨by repeat (first | (with_reducible first | exact HB.out | apply below_alloc | apply pw_below_drewN | apply below_drew1 | refine below_set ?_ GE172.out | refine below_set ?_ GE179.out) | exact HB.out)⟩⟩
                          · rw [if_neg c39] at H
                            have c39b0 : (((rd_T29 t175 x17_1).f0).toList == ([] : List UInt8)) = false := beq_eq_false_iff_ne.mpr c39
                            have c39e0 : ((rd_T29 t175 x17_1).f0).toList.isEmpty = false := Bool.eq_false_iff.2 (fun h_ => c39 (List.isEmpty_iff.1 h_))
                            have c39b1 : (((rd_T29 t175 x17_1).f0).toList != ([] : List UInt8)) = true := bne_iff_ne.mpr c39
                            have H' := Aside0.mk H
                            clear H
                            have hnb42 := NB179_172.out
                            have hnc42 := NB172_179.out
                            have hcz43_0 : wc.cell? ⟨gb179, 0, none⟩ = some (.string ((rd_T29 t175 x17_1).f0)) := (blk_cell BK179.out 0).trans rfl
                            have hcz43_1 : wc.cell? ⟨gb179, 1, none⟩ = some (.string ((rd_T29 t175 x17_1).f1)) := (blk_cell BK179.out 1).trans rfl
                            have hcz43_2 : wc.cell? ⟨gb179, 2, none⟩ = some (.int .i64 ((rd_T29 t175 x17_1).f2)) := (blk_cell BK179.out 2).trans rfl
                            have hfz43_0 := blk_frozen BK179.out 0
                            have hfz43_1 := blk_frozen BK179.out 1
                            have hfz43_2 := blk_frozen BK179.out 2
                            go_wp2
                            go_roundg kj22
                            case measure => have := HK1.out; have := HJ17.out; have := HJ22.out; omega
                            case rel => exact ⟨(wrap64 (x4_17 + 1)), (wrap64 (x17_1 + 1)), (by first | rfl | (simp; done) | (simp [*]; done)), (by first | rfl | (simp; done) | (simp [*]; done)), H', ⟨by have := HK1.out; have := HJ17.out; have := HJ22.out; omega⟩, ⟨by (with_reducible repeat (first | apply Kd.R_alloc | apply Kd.R_drewN | apply Kd.R_drew)); exact Kd.R_mono HO_3.out (fun _ hk => trivial)⟩, ⟨by (with_reducible repeat (first | apply Kd.R_alloc | apply Kd.R_drewN | apply Kd.R_drew)); exact Kd.R_mono HO_15.out (fun _ hk => trivial)⟩, ⟨by (with_reducible repeat (first | refine blk_drewN ?_ _ | refine blk_drew ?_ | refine blk_alloc ?_ _)); exact BK172.out⟩, ⟨by repeat (first | (with_reducible first | exact HB.out | apply below_alloc | apply pw_below_drewN | apply below_drew1 | refine below_set ?_ GE172.out | refine below_set ?_ GE179.out) | exact HB.out)⟩⟩
              · rw [if_neg c17] at H
                exact absurd H (by simp)
            · rw [if_neg c16] at H
              exact absurd H (by simp)
          · rw [if_neg c15] at H
            have c15b0 : decide (x17_1 < (t175.length : Int)) = false := decide_eq_false c15
            clear c15
            by_cases c44 : x4_1 = 0
            · rw [if_pos c44] at H
              have c44b0 : (x4_1 == 0) = true := beq_iff_eq.mpr c44
              have c44b1 : (x4_1 != 0) = false := bne_eq_false_iff_eq.mpr c44
              clear c44
              obtain rfl := Option.some.inj H
              go_wp2
              go_ret
              exact ⟨by first | rfl | (simp [errW_none, errW_some] <;> rfl) | (simp [*, errW_none, errW_some] <;> rfl), by repeat (first | (with_reducible first | exact HB.out | apply below_alloc | apply pw_below_drewN | apply below_drew1 | refine below_set ?_ GE172.out) | exact HB.out)⟩
            · rw [if_neg c44] at H
              have c44b0 : (x4_1 == 0) = false := beq_eq_false_iff_ne.mpr c44
              have c44b1 : (x4_1 != 0) = true := bne_iff_ne.mpr c44
              obtain rfl := Option.some.inj H
              go_wp2
              go_ret
              exact ⟨by first | rfl | (simp [errW_none, errW_some] <;> rfl) | (simp [*, errW_none, errW_some] <;> rfl), by repeat (first | (with_reducible first | exact HB.out | apply below_alloc | apply pw_below_drewN | apply below_drew1 | refine below_set ?_ GE172.out) | exact HB.out)⟩
    · replace c5 := Bool.eq_false_iff.mpr c5
      subst c5
      have H1 : (some true) = some r := by rw [if_neg (show ¬ (false = true) by decide)] at H; exact H
      clear H
      have H := H1
      clear H1
      obtain rfl := Option.some.inj H
      go_enter Tryz.func3, Tryz.ntmps3
      go_wp2_with (first | ((with_reducible refine gate_dst (N := 1) rfl ?_); (try (refine gate_guard (by rfl) ?_; dsimp only)); refine box_event ?hg (N := 1) ?hd (cs := #[.string a0_0, .string a0_1, .slice A0_2 l0_2.length c0_2]) (t := 24) ?hr ?_; (case hd => rfl); (case hg => rfl); (case hr => first | (go_simp; done) | (go_simp; rfl)); intro gb172 hg w45 hbox hb; have n0_ := Aside0.mk (below_step (by repeat (first | (with_reducible first | exact HB.out | apply below_alloc | apply pw_below_drewN | apply below_drew1) | exact HB.out)) hb); have n1_ := Aside0.mk (hbox); have n2_ := Aside0.mk ((by rw [hg]; exact (below_size (by repeat (first | (with_reducible first | exact HB.out | apply below_alloc | apply pw_below_drewN | apply below_drew1) | exact HB.out))) : w.heap.size ≤ gb172)); have n3_ := Aside0.mk ((by rw [hg]; exact (below_size (by repeat (first | (with_reducible first | exact HB.out | apply below_alloc | apply pw_below_drewN | apply below_drew1) | exact HB.out))) : w.heap.size ≤ gb172)); clear HB; have HB := n0_; have BK172 := n1_; have GW172 := n2_; have GE172 := n3_; clear n0_ n1_ n2_ n3_; clear hb hbox hg; have hcz46_0 : w45.cell? ⟨gb172, 0, none⟩ = some (.string a0_0) := (blk_cell BK172.out 0).trans rfl; have hcz46_1 : w45.cell? ⟨gb172, 1, none⟩ = some (.string a0_1) := (blk_cell BK172.out 1).trans rfl; have hcz46_2 : w45.cell? ⟨gb172, 2, none⟩ = some (.slice A0_2 l0_2.length c0_2) := (blk_cell BK172.out 2).trans rfl; have hfz46_0 := blk_frozen BK172.out 0; have hfz46_1 := blk_frozen BK172.out 1; have hfz46_2 := blk_frozen BK172.out 2) | ((with_reducible refine gate_callee (f := 9) rfl ?_); refine goesL_ (some 8) rfl rfl Tryz.func9 (by kernel_rfl) rfl #[.agg #[.string a0_0, .string a0_1, .slice A0_2 l0_2.length c0_2]] rfl (by (try simp only [List.map_toArray, List.map_cons, List.map_nil]); first | done | rfl | (simp only [List.length_drop, List.length_take]; rfl)) ?_; (with_reducible refine (laws_zzFits10.calls a0_0 a0_1 _ _ l0_2 true _ ?side1 ?side2 A2.out).mono ?_); (case side1 => repeat (first | exact (Kd.C_below HR0_2.out HB.out) | (with_reducible refine Kd.C_alloc ?_ _) | (with_reducible refine Kd.C_drewN ?_ _) | (with_reducible refine Kd.C_drew ?_))); (case side2 => exact HC0_2.out); rintro e w47 ⟨rfl, hb⟩; refine ⟨_, rfl, ?_⟩; have n0_ := Aside0.mk (blk_below (g := gb172) (o := .cells #[.string a0_0, .string a0_1, .slice A0_2 l0_2.length c0_2] 24 (0, 0)) (by (with_reducible repeat (first | refine blk_drewN ?_ _ | refine blk_drew ?_ | refine blk_alloc ?_ _)); exact BK172.out) hb); have n1_ := Aside0.mk (below_step (by repeat (first | (with_reducible first | exact HB.out | apply below_alloc | apply pw_below_drewN | apply below_drew1 | refine below_set ?_ GE172.out) | exact HB.out)) hb); clear BK172; clear HB; have BK172 := n0_; have HB := n1_; clear n0_ n1_; (try clear hb); (try clear hb2); (try clear hk); (try clear hi); have hcz48_0 : w47.cell? ⟨gb172, 0, none⟩ = some (.string a0_0) := (blk_cell BK172.out 0).trans rfl; have hcz48_1 : w47.cell? ⟨gb172, 1, none⟩ = some (.string a0_1) := (blk_cell BK172.out 1).trans rfl; have hcz48_2 : w47.cell? ⟨gb172, 2, none⟩ = some (.slice A0_2 l0_2.length c0_2) := (blk_cell BK172.out 2).trans rfl; have hfz48_0 := blk_frozen BK172.out 0; have hfz48_1 := blk_frozen BK172.out 1; have hfz48_2 := blk_frozen BK172.out 2) | ((with_reducible refine gate_callee (f := 10) rfl ?_); refine goesL_ (some 11) rfl rfl Tryz.func10 (by kernel_rfl) rfl #[.agg #[.string a0_0, .string a0_1, .slice A0_2 l0_2.length c0_2]] rfl (by (try simp only [List.map_toArray, List.map_cons, List.map_nil]); first | done | rfl | (simp only [List.length_drop, List.length_take]; rfl)) ?_; (with_reducible refine (spec_IsExprTree.calls k a0_0 a0_1 _ _ l0_2 false _ ?side1 ?side2 A4.out).mono ?_); (case side1 => repeat (first | exact (Kd.C_below HR0_2.out HB.out) | (with_reducible refine Kd.C_alloc ?_ _) | (with_reducible refine Kd.C_drewN ?_ _) | (with_reducible refine Kd.C_drew ?_))); (case side2 => exact HC0_2.out); rintro e w49 ⟨rfl, hb⟩; refine ⟨_, rfl, ?_⟩; have n0_ := Aside0.mk (blk_below (g := gb172) (o := .cells #[.string a0_0, .string a0_1, .slice A0_2 l0_2.length c0_2] 24 (0, 0)) (by (with_reducible repeat (first | refine blk_drewN ?_ _ | refine blk_drew ?_ | refine blk_alloc ?_ _)); exact BK172.out) hb); have n1_ := Aside0.mk (below_step (by repeat (first | (with_reducible first | exact HB.out | apply below_alloc | apply pw_below_drewN | apply below_drew1 | refine below_set ?_ GE172.out) | exact HB.out)) hb); clear BK172; clear HB; have BK172 := n0_; have HB := n1_; clear n0_ n1_; (try clear hb); (try clear hb2); (try clear hk); (try clear hi)))
      go_ret
      exact ⟨by first | rfl | (simp [errW_none, errW_some] <;> rfl) | (simp [*, errW_none, errW_some] <;> rfl), by repeat (first | (with_reducible first | exact HB.out | apply below_alloc | apply pw_below_drewN | apply below_drew1 | refine below_set ?_ GE172.out) | exact HB.out)⟩
  · replace c3 := Bool.eq_false_iff.mpr c3
    subst c3
    have H1 : (some true) = some r := by rw [if_neg (show ¬ (false = true) by decide)] at H; exact H
    clear H
    have H := H1
    clear H1
    obtain rfl := Option.some.inj H
    go_enter Tryz.func3, Tryz.ntmps3
    go_wp2_with (first | ((with_reducible refine gate_dst (N := 1) rfl ?_); (try (refine gate_guard (by rfl) ?_; dsimp only)); refine box_event ?hg (N := 1) ?hd (cs := #[.string a0_0, .string a0_1, .slice A0_2 l0_2.length c0_2]) (t := 24) ?hr ?_; (case hd => rfl); (case hg => rfl); (case hr => first | (go_simp; done) | (go_simp; rfl)); intro gb172 hg w50 hbox hb; have n0_ := Aside0.mk (below_step (by repeat (first | (with_reducible first | exact HB.out | apply below_alloc | apply pw_below_drewN | apply below_drew1) | exact HB.out)) hb); have n1_ := Aside0.mk (hbox); have n2_ := Aside0.mk ((by rw [hg]; exact (below_size (by repeat (first | (with_reducible first | exact HB.out | apply below_alloc | apply pw_below_drewN | apply below_drew1) | exact HB.out))) : w.heap.size ≤ gb172)); have n3_ := Aside0.mk ((by rw [hg]; exact (below_size (by repeat (first | (with_reducible first | exact HB.out | apply below_alloc | apply pw_below_drewN | apply below_drew1) | exact HB.out))) : w.heap.size ≤ gb172)); clear HB; have HB := n0_; have BK172 := n1_; have GW172 := n2_; have GE172 := n3_; clear n0_ n1_ n2_ n3_; clear hb hbox hg; have hcz51_0 : w50.cell? ⟨gb172, 0, none⟩ = some (.string a0_0) := (blk_cell BK172.out 0).trans rfl; have hcz51_1 : w50.cell? ⟨gb172, 1, none⟩ = some (.string a0_1) := (blk_cell BK172.out 1).trans rfl; have hcz51_2 : w50.cell? ⟨gb172, 2, none⟩ = some (.slice A0_2 l0_2.length c0_2) := (blk_cell BK172.out 2).trans rfl; have hfz51_0 := blk_frozen BK172.out 0; have hfz51_1 := blk_frozen BK172.out 1; have hfz51_2 := blk_frozen BK172.out 2) | ((with_reducible refine gate_callee (f := 9) rfl ?_); refine goesL_ (some 8) rfl rfl Tryz.func9 (by kernel_rfl) rfl #[.agg #[.string a0_0, .string a0_1, .slice A0_2 l0_2.length c0_2]] rfl (by (try simp only [List.map_toArray, List.map_cons, List.map_nil]); first | done | rfl | (simp only [List.length_drop, List.length_take]; rfl)) ?_; (with_reducible refine (laws_zzFits10.calls a0_0 a0_1 _ _ l0_2 false _ ?side1 ?side2 A2.out).mono ?_); (case side1 => repeat (first | exact (Kd.C_below HR0_2.out HB.out) | (with_reducible refine Kd.C_alloc ?_ _) | (with_reducible refine Kd.C_drewN ?_ _) | (with_reducible refine Kd.C_drew ?_))); (case side2 => exact HC0_2.out); rintro e w52 ⟨rfl, hb⟩; refine ⟨_, rfl, ?_⟩; have n0_ := Aside0.mk (blk_below (g := gb172) (o := .cells #[.string a0_0, .string a0_1, .slice A0_2 l0_2.length c0_2] 24 (0, 0)) (by (with_reducible repeat (first | refine blk_drewN ?_ _ | refine blk_drew ?_ | refine blk_alloc ?_ _)); exact BK172.out) hb); have n1_ := Aside0.mk (below_step (by repeat (first | (with_reducible first | exact HB.out | apply below_alloc | apply pw_below_drewN | apply below_drew1 | refine below_set ?_ GE172.out) | exact HB.out)) hb); clear BK172; clear HB; have BK172 := n0_; have HB := n1_; clear n0_ n1_; (try clear hb); (try clear hb2); (try clear hk); (try clear hi)))
    go_ret
    exact ⟨by first | rfl | (simp [errW_none, errW_some] <;> rfl) | (simp [*, errW_none, errW_some] <;> rfl), by repeat (first | (with_reducible first | exact HB.out | apply below_alloc | apply pw_below_drewN | apply below_drew1 | refine below_set ?_ GE172.out) | exact HB.out)⟩

end Go.Proofs.YtdcaabjkklppjaaGreatFmt.A
