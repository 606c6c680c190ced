-- Written by a program of this session (gprint.py) out of the kit's print of the translation. Not trusted: Lean checks it.
import Derived.Test.YtbojpbfckgjgbaaGreatA0
import Derived.Test.YtbojpbfckgjgbaaGreatA3
namespace Go.Proofs.YtbojpbfckgjgbaaGreat.A
open Go.RowKit Go.Proofs.YtbojpbfckgjgbaaGreatW.PrintWords Go.Proofs.YtbojpbfckgjgbaaGreatW.PrintLast Go.Proofs.YtbojpbfckgjgbaaGreatW.PrintMore
attribute [local go_sem] max2_int min2_int max_two min_two max_three min_three max_four min_four   -- for this text's walks alone
set_option linter.unusedVariables false
set_option linter.unusedSimpArgs false

/-! ### spec_BehindOf: function 8 -/
mutual
def spec_BehindOf.j0 : Nat → Int → ByteArray → Bool → ByteArray → ByteArray → List Int → List (S25) → Int → Int → Bool → Bool → Bool → Option (Int)
  | 0, _, _, _, _, _, _, _, _, _, _, _, _ => none
  | k + 1, x5, x25, x26, x135000, x135001, x135002, x135003, x142000, x142001, x142002, x142003, x142004 => if x26 = true then (if 0 ≤ (wrap64 (x142000 - 1)) then (if (wrap64 (x142000 - 1)) < (x135002.length : Int) then (some (wrap64 ((rd x135002 (wrap64 (x142000 - 1))) + (x135001.size : Int)))) else (none)) else (none)) else (if x25.toList = ([112, 111, 105, 110, 116, 115] : List UInt8) then (if 0 ≤ (wrap64 (x142000 - 1)) then (if (wrap64 (x142000 - 1)) < (x135002.length : Int) then (some (wrap64 ((rd x135002 (wrap64 (x142000 - 1))) + 3))) else (none)) else (none)) else (if 0 ≤ (wrap64 (x142000 - 1)) then (if (wrap64 (x142000 - 1)) < (x135002.length : Int) then (some (wrap64 ((rd x135002 (wrap64 (x142000 - 1))) + x5))) else (none)) else (none)))
def spec_BehindOf.f : Nat → ByteArray → ByteArray → List Int → List (S25) → Option (Int)
  | 0, _, _, _, _ => none
  | k + 1, a0_0, a0_1, l0_2, l0_3 => (spec_formOf.f k a0_0).bind fun bt135 => (if bt135.2.2.2.2.1 = true then (if a0_0.toList = ([110, 97, 109, 101] : List UInt8) then (spec_BehindOf.j0 k 1 a0_0 (a0_0.toList == ([110, 97, 109, 101] : List UInt8)) a0_0 a0_1 l0_2 l0_3 bt135.1 bt135.2.1 bt135.2.2.1 bt135.2.2.2.1 bt135.2.2.2.2.1) else (if a0_0.toList = ([105, 110, 116] : List UInt8) then (spec_BehindOf.j0 k 1 a0_0 (a0_0.toList == ([105, 110, 116] : List UInt8)) a0_0 a0_1 l0_2 l0_3 bt135.1 bt135.2.1 bt135.2.2.1 bt135.2.2.2.1 bt135.2.2.2.2.1) else (spec_BehindOf.j0 k 1 a0_0 (a0_0.toList == ([115, 101, 108, 101, 99, 116, 111, 114] : List UInt8)) a0_0 a0_1 l0_2 l0_3 bt135.1 bt135.2.1 bt135.2.2.1 bt135.2.2.2.1 bt135.2.2.2.2.1))) else (if 0 ≤ (wrap64 ((l0_3.length : Int) - 1)) then (if (wrap64 ((l0_3.length : Int) - 1)) < (l0_3.length : Int) then ((spec_BehindOf.f k ((rd_T25 l0_3 (wrap64 ((l0_3.length : Int) - 1))).f0) ((rd_T25 l0_3 (wrap64 ((l0_3.length : Int) - 1))).f1) ((rd_T25 l0_3 (wrap64 ((l0_3.length : Int) - 1))).f2) ((rd_T25 l0_3 (wrap64 ((l0_3.length : Int) - 1))).f3)).bind fun t143 => (some t143)) else (none)) else (none)))
end
theorem spec_BehindOf.mono_l : ∀ k, (∀ y0 y1 y2 y3, LeO (spec_BehindOf.f k y0 y1 y2 y3) (spec_BehindOf.f (k + 1) y0 y1 y2 y3)) ∧ (∀ y0 y1 y2 y3 y4 y5 y6 y7 y8 y9 y10 y11, LeO (spec_BehindOf.j0 k y0 y1 y2 y3 y4 y5 y6 y7 y8 y9 y10 y11) (spec_BehindOf.j0 (k + 1) y0 y1 y2 y3 y4 y5 y6 y7 y8 y9 y10 y11))
  | 0 => ⟨fun _ _ _ _ r h => by simp [spec_BehindOf.f] at h, fun _ _ _ _ _ _ _ _ _ _ _ _ r h => by simp [spec_BehindOf.j0] at h⟩
  | k + 1 => by
    obtain ⟨ih0, ih1⟩ := spec_BehindOf.mono_l k
    refine ⟨?_, ?_⟩
    · intro y0 y1 y2 y3
      unfold spec_BehindOf.f
      repeat' first
      | (with_reducible exact ih0 _ _ _ _)
      | (with_reducible exact ih1 _ _ _ _ _ _ _ _ _ _ _ _)
      | (with_reducible exact spec_formOf.mono _ _)
      | (with_reducible exact LeO.refl _)
      | (with_reducible exact LeO.none _)
      | (with_reducible refine LeO.ite ?_ ?_)
      | (with_reducible refine LeO.bind ?_ (fun _ => ?_))
      | exact ih0 _ _ _ _
      | exact ih1 _ _ _ _ _ _ _ _ _ _ _ _
      | exact spec_formOf.mono _ _
      | exact LeO.none _
      | refine LeO.ite ?_ ?_
      | refine LeO.bind ?_ (fun _ => ?_)
    · intro y0 y1 y2 y3 y4 y5 y6 y7 y8 y9 y10 y11
      unfold spec_BehindOf.j0
      repeat' first
      | (with_reducible exact ih0 _ _ _ _)
      | (with_reducible exact ih1 _ _ _ _ _ _ _ _ _ _ _ _)
      | (with_reducible exact spec_formOf.mono _ _)
      | (with_reducible exact LeO.refl _)
      | (with_reducible exact LeO.none _)
      | (with_reducible refine LeO.ite ?_ ?_)
      | (with_reducible refine LeO.bind ?_ (fun _ => ?_))
      | exact ih0 _ _ _ _
      | exact ih1 _ _ _ _ _ _ _ _ _ _ _ _
      | exact spec_formOf.mono _ _
      | exact LeO.none _
      | refine LeO.ite ?_ ?_
      | refine LeO.bind ?_ (fun _ => ?_)
theorem spec_BehindOf.mono : ∀ a0 a1 a2 a3 k, LeO (spec_BehindOf.f k a0 a1 a2 a3) (spec_BehindOf.f (k + 1) a0 a1 a2 a3) := by
  intro a0 a1 a2 a3 k
  obtain ⟨ih0, ih1⟩ := spec_BehindOf.mono_l k
  exact ih0 a0 a1 a2 a3
set_option maxHeartbeats 8000000 in
set_option maxRecDepth 100000 in
theorem spec_BehindOf.calls (k : Nat) : ∀ (a0_0 : ByteArray) (a0_1 : ByteArray) (A0_2 : Option Addr) (c0_2 : Nat) (l0_2 : List Int) (A0_3 : Option Addr) (c0_3 : Nat) (l0_3 : List (S25)) (r : Int) (w : World) (hr0_2 : Kd.C (Kd.int .i64) w A0_2 l0_2.length l0_2) (hc0_2 : l0_2.length ≤ c0_2) (hr0_3 : Kd.C k25 w A0_3 l0_3.length l0_3) (hc0_3 : l0_3.length ≤ c0_3) (h : spec_BehindOf.f k a0_0 a0_1 l0_2 l0_3 = some r),
    Calls Tryz.prog 8 #[.agg #[.string a0_0, .string a0_1, .slice A0_2 l0_2.length c0_2, .slice A0_3 l0_3.length c0_3]] w fun e w' => e = .returned (.int .i64 r) ∧ Below w.heap.size w w' := by
  induction k using Nat.strongRecOn with
  | _ k ih =>
  intro a0_0 a0_1 A0_2 c0_2 l0_2 A0_3 c0_3 l0_3 r w hr0_2 hc0_2 hr0_3 hc0_3 h
  cases k with
  | zero => exact absurd h (by simp [spec_BehindOf.f])
  | succ k =>
  simp only [spec_BehindOf.f] at h
  have hu25 := Tryz.underlying25
  have hu38 := Tryz.underlying38
  have HR0_2 := Aside0.mk hr0_2
  have HC0_2 := Aside0.mk hc0_2
  clear hr0_2 hc0_2
  have HR0_3 := Aside0.mk hr0_3
  have HC0_3 := Aside0.mk hc0_3
  clear hr0_3 hc0_3
  have HB := Aside0.mk (Below.refl w.heap.size w)
  have H : ((spec_formOf.f k a0_0).bind fun bt135 => (if bt135.2.2.2.2.1 = true then (if a0_0.toList = ([110, 97, 109, 101] : List UInt8) then (spec_BehindOf.j0 k 1 a0_0 (a0_0.toList == ([110, 97, 109, 101] : List UInt8)) a0_0 a0_1 l0_2 l0_3 bt135.1 bt135.2.1 bt135.2.2.1 bt135.2.2.2.1 bt135.2.2.2.2.1) else (if a0_0.toList = ([105, 110, 116] : List UInt8) then (spec_BehindOf.j0 k 1 a0_0 (a0_0.toList == ([105, 110, 116] : List UInt8)) a0_0 a0_1 l0_2 l0_3 bt135.1 bt135.2.1 bt135.2.2.1 bt135.2.2.2.1 bt135.2.2.2.2.1) else (spec_BehindOf.j0 k 1 a0_0 (a0_0.toList == ([115, 101, 108, 101, 99, 116, 111, 114] : List UInt8)) a0_0 a0_1 l0_2 l0_3 bt135.1 bt135.2.1 bt135.2.2.1 bt135.2.2.2.1 bt135.2.2.2.2.1))) else (if 0 ≤ (wrap64 ((l0_3.length : Int) - 1)) then (if (wrap64 ((l0_3.length : Int) - 1)) < (l0_3.length : Int) then ((spec_BehindOf.f k ((rd_T25 l0_3 (wrap64 ((l0_3.length : Int) - 1))).f0) ((rd_T25 l0_3 (wrap64 ((l0_3.length : Int) - 1))).f1) ((rd_T25 l0_3 (wrap64 ((l0_3.length : Int) - 1))).f2) ((rd_T25 l0_3 (wrap64 ((l0_3.length : Int) - 1))).f3)).bind fun t143 => (some t143)) else (none)) else (none)))) = some r := h
  clear h
  replace H := Option.bind_eq_some_iff.mp H
  obtain ⟨⟨t135, t136, t137, t138, t139, t140⟩, A20, H⟩ := H
  replace H : (if t139 = true then (if a0_0.toList = ([110, 97, 109, 101] : List UInt8) then (spec_BehindOf.j0 k 1 a0_0 (a0_0.toList == ([110, 97, 109, 101] : List UInt8)) a0_0 a0_1 l0_2 l0_3 t135 t136 t137 t138 t139) else (if a0_0.toList = ([105, 110, 116] : List UInt8) then (spec_BehindOf.j0 k 1 a0_0 (a0_0.toList == ([105, 110, 116] : List UInt8)) a0_0 a0_1 l0_2 l0_3 t135 t136 t137 t138 t139) else (spec_BehindOf.j0 k 1 a0_0 (a0_0.toList == ([115, 101, 108, 101, 99, 116, 111, 114] : List UInt8)) a0_0 a0_1 l0_2 l0_3 t135 t136 t137 t138 t139))) else (if 0 ≤ (wrap64 ((l0_3.length : Int) - 1)) then (if (wrap64 ((l0_3.length : Int) - 1)) < (l0_3.length : Int) then ((spec_BehindOf.f k ((rd_T25 l0_3 (wrap64 ((l0_3.length : Int) - 1))).f0) ((rd_T25 l0_3 (wrap64 ((l0_3.length : Int) - 1))).f1) ((rd_T25 l0_3 (wrap64 ((l0_3.length : Int) - 1))).f2) ((rd_T25 l0_3 (wrap64 ((l0_3.length : Int) - 1))).f3)).bind fun t143 => (some t143)) else (none)) else (none))) = some r := H
  have A2 := Aside0.mk A20
  clear A20
  by_cases c3 : t139 = true
  · subst c3
    have H1 : (if a0_0.toList = ([110, 97, 109, 101] : List UInt8) then (spec_BehindOf.j0 k 1 a0_0 (a0_0.toList == ([110, 97, 109, 101] : List UInt8)) a0_0 a0_1 l0_2 l0_3 t135 t136 t137 t138 true) else (if a0_0.toList = ([105, 110, 116] : List UInt8) then (spec_BehindOf.j0 k 1 a0_0 (a0_0.toList == ([105, 110, 116] : List UInt8)) a0_0 a0_1 l0_2 l0_3 t135 t136 t137 t138 true) else (spec_BehindOf.j0 k 1 a0_0 (a0_0.toList == ([115, 101, 108, 101, 99, 116, 111, 114] : List UInt8)) a0_0 a0_1 l0_2 l0_3 t135 t136 t137 t138 true))) = some r := by rw [if_pos rfl] at H; exact H
    clear H
    have H := H1
    clear H1
    have HC4 := Aside0.mk H
    clear H
    go_enter Tryz.func8, Tryz.ntmps8
    go_upto_if 26 with (first | ((with_reducible refine gate_dst (N := 1) rfl ?_); refine box_event ?hg (N := 1) ?hd (cs := #[.string a0_0, .string a0_1, .slice A0_2 l0_2.length c0_2, .slice A0_3 l0_3.length c0_3]) (t := 25) ?hr ?_; (case hd => rfl); (case hg => rfl); (case hr => first | (go_simp; done) | (go_simp; rfl)); intro gb134 hg w5 hbox hb; have n0_ := Aside0.mk (below_step (by repeat (first | (with_reducible first | exact HB.out | apply below_alloc | apply pw_below_drewN | apply below_drew1) | exact HB.out)) hb); have n1_ := Aside0.mk (hbox); have n2_ := Aside0.mk ((by rw [hg]; exact (below_size (by repeat (first | (with_reducible first | exact HB.out | apply below_alloc | apply pw_below_drewN | apply below_drew1) | exact HB.out))) : w.heap.size ≤ gb134)); have n3_ := Aside0.mk ((by rw [hg]; exact (below_size (by repeat (first | (with_reducible first | exact HB.out | apply below_alloc | apply pw_below_drewN | apply below_drew1) | exact HB.out))) : w.heap.size ≤ gb134)); clear HB; have HB := n0_; have BK134 := n1_; have GW134 := n2_; have GE134 := n3_; clear n0_ n1_ n2_ n3_; clear hb hbox hg; have hcz6_0 : w5.cell? ⟨gb134, 0, none⟩ = some (.string a0_0) := (blk_cell BK134.out 0).trans rfl; have hcz6_1 : w5.cell? ⟨gb134, 1, none⟩ = some (.string a0_1) := (blk_cell BK134.out 1).trans rfl; have hcz6_2 : w5.cell? ⟨gb134, 2, none⟩ = some (.slice A0_2 l0_2.length c0_2) := (blk_cell BK134.out 2).trans rfl; have hcz6_3 : w5.cell? ⟨gb134, 3, none⟩ = some (.slice A0_3 l0_3.length c0_3) := (blk_cell BK134.out 3).trans rfl; have hfz6_0 := blk_frozen BK134.out 0; have hfz6_1 := blk_frozen BK134.out 1; have hfz6_2 := blk_frozen BK134.out 2; have hfz6_3 := blk_frozen BK134.out 3) | ((with_reducible refine gate_callee (f := 12) rfl ?_); refine goesL_ (some 9) rfl rfl Tryz.func12 (by kernel_rfl) rfl #[.string a0_0] rfl (by (try simp only [List.map_toArray, List.map_cons, List.map_nil]); first | done | rfl | (simp only [List.length_drop, List.length_take]; rfl)) ?_; (with_reducible refine (spec_formOf.calls k a0_0 t135 t136 t137 t138 true t140 _ A2.out).mono ?_); rintro e w7 ⟨rfl, hb⟩; refine ⟨_, rfl, ?_⟩; have n0_ := Aside0.mk (blk_below (g := gb134) (o := .cells #[.string a0_0, .string a0_1, .slice A0_2 l0_2.length c0_2, .slice A0_3 l0_3.length c0_3] 25 (0, 0)) (by (with_reducible repeat (first | refine blk_drewN ?_ _ | refine blk_drew ?_ | refine blk_alloc ?_ _)); exact BK134.out) hb); have n1_ := Aside0.mk (below_step (by repeat (first | (with_reducible first | exact HB.out | apply below_alloc | apply pw_below_drewN | apply below_drew1 | refine below_set ?_ GE134.out) | exact HB.out)) hb); clear BK134; clear HB; have BK134 := n0_; have HB := n1_; clear n0_ n1_; (try clear hb); (try clear hb2); (try clear hk); (try clear hi)) | ((with_reducible refine gate_dst (N := 3) rfl ?_); refine box_event ?hg (N := 3) ?hd (cs := #[.int .i64 0, .int .i64 0, .bool false, .bool false, .bool false]) (t := 38) ?hr ?_; (case hd => rfl); (case hg => rfl); (case hr => first | (go_simp; done) | (go_simp; rfl)); intro gb141 hg w8 hbox hb; have n0_ := Aside0.mk (blk_below (g := gb134) (o := .cells #[.string a0_0, .string a0_1, .slice A0_2 l0_2.length c0_2, .slice A0_3 l0_3.length c0_3] 25 (0, 0)) (by (with_reducible repeat (first | refine blk_drewN ?_ _ | refine blk_drew ?_ | refine blk_alloc ?_ _)); exact BK134.out) hb); have n1_ := Aside0.mk (below_step (by repeat (first | (with_reducible first | exact HB.out | apply below_alloc | apply pw_below_drewN | apply below_drew1 | refine below_set ?_ GE134.out) | exact HB.out)) hb); have n2_ := Aside0.mk (hbox); have n3_ := Aside0.mk ((by rw [hg]; exact (below_size (by repeat (first | (with_reducible first | exact HB.out | apply below_alloc | apply pw_below_drewN | apply below_drew1 | refine below_set ?_ GE134.out) | exact HB.out))) : w.heap.size ≤ gb141)); have n4_ := Aside0.mk ((by rw [hg]; exact (below_size (by repeat (first | (with_reducible first | exact HB.out | apply below_alloc | apply pw_below_drewN | apply below_drew1 | refine below_set ?_ GE134.out) | exact HB.out))) : w.heap.size ≤ gb141)); have n5_ := Aside0.mk ((by rw [hg]; exact Nat.ne_of_lt (blk_lt (g := gb134) (o := .cells #[.string a0_0, .string a0_1, .slice A0_2 l0_2.length c0_2, .slice A0_3 l0_3.length c0_3] 25 (0, 0)) (by (with_reducible repeat (first | refine blk_drewN ?_ _ | refine blk_drew ?_ | refine blk_alloc ?_ _)); exact BK134.out)) : gb134 ≠ gb141)); have n6_ := Aside0.mk ((by rw [hg]; exact Nat.ne_of_gt (blk_lt (g := gb134) (o := .cells #[.string a0_0, .string a0_1, .slice A0_2 l0_2.length c0_2, .slice A0_3 l0_3.length c0_3] 25 (0, 0)) (by (with_reducible repeat (first | refine blk_drewN ?_ _ | refine blk_drew ?_ | refine blk_alloc ?_ _)); exact BK134.out)) : gb141 ≠ gb134)); clear BK134; clear HB; have BK134 := n0_; have HB := n1_; have BK141 := n2_; have GW141 := n3_; have GE141 := n4_; have NB134_141 := n5_; have NB141_134 := n6_; clear n0_ n1_ n2_ n3_ n4_ n5_ n6_; clear hb hbox hg; have hnb9 := NB141_134.out; have hnc9 := NB134_141.out; have hcz10_0 : w8.cell? ⟨gb141, 0, none⟩ = some (.int .i64 0) := (blk_cell BK141.out 0).trans rfl; have hcz10_1 : w8.cell? ⟨gb141, 1, none⟩ = some (.int .i64 0) := (blk_cell BK141.out 1).trans rfl; have hcz10_2 : w8.cell? ⟨gb141, 2, none⟩ = some (.bool false) := (blk_cell BK141.out 2).trans rfl; have hcz10_3 : w8.cell? ⟨gb141, 3, none⟩ = some (.bool false) := (blk_cell BK141.out 3).trans rfl; have hcz10_4 : w8.cell? ⟨gb141, 4, none⟩ = some (.bool false) := (blk_cell BK141.out 4).trans rfl; have hfz10_0 := blk_frozen BK141.out 0; have hfz10_1 := blk_frozen BK141.out 1; have hfz10_2 := blk_frozen BK141.out 2; have hfz10_3 := blk_frozen BK141.out 3; have hfz10_4 := blk_frozen BK141.out 4; have hcz11_0 : w8.cell? ⟨gb134, 0, none⟩ = some (.string a0_0) := (blk_cell BK134.out 0).trans rfl; have hcz11_1 : w8.cell? ⟨gb134, 1, none⟩ = some (.string a0_1) := (blk_cell BK134.out 1).trans rfl; have hcz11_2 : w8.cell? ⟨gb134, 2, none⟩ = some (.slice A0_2 l0_2.length c0_2) := (blk_cell BK134.out 2).trans rfl; have hcz11_3 : w8.cell? ⟨gb134, 3, none⟩ = some (.slice A0_3 l0_3.length c0_3) := (blk_cell BK134.out 3).trans rfl; have hfz11_0 := blk_frozen BK134.out 0; have hfz11_1 := blk_frozen BK134.out 1; have hfz11_2 := blk_frozen BK134.out 2; have hfz11_3 := blk_frozen BK134.out 3))
    (try simp only [Act.put, List.setIfInBounds_toArray, List.set_cons_zero, List.set_cons_succ])
    go_cut [26] (fun v26 wc => ∃ (kq : Nat) (x26_3 : Bool), v26 = .bool x26_3 ∧ Aside0 (spec_BehindOf.j0 kq 1 a0_0 x26_3 a0_0 a0_1 l0_2 l0_3 t135 t136 t137 t138 true = some r) ∧ Aside0 (kq ≤ k) ∧ Aside0 (wc.heap[gb134]? = some (.cells #[.string a0_0, .string a0_1, (.slice A0_2 l0_2.length c0_2), (.slice A0_3 l0_3.length c0_3)] 25 (0, 0))) ∧ Aside0 (wc.heap[gb141]? = some (.cells #[.int .i64 t135, .int .i64 t136, .bool t137, .bool t138, .bool true] 38 (0, 0))) ∧ Aside0 (Below w.heap.size w wc))
    case first =>
      have H := HC4.out
      clear HC4
      by_cases c12 : a0_0.toList = ([110, 97, 109, 101] : List UInt8)
      · rw [if_pos c12] at H
        have c12b0 : (a0_0.toList == ([110, 97, 109, 101] : List UInt8)) = true := beq_iff_eq.mpr c12
        have c12b1 : (a0_0.toList != ([110, 97, 109, 101] : List UInt8)) = false := bne_eq_false_iff_eq.mpr c12
        clear c12
        (first | rw [c12b0] | (simp only [i64_w, i32_w]; rw [c12b0]) | skip)
        have H' := Aside0.mk H
        clear H
        go_wp2
        go_meet
        case rel => exact ⟨_, ((a0_0.toList == ([110, 97, 109, 101] : List UInt8))), (by first | rfl | (simp; done) | (simp [*]; done)), H', ⟨by first | omega | exact Nat.le_refl _⟩, ⟨by (with_reducible repeat (first | refine blk_drewN ?_ _ | refine blk_drew ?_ | refine blk_alloc ?_ _)); refine blk_far ?_ NB134_141.out _; (with_reducible repeat (first | refine blk_drewN ?_ _ | refine blk_drew ?_ | refine blk_alloc ?_ _)); refine blk_far ?_ NB134_141.out _; (with_reducible repeat (first | refine blk_drewN ?_ _ | refine blk_drew ?_ | refine blk_alloc ?_ _)); refine blk_far ?_ NB134_141.out _; (with_reducible repeat (first | refine blk_drewN ?_ _ | refine blk_drew ?_ | refine blk_alloc ?_ _)); refine blk_far ?_ NB134_141.out _; (with_reducible repeat (first | refine blk_drewN ?_ _ | refine blk_drew ?_ | refine blk_alloc ?_ _)); refine blk_far ?_ NB134_141.out _; (with_reducible repeat (first | refine blk_drewN ?_ _ | refine blk_drew ?_ | refine blk_alloc ?_ _)); exact BK134.out⟩, ⟨by (with_reducible repeat (first | refine blk_drewN ?_ _ | refine blk_drew ?_ | refine blk_alloc ?_ _)); refine blk_put (cs := #[.int .i64 t135, .int .i64 t136, .bool t137, .bool t138, .bool false]) ?_ 4 _ rfl; (with_reducible repeat (first | refine blk_drewN ?_ _ | refine blk_drew ?_ | refine blk_alloc ?_ _)); refine blk_put (cs := #[.int .i64 t135, .int .i64 t136, .bool t137, .bool false, .bool false]) ?_ 3 _ rfl; (with_reducible repeat (first | refine blk_drewN ?_ _ | refine blk_drew ?_ | refine blk_alloc ?_ _)); refine blk_put (cs := #[.int .i64 t135, .int .i64 t136, .bool false, .bool false, .bool false]) ?_ 2 _ rfl; (with_reducible repeat (first | refine blk_drewN ?_ _ | refine blk_drew ?_ | refine blk_alloc ?_ _)); refine blk_put (cs := #[.int .i64 t135, .int .i64 0, .bool false, .bool false, .bool false]) ?_ 1 _ rfl; (with_reducible repeat (first | refine blk_drewN ?_ _ | refine blk_drew ?_ | refine blk_alloc ?_ _)); refine blk_put (cs := #[.int .i64 0, .int .i64 0, .bool false, .bool false, .bool false]) ?_ 0 _ rfl; (with_reducible repeat (first | refine blk_drewN ?_ _ | refine blk_drew ?_ | refine blk_alloc ?_ _)); exact BK141.out⟩, ⟨by repeat (first | (with_reducible first | exact HB.out | apply below_alloc | apply pw_below_drewN | apply below_drew1 | refine below_set ?_ GE134.out | refine below_set ?_ GE141.out) | exact HB.out)⟩⟩
      · rw [if_neg c12] at H
        have c12b0 : (a0_0.toList == ([110, 97, 109, 101] : List UInt8)) = false := beq_eq_false_iff_ne.mpr c12
        have c12b1 : (a0_0.toList != ([110, 97, 109, 101] : List UInt8)) = true := bne_iff_ne.mpr c12
        (first | rw [c12b0] | (simp only [i64_w, i32_w]; rw [c12b0]) | skip)
        by_cases c13 : a0_0.toList = ([105, 110, 116] : List UInt8)
        · rw [if_pos c13] at H
          have c13b0 : (a0_0.toList == ([105, 110, 116] : List UInt8)) = true := beq_iff_eq.mpr c13
          have c13b1 : (a0_0.toList != ([105, 110, 116] : List UInt8)) = false := bne_eq_false_iff_eq.mpr c13
          clear c13
          have H' := Aside0.mk H
          clear H
          go_wp2
          go_meet
          case rel => exact ⟨_, ((a0_0.toList == ([105, 110, 116] : List UInt8))), (by first | rfl | (simp; done) | (simp [*]; done)), H', ⟨by first | omega | exact Nat.le_refl _⟩, ⟨by (with_reducible repeat (first | refine blk_drewN ?_ _ | refine blk_drew ?_ | refine blk_alloc ?_ _)); refine blk_far ?_ NB134_141.out _; (with_reducible repeat (first | refine blk_drewN ?_ _ | refine blk_drew ?_ | refine blk_alloc ?_ _)); refine blk_far ?_ NB134_141.out _; (with_reducible repeat (first | refine blk_drewN ?_ _ | refine blk_drew ?_ | refine blk_alloc ?_ _)); refine blk_far ?_ NB134_141.out _; (with_reducible repeat (first | refine blk_drewN ?_ _ | refine blk_drew ?_ | refine blk_alloc ?_ _)); refine blk_far ?_ NB134_141.out _; (with_reducible repeat (first | refine blk_drewN ?_ _ | refine blk_drew ?_ | refine blk_alloc ?_ _)); refine blk_far ?_ NB134_141.out _; (with_reducible repeat (first | refine blk_drewN ?_ _ | refine blk_drew ?_ | refine blk_alloc ?_ _)); exact BK134.out⟩, ⟨by (with_reducible repeat (first | refine blk_drewN ?_ _ | refine blk_drew ?_ | refine blk_alloc ?_ _)); refine blk_put (cs := #[.int .i64 t135, .int .i64 t136, .bool t137, .bool t138, .bool false]) ?_ 4 _ rfl; (with_reducible repeat (first | refine blk_drewN ?_ _ | refine blk_drew ?_ | refine blk_alloc ?_ _)); refine blk_put (cs := #[.int .i64 t135, .int .i64 t136, .bool t137, .bool false, .bool false]) ?_ 3 _ rfl; (with_reducible repeat (first | refine blk_drewN ?_ _ | refine blk_drew ?_ | refine blk_alloc ?_ _)); refine blk_put (cs := #[.int .i64 t135, .int .i64 t136, .bool false, .bool false, .bool false]) ?_ 2 _ rfl; (with_reducible repeat (first | refine blk_drewN ?_ _ | refine blk_drew ?_ | refine blk_alloc ?_ _)); refine blk_put (cs := #[.int .i64 t135, .int .i64 0, .bool false, .bool false, .bool false]) ?_ 1 _ rfl; (with_reducible repeat (first | refine blk_drewN ?_ _ | refine blk_drew ?_ | refine blk_alloc ?_ _)); refine blk_put (cs := #[.int .i64 0, .int .i64 0, .bool false, .bool false, .bool false]) ?_ 0 _ rfl; (with_reducible repeat (first | refine blk_drewN ?_ _ | refine blk_drew ?_ | refine blk_alloc ?_ _)); exact BK141.out⟩, ⟨by repeat (first | (with_reducible first | exact HB.out | apply below_alloc | apply pw_below_drewN | apply below_drew1 | refine below_set ?_ GE134.out | refine below_set ?_ GE141.out) | exact HB.out)⟩⟩
        · rw [if_neg c13] at H
          have c13b0 : (a0_0.toList == ([105, 110, 116] : List UInt8)) = false := beq_eq_false_iff_ne.mpr c13
          have c13b1 : (a0_0.toList != ([105, 110, 116] : List UInt8)) = true := bne_iff_ne.mpr c13
          have H' := Aside0.mk H
          clear H
          go_wp2
          go_meet
          case rel => exact ⟨_, ((a0_0.toList == ([115, 101, 108, 101, 99, 116, 111, 114] : List UInt8))), (by first | rfl | (simp; done) | (simp [*]; done)), H', ⟨by first | omega | exact Nat.le_refl _⟩, ⟨by (with_reducible repeat (first | refine blk_drewN ?_ _ | refine blk_drew ?_ | refine blk_alloc ?_ _)); refine blk_far ?_ NB134_141.out _; (with_reducible repeat (first | refine blk_drewN ?_ _ | refine blk_drew ?_ | refine blk_alloc ?_ _)); refine blk_far ?_ NB134_141.out _; (with_reducible repeat (first | refine blk_drewN ?_ _ | refine blk_drew ?_ | refine blk_alloc ?_ _)); refine blk_far ?_ NB134_141.out _; (with_reducible repeat (first | refine blk_drewN ?_ _ | refine blk_drew ?_ | refine blk_alloc ?_ _)); refine blk_far ?_ NB134_141.out _; (with_reducible repeat (first | refine blk_drewN ?_ _ | refine blk_drew ?_ | refine blk_alloc ?_ _)); refine blk_far ?_ NB134_141.out _; (with_reducible repeat (first | refine blk_drewN ?_ _ | refine blk_drew ?_ | refine blk_alloc ?_ _)); exact BK134.out⟩, ⟨by (with_reducible repeat (first | refine blk_drewN ?_ _ | refine blk_drew ?_ | refine blk_alloc ?_ _)); refine blk_put (cs := #[.int .i64 t135, .int .i64 t136, .bool t137, .bool t138, .bool false]) ?_ 4 _ rfl; (with_reducible repeat (first | refine blk_drewN ?_ _ | refine blk_drew ?_ | refine blk_alloc ?_ _)); refine blk_put (cs := #[.int .i64 t135, .int .i64 t136, .bool t137, .bool false, .bool false]) ?_ 3 _ rfl; (with_reducible repeat (first | refine blk_drewN ?_ _ | refine blk_drew ?_ | refine blk_alloc ?_ _)); refine blk_put (cs := #[.int .i64 t135, .int .i64 t136, .bool false, .bool false, .bool false]) ?_ 2 _ rfl; (with_reducible repeat (first | refine blk_drewN ?_ _ | refine blk_drew ?_ | refine blk_alloc ?_ _)); refine blk_put (cs := #[.int .i64 t135, .int .i64 0, .bool false, .bool false, .bool false]) ?_ 1 _ rfl; (with_reducible repeat (first | refine blk_drewN ?_ _ | refine blk_drew ?_ | refine blk_alloc ?_ _)); refine blk_put (cs := #[.int .i64 0, .int .i64 0, .bool false, .bool false, .bool false]) ?_ 0 _ rfl; (with_reducible repeat (first | refine blk_drewN ?_ _ | refine blk_drew ?_ | refine blk_alloc ?_ _)); exact BK141.out⟩, ⟨by repeat (first | (with_reducible first | exact HB.out | apply below_alloc | apply pw_below_drewN | apply below_drew1 | refine below_set ?_ GE134.out | refine below_set ?_ GE141.out) | exact HB.out)⟩⟩
    case rest =>
      clear HC4
      try clear c1
      try clear p2
      try clear c3
      try clear p6
      try clear c8
      try clear c9
      try clear c12
      try clear c12b0
      try clear c12b1
      try clear c13
      try clear c13b0
      try clear c13b1
      try clear hcz10_0
      try clear hcz10_1
      try clear hcz10_2
      try clear hcz10_3
      try clear hcz10_4
      try clear hcz11_0
      try clear hcz11_1
      try clear hcz11_2
      try clear hcz11_3
      try clear hcz6_0
      try clear hcz6_1
      try clear hcz6_2
      try clear hcz6_3
      try clear hfz10_0
      try clear hfz10_1
      try clear hfz10_2
      try clear hfz10_3
      try clear hfz10_4
      try clear hfz11_0
      try clear hfz11_1
      try clear hfz11_2
      try clear hfz11_3
      try clear hfz6_0
      try clear hfz6_1
      try clear hfz6_2
      try clear hfz6_3
      obtain ⟨kq, x26_3, rfl, HA, HJ3, BK134, BK141, HB⟩ := hcut
      cases kq with
      | zero => exact absurd HA.out (by simp [spec_BehindOf.j0])
      | succ kj3 =>
        have H := HA.out
        clear HA
        simp only [spec_BehindOf.j0] at H
        by_cases c14 : x26_3 = true
        · subst c14
          have H1 : (if 0 ≤ (wrap64 (t135 - 1)) then (if (wrap64 (t135 - 1)) < (l0_2.length : Int) then (some (wrap64 ((rd l0_2 (wrap64 (t135 - 1))) + (a0_1.size : Int)))) else (none)) else (none)) = some r := by rw [if_pos rfl] at H; exact H
          clear H
          have H := H1
          clear H1
          obtain ⟨ji15, hji15⟩ : ∃ j_ : Int, (wrap64 (t135 - 1)) = j_ := ⟨_, rfl⟩
          replace H : (if 0 ≤ (ji15) then (if (ji15) < (l0_2.length : Int) then (some (wrap64 ((rd l0_2 (ji15)) + (a0_1.size : Int)))) else (none)) else (none)) = some r := by first | (rw [hji15] at H; exact H) | (simp only [hji15] at H ⊢; exact H)
          have hji15w : (IntKind.i64.wrap (t135 - 1)) = ji15 := (i64_w _).trans hji15
          by_cases c16 : 0 ≤ (ji15)
          · rw [if_pos c16] at H
            have c16b0 : decide (0 ≤ (ji15)) = true := decide_eq_true c16
            clear c16
            by_cases c17 : (ji15) < (l0_2.length : Int)
            · rw [if_pos c17] at H
              have c17b0 : decide ((ji15) < (l0_2.length : Int)) = true := decide_eq_true c17
              clear c17
              obtain rfl := Option.some.inj H
              have hnb18 := NB134_141.out
              have hnc18 := NB141_134.out
              have hcz19_0 : wc.cell? ⟨gb134, 0, none⟩ = some (.string a0_0) := (blk_cell BK134.out 0).trans rfl
              have hcz19_1 : wc.cell? ⟨gb134, 1, none⟩ = some (.string a0_1) := (blk_cell BK134.out 1).trans rfl
              have hcz19_2 : wc.cell? ⟨gb134, 2, none⟩ = some (.slice A0_2 l0_2.length c0_2) := (blk_cell BK134.out 2).trans rfl
              have hcz19_3 : wc.cell? ⟨gb134, 3, none⟩ = some (.slice A0_3 l0_3.length c0_3) := (blk_cell BK134.out 3).trans rfl
              have hfz19_0 := blk_frozen BK134.out 0
              have hfz19_1 := blk_frozen BK134.out 1
              have hfz19_2 := blk_frozen BK134.out 2
              have hfz19_3 := blk_frozen BK134.out 3
              have hcz20_0 : wc.cell? ⟨gb141, 0, none⟩ = some (.int .i64 t135) := (blk_cell BK141.out 0).trans rfl
              have hcz20_1 : wc.cell? ⟨gb141, 1, none⟩ = some (.int .i64 t136) := (blk_cell BK141.out 1).trans rfl
              have hcz20_2 : wc.cell? ⟨gb141, 2, none⟩ = some (.bool t137) := (blk_cell BK141.out 2).trans rfl
              have hcz20_3 : wc.cell? ⟨gb141, 3, none⟩ = some (.bool t138) := (blk_cell BK141.out 3).trans rfl
              have hcz20_4 : wc.cell? ⟨gb141, 4, none⟩ = some (.bool true) := (blk_cell BK141.out 4).trans rfl
              have hfz20_0 := blk_frozen BK141.out 0
              have hfz20_1 := blk_frozen BK141.out 1
              have hfz20_2 := blk_frozen BK141.out 2
              have hfz20_3 := blk_frozen BK141.out 3
              have hfz20_4 := blk_frozen BK141.out 4
              have p144 : 0 ≤ ((ji15) : Int) := of_decide_eq_true (by first | (with_reducible assumption) | assumption)
              have q144 : (ji15) < (l0_2.length : Int) := of_decide_eq_true (by first | (with_reducible assumption) | assumption)
              obtain ⟨ad144, e144, hx144_0⟩ := Kd.at_int HR0_2.out (ji15) p144 q144
              cases e144
              replace hx144_0 := (HB.out.cell (World.block_lt_of_cell? w _ hx144_0)).trans hx144_0
              replace p144 := eq_true p144
              replace q144 := eq_true q144
              go_wp2
              go_ret
              exact ⟨by first | rfl | (simp [errW_none, errW_some] <;> rfl) | (simp only [← hji15]; first | rfl | (simp [errW_none, errW_some] <;> rfl)) | (simp [*, errW_none, errW_some] <;> rfl), by repeat (first | (with_reducible first | exact HB.out | apply below_alloc | apply pw_below_drewN | apply below_drew1 | refine below_set ?_ GE134.out | refine below_set ?_ GE141.out) | exact HB.out)⟩
            · rw [if_neg c17] at H
              exact absurd H (by simp)
          · rw [if_neg c16] at H
            exact absurd H (by simp)
        · replace c14 := Bool.eq_false_iff.mpr c14
          subst c14
          have H1 : (if a0_0.toList = ([112, 111, 105, 110, 116, 115] : List UInt8) then (if 0 ≤ (wrap64 (t135 - 1)) then (if (wrap64 (t135 - 1)) < (l0_2.length : Int) then (some (wrap64 ((rd l0_2 (wrap64 (t135 - 1))) + 3))) else (none)) else (none)) else (if 0 ≤ (wrap64 (t135 - 1)) then (if (wrap64 (t135 - 1)) < (l0_2.length : Int) then (some (wrap64 ((rd l0_2 (wrap64 (t135 - 1))) + 1))) else (none)) else (none))) = some r := by rw [if_neg (show ¬ (false = true) by decide)] at H; exact H
          clear H
          have H := H1
          clear H1
          by_cases c21 : a0_0.toList = ([112, 111, 105, 110, 116, 115] : List UInt8)
          · rw [if_pos c21] at H
            have c21b0 : (a0_0.toList == ([112, 111, 105, 110, 116, 115] : List UInt8)) = true := beq_iff_eq.mpr c21
            have c21b1 : (a0_0.toList != ([112, 111, 105, 110, 116, 115] : List UInt8)) = false := bne_eq_false_iff_eq.mpr c21
            clear c21
            obtain ⟨ji22, hji22⟩ : ∃ j_ : Int, (wrap64 (t135 - 1)) = j_ := ⟨_, rfl⟩
            replace H : (if 0 ≤ (ji22) then (if (ji22) < (l0_2.length : Int) then (some (wrap64 ((rd l0_2 (ji22)) + 3))) else (none)) else (none)) = some r := by first | (rw [hji22] at H; exact H) | (simp only [hji22] at H ⊢; exact H)
            have hji22w : (IntKind.i64.wrap (t135 - 1)) = ji22 := (i64_w _).trans hji22
            by_cases c23 : 0 ≤ (ji22)
            · rw [if_pos c23] at H
              have c23b0 : decide (0 ≤ (ji22)) = true := decide_eq_true c23
              clear c23
              by_cases c24 : (ji22) < (l0_2.length : Int)
              · rw [if_pos c24] at H
                have c24b0 : decide ((ji22) < (l0_2.length : Int)) = true := decide_eq_true c24
                clear c24
                obtain rfl := Option.some.inj H
                have hnb25 := NB134_141.out
                have hnc25 := NB141_134.out
                have hcz26_0 : wc.cell? ⟨gb134, 0, none⟩ = some (.string a0_0) := (blk_cell BK134.out 0).trans rfl
                have hcz26_1 : wc.cell? ⟨gb134, 1, none⟩ = some (.string a0_1) := (blk_cell BK134.out 1).trans rfl
                have hcz26_2 : wc.cell? ⟨gb134, 2, none⟩ = some (.slice A0_2 l0_2.length c0_2) := (blk_cell BK134.out 2).trans rfl
                have hcz26_3 : wc.cell? ⟨gb134, 3, none⟩ = some (.slice A0_3 l0_3.length c0_3) := (blk_cell BK134.out 3).trans rfl
                have hfz26_0 := blk_frozen BK134.out 0
                have hfz26_1 := blk_frozen BK134.out 1
                have hfz26_2 := blk_frozen BK134.out 2
                have hfz26_3 := blk_frozen BK134.out 3
                have hcz27_0 : wc.cell? ⟨gb141, 0, none⟩ = some (.int .i64 t135) := (blk_cell BK141.out 0).trans rfl
                have hcz27_1 : wc.cell? ⟨gb141, 1, none⟩ = some (.int .i64 t136) := (blk_cell BK141.out 1).trans rfl
                have hcz27_2 : wc.cell? ⟨gb141, 2, none⟩ = some (.bool t137) := (blk_cell BK141.out 2).trans rfl
                have hcz27_3 : wc.cell? ⟨gb141, 3, none⟩ = some (.bool t138) := (blk_cell BK141.out 3).trans rfl
                have hcz27_4 : wc.cell? ⟨gb141, 4, none⟩ = some (.bool true) := (blk_cell BK141.out 4).trans rfl
                have hfz27_0 := blk_frozen BK141.out 0
                have hfz27_1 := blk_frozen BK141.out 1
                have hfz27_2 := blk_frozen BK141.out 2
                have hfz27_3 := blk_frozen BK141.out 3
                have hfz27_4 := blk_frozen BK141.out 4
                have p145 : 0 ≤ ((ji22) : Int) := of_decide_eq_true (by first | (with_reducible assumption) | assumption)
                have q145 : (ji22) < (l0_2.length : Int) := of_decide_eq_true (by first | (with_reducible assumption) | assumption)
                obtain ⟨ad145, e145, hx145_0⟩ := Kd.at_int HR0_2.out (ji22) p145 q145
                cases e145
                replace hx145_0 := (HB.out.cell (World.block_lt_of_cell? w _ hx145_0)).trans hx145_0
                replace p145 := eq_true p145
                replace q145 := eq_true q145
                go_wp2
                go_ret
                exact ⟨by first | rfl | (simp [errW_none, errW_some] <;> rfl) | (simp only [← hji22]; first | rfl | (simp [errW_none, errW_some] <;> rfl)) | (simp [*, errW_none, errW_some] <;> rfl), by repeat (first | (with_reducible first | exact HB.out | apply below_alloc | apply pw_below_drewN | apply below_drew1 | refine below_set ?_ GE134.out | refine below_set ?_ GE141.out) | exact HB.out)⟩
              · rw [if_neg c24] at H
                exact absurd H (by simp)
            · rw [if_neg c23] at H
              exact absurd H (by simp)
          · rw [if_neg c21] at H
            have c21b0 : (a0_0.toList == ([112, 111, 105, 110, 116, 115] : List UInt8)) = false := beq_eq_false_iff_ne.mpr c21
            have c21b1 : (a0_0.toList != ([112, 111, 105, 110, 116, 115] : List UInt8)) = true := bne_iff_ne.mpr c21
            obtain ⟨ji28, hji28⟩ : ∃ j_ : Int, (wrap64 (t135 - 1)) = j_ := ⟨_, rfl⟩
            replace H : (if 0 ≤ (ji28) then (if (ji28) < (l0_2.length : Int) then (some (wrap64 ((rd l0_2 (ji28)) + 1))) else (none)) else (none)) = some r := by first | (rw [hji28] at H; exact H) | (simp only [hji28] at H ⊢; exact H)
            have hji28w : (IntKind.i64.wrap (t135 - 1)) = ji28 := (i64_w _).trans hji28
            by_cases c29 : 0 ≤ (ji28)
            · rw [if_pos c29] at H
              have c29b0 : decide (0 ≤ (ji28)) = true := decide_eq_true c29
              clear c29
              by_cases c30 : (ji28) < (l0_2.length : Int)
              · rw [if_pos c30] at H
                have c30b0 : decide ((ji28) < (l0_2.length : Int)) = true := decide_eq_true c30
                clear c30
                obtain rfl := Option.some.inj H
                have hnb31 := NB134_141.out
                have hnc31 := NB141_134.out
                have hcz32_0 : wc.cell? ⟨gb134, 0, none⟩ = some (.string a0_0) := (blk_cell BK134.out 0).trans rfl
                have hcz32_1 : wc.cell? ⟨gb134, 1, none⟩ = some (.string a0_1) := (blk_cell BK134.out 1).trans rfl
                have hcz32_2 : wc.cell? ⟨gb134, 2, none⟩ = some (.slice A0_2 l0_2.length c0_2) := (blk_cell BK134.out 2).trans rfl
                have hcz32_3 : wc.cell? ⟨gb134, 3, none⟩ = some (.slice A0_3 l0_3.length c0_3) := (blk_cell BK134.out 3).trans rfl
                have hfz32_0 := blk_frozen BK134.out 0
                have hfz32_1 := blk_frozen BK134.out 1
                have hfz32_2 := blk_frozen BK134.out 2
                have hfz32_3 := blk_frozen BK134.out 3
                have hcz33_0 : wc.cell? ⟨gb141, 0, none⟩ = some (.int .i64 t135) := (blk_cell BK141.out 0).trans rfl
                have hcz33_1 : wc.cell? ⟨gb141, 1, none⟩ = some (.int .i64 t136) := (blk_cell BK141.out 1).trans rfl
                have hcz33_2 : wc.cell? ⟨gb141, 2, none⟩ = some (.bool t137) := (blk_cell BK141.out 2).trans rfl
                have hcz33_3 : wc.cell? ⟨gb141, 3, none⟩ = some (.bool t138) := (blk_cell BK141.out 3).trans rfl
                have hcz33_4 : wc.cell? ⟨gb141, 4, none⟩ = some (.bool true) := (blk_cell BK141.out 4).trans rfl
                have hfz33_0 := blk_frozen BK141.out 0
                have hfz33_1 := blk_frozen BK141.out 1
                have hfz33_2 := blk_frozen BK141.out 2
                have hfz33_3 := blk_frozen BK141.out 3
                have hfz33_4 := blk_frozen BK141.out 4
                have p146 : 0 ≤ ((ji28) : Int) := of_decide_eq_true (by first | (with_reducible assumption) | assumption)
                have q146 : (ji28) < (l0_2.length : Int) := of_decide_eq_true (by first | (with_reducible assumption) | assumption)
                obtain ⟨ad146, e146, hx146_0⟩ := Kd.at_int HR0_2.out (ji28) p146 q146
                cases e146
                replace hx146_0 := (HB.out.cell (World.block_lt_of_cell? w _ hx146_0)).trans hx146_0
                replace p146 := eq_true p146
                replace q146 := eq_true q146
                go_wp2
                go_ret
                exact ⟨by first | rfl | (simp [errW_none, errW_some] <;> rfl) | (simp only [← hji28]; first | rfl | (simp [errW_none, errW_some] <;> rfl)) | (simp [*, errW_none, errW_some] <;> rfl), by repeat (first | (with_reducible first | exact HB.out | apply below_alloc | apply pw_below_drewN | apply below_drew1 | refine below_set ?_ GE134.out | refine below_set ?_ GE141.out) | exact HB.out)⟩
              · rw [if_neg c30] at H
                exact absurd H (by simp)
            · rw [if_neg c29] at H
              exact absurd H (by simp)
  · replace c3 := Bool.eq_false_iff.mpr c3
    subst c3
    have H1 : (if 0 ≤ (wrap64 ((l0_3.length : Int) - 1)) then (if (wrap64 ((l0_3.length : Int) - 1)) < (l0_3.length : Int) then ((spec_BehindOf.f k ((rd_T25 l0_3 (wrap64 ((l0_3.length : Int) - 1))).f0) ((rd_T25 l0_3 (wrap64 ((l0_3.length : Int) - 1))).f1) ((rd_T25 l0_3 (wrap64 ((l0_3.length : Int) - 1))).f2) ((rd_T25 l0_3 (wrap64 ((l0_3.length : Int) - 1))).f3)).bind fun t143 => (some t143)) else (none)) else (none)) = some r := by rw [if_neg (show ¬ (false = true) by decide)] at H; exact H
    clear H
    have H := H1
    clear H1
    obtain ⟨ji34, hji34⟩ : ∃ j_ : Int, (wrap64 ((l0_3.length : Int) - 1)) = j_ := ⟨_, rfl⟩
    replace H : (if 0 ≤ (ji34) then (if (ji34) < (l0_3.length : Int) then ((spec_BehindOf.f k ((rd_T25 l0_3 (ji34)).f0) ((rd_T25 l0_3 (ji34)).f1) ((rd_T25 l0_3 (ji34)).f2) ((rd_T25 l0_3 (ji34)).f3)).bind fun t143 => (some t143)) else (none)) else (none)) = some r := by first | (rw [hji34] at H; exact H) | (simp only [hji34] at H ⊢; exact H)
    (try rw [hji34] at A2)
    have hji34w : (IntKind.i64.wrap ((l0_3.length : Int) - 1)) = ji34 := (i64_w _).trans hji34
    by_cases c35 : 0 ≤ (ji34)
    · rw [if_pos c35] at H
      have c35b0 : decide (0 ≤ (ji34)) = true := decide_eq_true c35
      clear c35
      by_cases c36 : (ji34) < (l0_3.length : Int)
      · rw [if_pos c36] at H
        have c36b0 : decide ((ji34) < (l0_3.length : Int)) = true := decide_eq_true c36
        clear c36
        replace H := Option.bind_eq_some_iff.mp H
        obtain ⟨t143, A370, H⟩ := H
        replace H : (some t143) = some r := H
        have A37 := Aside0.mk A370
        clear A370
        obtain rfl := Option.some.inj H
        go_enter Tryz.func8, Tryz.ntmps8
        go_wp2_with (first | ((with_reducible refine gate_dst (N := 1) rfl ?_); refine box_event ?hg (N := 1) ?hd (cs := #[.string a0_0, .string a0_1, .slice A0_2 l0_2.length c0_2, .slice A0_3 l0_3.length c0_3]) (t := 25) ?hr ?_; (case hd => rfl); (case hg => rfl); (case hr => first | (go_simp; done) | (go_simp; rfl)); intro gb134 hg w38 hbox hb; have n0_ := Aside0.mk (below_step (by repeat (first | (with_reducible first | exact HB.out | apply below_alloc | apply pw_below_drewN | apply below_drew1) | exact HB.out)) hb); have n1_ := Aside0.mk (hbox); have n2_ := Aside0.mk ((by rw [hg]; exact (below_size (by repeat (first | (with_reducible first | exact HB.out | apply below_alloc | apply pw_below_drewN | apply below_drew1) | exact HB.out))) : w.heap.size ≤ gb134)); have n3_ := Aside0.mk ((by rw [hg]; exact (below_size (by repeat (first | (with_reducible first | exact HB.out | apply below_alloc | apply pw_below_drewN | apply below_drew1) | exact HB.out))) : w.heap.size ≤ gb134)); clear HB; have HB := n0_; have BK134 := n1_; have GW134 := n2_; have GE134 := n3_; clear n0_ n1_ n2_ n3_; clear hb hbox hg; have hcz39_0 : w38.cell? ⟨gb134, 0, none⟩ = some (.string a0_0) := (blk_cell BK134.out 0).trans rfl; have hcz39_1 : w38.cell? ⟨gb134, 1, none⟩ = some (.string a0_1) := (blk_cell BK134.out 1).trans rfl; have hcz39_2 : w38.cell? ⟨gb134, 2, none⟩ = some (.slice A0_2 l0_2.length c0_2) := (blk_cell BK134.out 2).trans rfl; have hcz39_3 : w38.cell? ⟨gb134, 3, none⟩ = some (.slice A0_3 l0_3.length c0_3) := (blk_cell BK134.out 3).trans rfl; have hfz39_0 := blk_frozen BK134.out 0; have hfz39_1 := blk_frozen BK134.out 1; have hfz39_2 := blk_frozen BK134.out 2; have hfz39_3 := blk_frozen BK134.out 3) | ((with_reducible refine gate_callee (f := 12) rfl ?_); refine goesL_ (some 9) rfl rfl Tryz.func12 (by kernel_rfl) rfl #[.string a0_0] rfl (by (try simp only [List.map_toArray, List.map_cons, List.map_nil]); first | done | rfl | (simp only [List.length_drop, List.length_take]; rfl)) ?_; (with_reducible refine (spec_formOf.calls k a0_0 t135 t136 t137 t138 false t140 _ A2.out).mono ?_); rintro e w40 ⟨rfl, hb⟩; refine ⟨_, rfl, ?_⟩; have n0_ := Aside0.mk (blk_below (g := gb134) (o := .cells #[.string a0_0, .string a0_1, .slice A0_2 l0_2.length c0_2, .slice A0_3 l0_3.length c0_3] 25 (0, 0)) (by (with_reducible repeat (first | refine blk_drewN ?_ _ | refine blk_drew ?_ | refine blk_alloc ?_ _)); exact BK134.out) hb); have n1_ := Aside0.mk (below_step (by repeat (first | (with_reducible first | exact HB.out | apply below_alloc | apply pw_below_drewN | apply below_drew1 | refine below_set ?_ GE134.out) | exact HB.out)) hb); clear BK134; clear HB; have BK134 := n0_; have HB := n1_; clear n0_ n1_; (try clear hb); (try clear hb2); (try clear hk); (try clear hi)) | ((with_reducible refine gate_dst (N := 3) rfl ?_); refine box_event ?hg (N := 3) ?hd (cs := #[.int .i64 0, .int .i64 0, .bool false, .bool false, .bool false]) (t := 38) ?hr ?_; (case hd => rfl); (case hg => rfl); (case hr => first | (go_simp; done) | (go_simp; rfl)); intro gb141 hg w41 hbox hb; have n0_ := Aside0.mk (blk_below (g := gb134) (o := .cells #[.string a0_0, .string a0_1, .slice A0_2 l0_2.length c0_2, .slice A0_3 l0_3.length c0_3] 25 (0, 0)) (by (with_reducible repeat (first | refine blk_drewN ?_ _ | refine blk_drew ?_ | refine blk_alloc ?_ _)); exact BK134.out) hb); have n1_ := Aside0.mk (below_step (by repeat (first | (with_reducible first | exact HB.out | apply below_alloc | apply pw_below_drewN | apply below_drew1 | refine below_set ?_ GE134.out) | exact HB.out)) hb); have n2_ := Aside0.mk (hbox); have n3_ := Aside0.mk ((by rw [hg]; exact (below_size (by repeat (first | (with_reducible first | exact HB.out | apply below_alloc | apply pw_below_drewN | apply below_drew1 | refine below_set ?_ GE134.out) | exact HB.out))) : w.heap.size ≤ gb141)); have n4_ := Aside0.mk ((by rw [hg]; exact (below_size (by repeat (first | (with_reducible first | exact HB.out | apply below_alloc | apply pw_below_drewN | apply below_drew1 | refine below_set ?_ GE134.out) | exact HB.out))) : w.heap.size ≤ gb141)); have n5_ := Aside0.mk ((by rw [hg]; exact Nat.ne_of_lt (blk_lt (g := gb134) (o := .cells #[.string a0_0, .string a0_1, .slice A0_2 l0_2.length c0_2, .slice A0_3 l0_3.length c0_3] 25 (0, 0)) (by (with_reducible repeat (first | refine blk_drewN ?_ _ | refine blk_drew ?_ | refine blk_alloc ?_ _)); exact BK134.out)) : gb134 ≠ gb141)); have n6_ := Aside0.mk ((by rw [hg]; exact Nat.ne_of_gt (blk_lt (g := gb134) (o := .cells #[.string a0_0, .string a0_1, .slice A0_2 l0_2.length c0_2, .slice A0_3 l0_3.length c0_3] 25 (0, 0)) (by (with_reducible repeat (first | refine blk_drewN ?_ _ | refine blk_drew ?_ | refine blk_alloc ?_ _)); exact BK134.out)) : gb141 ≠ gb134)); clear BK134; clear HB; have BK134 := n0_; have HB := n1_; have BK141 := n2_; have GW141 := n3_; have GE141 := n4_; have NB134_141 := n5_; have NB141_134 := n6_; clear n0_ n1_ n2_ n3_ n4_ n5_ n6_; clear hb hbox hg; have hnb42 := NB141_134.out; have hnc42 := NB134_141.out; have hcz43_0 : w41.cell? ⟨gb141, 0, none⟩ = some (.int .i64 0) := (blk_cell BK141.out 0).trans rfl; have hcz43_1 : w41.cell? ⟨gb141, 1, none⟩ = some (.int .i64 0) := (blk_cell BK141.out 1).trans rfl; have hcz43_2 : w41.cell? ⟨gb141, 2, none⟩ = some (.bool false) := (blk_cell BK141.out 2).trans rfl; have hcz43_3 : w41.cell? ⟨gb141, 3, none⟩ = some (.bool false) := (blk_cell BK141.out 3).trans rfl; have hcz43_4 : w41.cell? ⟨gb141, 4, none⟩ = some (.bool false) := (blk_cell BK141.out 4).trans rfl; have hfz43_0 := blk_frozen BK141.out 0; have hfz43_1 := blk_frozen BK141.out 1; have hfz43_2 := blk_frozen BK141.out 2; have hfz43_3 := blk_frozen BK141.out 3; have hfz43_4 := blk_frozen BK141.out 4; have hcz44_0 : w41.cell? ⟨gb134, 0, none⟩ = some (.string a0_0) := (blk_cell BK134.out 0).trans rfl; have hcz44_1 : w41.cell? ⟨gb134, 1, none⟩ = some (.string a0_1) := (blk_cell BK134.out 1).trans rfl; have hcz44_2 : w41.cell? ⟨gb134, 2, none⟩ = some (.slice A0_2 l0_2.length c0_2) := (blk_cell BK134.out 2).trans rfl; have hcz44_3 : w41.cell? ⟨gb134, 3, none⟩ = some (.slice A0_3 l0_3.length c0_3) := (blk_cell BK134.out 3).trans rfl; have hfz44_0 := blk_frozen BK134.out 0; have hfz44_1 := blk_frozen BK134.out 1; have hfz44_2 := blk_frozen BK134.out 2; have hfz44_3 := blk_frozen BK134.out 3; have p142 : 0 ≤ ((ji34) : Int) := of_decide_eq_true (by first | (with_reducible assumption) | assumption); have q142 : (ji34) < (l0_3.length : Int) := of_decide_eq_true (by first | (with_reducible assumption) | assumption); obtain ⟨ad142, A142_2, c142_2, A142_3, c142_3, e142, hx142_0, hx142_1, hx142_2, hx142_3, hl142_2, hi142_2, hl142_3, hi142_3⟩ := at_T25 HR0_3.out (ji34) p142 q142; cases e142; have hn142_0 : ad142.block ≠ gb141 := Nat.ne_of_lt (Nat.lt_of_lt_of_le (by have := World.block_lt_of_cell? _ _ hx142_0; first | rwa [add_block] at this | exact this) GW141.out); have hn142_1 : ad142.block ≠ gb141 := Nat.ne_of_lt (Nat.lt_of_lt_of_le (by have := World.block_lt_of_cell? _ _ hx142_0; first | rwa [add_block] at this | exact this) GW141.out); have hn142_2 : ad142.block ≠ gb141 := Nat.ne_of_lt (Nat.lt_of_lt_of_le (by have := World.block_lt_of_cell? _ _ hx142_0; first | rwa [add_block] at this | exact this) GW141.out); have hn142_3 : ad142.block ≠ gb141 := Nat.ne_of_lt (Nat.lt_of_lt_of_le (by have := World.block_lt_of_cell? _ _ hx142_0; first | rwa [add_block] at this | exact this) GW141.out); have hn142_4 : ad142.block ≠ gb141 := Nat.ne_of_lt (Nat.lt_of_lt_of_le (by have := World.block_lt_of_cell? _ _ hx142_0; first | rwa [add_block] at this | exact this) GW141.out); replace hx142_0 := (HB.out.cell (World.block_lt_of_cell? w _ hx142_0)).trans hx142_0; replace hx142_1 := (HB.out.cell (World.block_lt_of_cell? w _ hx142_1)).trans hx142_1; replace hx142_2 := (HB.out.cell (World.block_lt_of_cell? w _ hx142_2)).trans hx142_2; replace hx142_3 := (HB.out.cell (World.block_lt_of_cell? w _ hx142_3)).trans hx142_3; have HR142_2 := Aside0.mk hi142_2; have HC142_2 := Aside0.mk hl142_2; clear hi142_2 hl142_2; have HR142_3 := Aside0.mk hi142_3; have HC142_3 := Aside0.mk hl142_3; clear hi142_3 hl142_3; replace hx142_0 := (cell_far (p := ⟨gb141, 0, none⟩) (by first | (rw [add_block]; exact hn142_0) | (show (Addr.add _ _).block ≠ _; rw [add_block]; exact hn142_0) | exact hn142_0) (.int .i64 t135)).trans hx142_0; replace hx142_1 := (cell_far (p := ⟨gb141, 0, none⟩) (by first | (rw [add_block]; exact hn142_0) | (show (Addr.add _ _).block ≠ _; rw [add_block]; exact hn142_0) | exact hn142_0) (.int .i64 t135)).trans hx142_1; replace hx142_2 := (cell_far (p := ⟨gb141, 0, none⟩) (by first | (rw [add_block]; exact hn142_0) | (show (Addr.add _ _).block ≠ _; rw [add_block]; exact hn142_0) | exact hn142_0) (.int .i64 t135)).trans hx142_2; replace hx142_3 := (cell_far (p := ⟨gb141, 0, none⟩) (by first | (rw [add_block]; exact hn142_0) | (show (Addr.add _ _).block ≠ _; rw [add_block]; exact hn142_0) | exact hn142_0) (.int .i64 t135)).trans hx142_3; replace hx142_0 := (cell_far (p := ⟨gb141, 1, none⟩) (by first | (rw [add_block]; exact hn142_1) | (show (Addr.add _ _).block ≠ _; rw [add_block]; exact hn142_1) | exact hn142_1) (.int .i64 t136)).trans hx142_0; replace hx142_1 := (cell_far (p := ⟨gb141, 1, none⟩) (by first | (rw [add_block]; exact hn142_1) | (show (Addr.add _ _).block ≠ _; rw [add_block]; exact hn142_1) | exact hn142_1) (.int .i64 t136)).trans hx142_1; replace hx142_2 := (cell_far (p := ⟨gb141, 1, none⟩) (by first | (rw [add_block]; exact hn142_1) | (show (Addr.add _ _).block ≠ _; rw [add_block]; exact hn142_1) | exact hn142_1) (.int .i64 t136)).trans hx142_2; replace hx142_3 := (cell_far (p := ⟨gb141, 1, none⟩) (by first | (rw [add_block]; exact hn142_1) | (show (Addr.add _ _).block ≠ _; rw [add_block]; exact hn142_1) | exact hn142_1) (.int .i64 t136)).trans hx142_3; replace hx142_0 := (cell_far (p := ⟨gb141, 2, none⟩) (by first | (rw [add_block]; exact hn142_2) | (show (Addr.add _ _).block ≠ _; rw [add_block]; exact hn142_2) | exact hn142_2) (.bool t137)).trans hx142_0; replace hx142_1 := (cell_far (p := ⟨gb141, 2, none⟩) (by first | (rw [add_block]; exact hn142_2) | (show (Addr.add _ _).block ≠ _; rw [add_block]; exact hn142_2) | exact hn142_2) (.bool t137)).trans hx142_1; replace hx142_2 := (cell_far (p := ⟨gb141, 2, none⟩) (by first | (rw [add_block]; exact hn142_2) | (show (Addr.add _ _).block ≠ _; rw [add_block]; exact hn142_2) | exact hn142_2) (.bool t137)).trans hx142_2; replace hx142_3 := (cell_far (p := ⟨gb141, 2, none⟩) (by first | (rw [add_block]; exact hn142_2) | (show (Addr.add _ _).block ≠ _; rw [add_block]; exact hn142_2) | exact hn142_2) (.bool t137)).trans hx142_3; replace hx142_0 := (cell_far (p := ⟨gb141, 3, none⟩) (by first | (rw [add_block]; exact hn142_3) | (show (Addr.add _ _).block ≠ _; rw [add_block]; exact hn142_3) | exact hn142_3) (.bool t138)).trans hx142_0; replace hx142_1 := (cell_far (p := ⟨gb141, 3, none⟩) (by first | (rw [add_block]; exact hn142_3) | (show (Addr.add _ _).block ≠ _; rw [add_block]; exact hn142_3) | exact hn142_3) (.bool t138)).trans hx142_1; replace hx142_2 := (cell_far (p := ⟨gb141, 3, none⟩) (by first | (rw [add_block]; exact hn142_3) | (show (Addr.add _ _).block ≠ _; rw [add_block]; exact hn142_3) | exact hn142_3) (.bool t138)).trans hx142_2; replace hx142_3 := (cell_far (p := ⟨gb141, 3, none⟩) (by first | (rw [add_block]; exact hn142_3) | (show (Addr.add _ _).block ≠ _; rw [add_block]; exact hn142_3) | exact hn142_3) (.bool t138)).trans hx142_3; replace hx142_0 := (cell_far (p := ⟨gb141, 4, none⟩) (by first | (rw [add_block]; exact hn142_4) | (show (Addr.add _ _).block ≠ _; rw [add_block]; exact hn142_4) | exact hn142_4) (.bool false)).trans hx142_0; replace hx142_1 := (cell_far (p := ⟨gb141, 4, none⟩) (by first | (rw [add_block]; exact hn142_4) | (show (Addr.add _ _).block ≠ _; rw [add_block]; exact hn142_4) | exact hn142_4) (.bool false)).trans hx142_1; replace hx142_2 := (cell_far (p := ⟨gb141, 4, none⟩) (by first | (rw [add_block]; exact hn142_4) | (show (Addr.add _ _).block ≠ _; rw [add_block]; exact hn142_4) | exact hn142_4) (.bool false)).trans hx142_2; replace hx142_3 := (cell_far (p := ⟨gb141, 4, none⟩) (by first | (rw [add_block]; exact hn142_4) | (show (Addr.add _ _).block ≠ _; rw [add_block]; exact hn142_4) | exact hn142_4) (.bool false)).trans hx142_3; clear hn142_0; clear hn142_1; clear hn142_2; clear hn142_3; clear hn142_4; replace p142 := eq_true p142; replace q142 := eq_true q142) | ((with_reducible refine gate_callee (f := 8) rfl ?_); refine goesL_ (some 23) rfl rfl Tryz.func8 (by kernel_rfl) rfl #[.agg #[.string ((rd_T25 l0_3 (ji34)).f0), .string ((rd_T25 l0_3 (ji34)).f1), .slice A142_2 ((rd_T25 l0_3 (ji34)).f2).length c142_2, .slice A142_3 ((rd_T25 l0_3 (ji34)).f3).length c142_3]] rfl (by (try simp only [List.map_toArray, List.map_cons, List.map_nil]); first | done | (simp only [hji34]; rfl) | rfl | (simp only [List.length_drop, List.length_take]; rfl)) ?_; (with_reducible refine (ih k (by omega) ((rd_T25 l0_3 (ji34)).f0) ((rd_T25 l0_3 (ji34)).f1) _ _ ((rd_T25 l0_3 (ji34)).f2) _ _ ((rd_T25 l0_3 (ji34)).f3) t143 _ ?side1 ?side2 ?side3 ?side4 A37.out).mono ?_); (case side1 => exact Kd.C_below HR142_2.out (by repeat (first | (with_reducible first | exact HB.out | apply below_alloc | apply pw_below_drewN | apply below_drew1 | refine below_set ?_ GE134.out | refine below_set ?_ GE141.out) | exact HB.out))); (case side2 => exact HC142_2.out); (case side3 => exact Kd.C_below HR142_3.out (by repeat (first | (with_reducible first | exact HB.out | apply below_alloc | apply pw_below_drewN | apply below_drew1 | refine below_set ?_ GE134.out | refine below_set ?_ GE141.out) | exact HB.out))); (case side4 => exact HC142_3.out); rintro e w45 ⟨rfl, hb⟩; refine ⟨_, rfl, ?_⟩; have n0_ := Aside0.mk (blk_below (g := gb134) (o := .cells #[.string a0_0, .string a0_1, .slice A0_2 l0_2.length c0_2, .slice (some ad142) l0_3.length c0_3] 25 (0, 0)) (by (with_reducible repeat (first | refine blk_drewN ?_ _ | refine blk_drew ?_ | refine blk_alloc ?_ _)); refine blk_far ?_ NB134_141.out _; (with_reducible repeat (first | refine blk_drewN ?_ _ | refine blk_drew ?_ | refine blk_alloc ?_ _)); refine blk_far ?_ NB134_141.out _; (with_reducible repeat (first | refine blk_drewN ?_ _ | refine blk_drew ?_ | refine blk_alloc ?_ _)); refine blk_far ?_ NB134_141.out _; (with_reducible repeat (first | refine blk_drewN ?_ _ | refine blk_drew ?_ | refine blk_alloc ?_ _)); refine blk_far ?_ NB134_141.out _; (with_reducible repeat (first | refine blk_drewN ?_ _ | refine blk_drew ?_ | refine blk_alloc ?_ _)); refine blk_far ?_ NB134_141.out _; (with_reducible repeat (first | refine blk_drewN ?_ _ | refine blk_drew ?_ | refine blk_alloc ?_ _)); exact BK134.out) hb); have n1_ := Aside0.mk (blk_below (g := gb141) (o := .cells #[.int .i64 t135, .int .i64 t136, .bool t137, .bool t138, .bool false] 38 (0, 0)) (by (with_reducible repeat (first | refine blk_drewN ?_ _ | refine blk_drew ?_ | refine blk_alloc ?_ _)); refine blk_put (cs := #[.int .i64 t135, .int .i64 t136, .bool t137, .bool t138, .bool false]) ?_ 4 _ rfl; (with_reducible repeat (first | refine blk_drewN ?_ _ | refine blk_drew ?_ | refine blk_alloc ?_ _)); refine blk_put (cs := #[.int .i64 t135, .int .i64 t136, .bool t137, .bool false, .bool false]) ?_ 3 _ rfl; (with_reducible repeat (first | refine blk_drewN ?_ _ | refine blk_drew ?_ | refine blk_alloc ?_ _)); refine blk_put (cs := #[.int .i64 t135, .int .i64 t136, .bool false, .bool false, .bool false]) ?_ 2 _ rfl; (with_reducible repeat (first | refine blk_drewN ?_ _ | refine blk_drew ?_ | refine blk_alloc ?_ _)); refine blk_put (cs := #[.int .i64 t135, .int .i64 0, .bool false, .bool false, .bool false]) ?_ 1 _ rfl; (with_reducible repeat (first | refine blk_drewN ?_ _ | refine blk_drew ?_ | refine blk_alloc ?_ _)); refine blk_put (cs := #[.int .i64 0, .int .i64 0, .bool false, .bool false, .bool false]) ?_ 0 _ rfl; (with_reducible repeat (first | refine blk_drewN ?_ _ | refine blk_drew ?_ | refine blk_alloc ?_ _)); exact BK141.out) hb); have n2_ := Aside0.mk (below_step (by repeat (first | (with_reducible first | exact HB.out | apply below_alloc | apply pw_below_drewN | apply below_drew1 | refine below_set ?_ GE134.out | refine below_set ?_ GE141.out) | exact HB.out)) hb); clear BK134; clear BK141; clear HB; have BK134 := n0_; have BK141 := n1_; have HB := n2_; clear n0_ n1_ n2_; (try clear hb); (try clear hb2); (try clear hk); (try clear hi)))
        go_ret
        exact ⟨by first | rfl | (simp [errW_none, errW_some] <;> rfl) | (simp only [← hji34]; first | rfl | (simp [errW_none, errW_some] <;> rfl)) | (simp [*, errW_none, errW_some] <;> rfl), by repeat (first | (with_reducible first | exact HB.out | apply below_alloc | apply pw_below_drewN | apply below_drew1 | refine below_set ?_ GE134.out | refine below_set ?_ GE141.out) | exact HB.out)⟩
      · rw [if_neg c36] at H
        exact absurd H (by simp)
    · rw [if_neg c35] at H
      exact absurd H (by simp)

end Go.Proofs.YtbojpbfckgjgbaaGreat.A
