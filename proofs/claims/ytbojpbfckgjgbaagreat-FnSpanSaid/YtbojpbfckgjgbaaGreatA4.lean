-- Written by a program of this session (gprint.py) out of the kit's print of the translation. Not trusted: Lean checks it.
import Derived.Test.YtbojpbfckgjgbaaGreatA0
import Derived.Test.YtbojpbfckgjgbaaGreatA3
namespace Go.Proofs.YtbojpbfckgjgbaaGreat.A
open Go.RowKit Go.Proofs.YtbojpbfckgjgbaaGreatW.PrintWords Go.Proofs.YtbojpbfckgjgbaaGreatW.PrintLast Go.Proofs.YtbojpbfckgjgbaaGreatW.PrintMore
attribute [local go_sem] max2_int min2_int max_two min_two max_three min_three max_four min_four   -- for this text's walks alone
set_option linter.unusedVariables false
set_option linter.unusedSimpArgs false

theorem split_pos (x : Bool) (l : List UInt8) (h : (x != (l != ([] : List UInt8))) = true) : (x = true ∧ l.isEmpty = true ∧ (l == ([] : List UInt8)) = true) ∨ (x = false ∧ l.isEmpty = false ∧ (l == ([] : List UInt8)) = false) := by
  cases x <;> cases l <;> simp_all
theorem split_neg (x : Bool) (l : List UInt8) (h : ¬ (x != (l != ([] : List UInt8))) = true) : (x = true ∧ l.isEmpty = false ∧ (l == ([] : List UInt8)) = false) ∨ (x = false ∧ l.isEmpty = true ∧ (l == ([] : List UInt8)) = true) := by
  cases x <;> cases l <;> simp_all
/-! ### spec_isPlaced: function 10 -/
mutual
def spec_isPlaced.j0 : Nat → Int → Bool → ByteArray → ByteArray → List Int → List (S25) → Option (Bool)
  | 0, _, _, _, _, _, _ => none
  | k + 1, x1, x58, x107000, x107001, x107002, x107003 => if x58 = true then (some false) else (if x107000.toList = ([110, 97, 109, 101] : List UInt8) then (spec_isPlaced.j1 k x1 true x107000 x107001 x107002 x107003) else (if x107000.toList = ([105, 110, 116] : List UInt8) then (spec_isPlaced.j1 k x1 true x107000 x107001 x107002 x107003) else (spec_isPlaced.j1 k x1 (x107000.toList == ([115, 101, 108, 101, 99, 116, 111, 114] : List UInt8)) x107000 x107001 x107002 x107003)))
def spec_isPlaced.j1 : Nat → Int → Bool → ByteArray → ByteArray → List Int → List (S25) → Option (Bool)
  | 0, _, _, _, _, _, _ => none
  | k + 1, x1, x7, x107000, x107001, x107002, x107003 => if (x7 != (x107001.toList != ([] : List UInt8))) = true then (spec_isPlaced.j2 k x1 true x107000 x107001 x107002 x107003) else (spec_isPlaced.j2 k x1 (decide ((x107001.size : Int) > 1000)) x107000 x107001 x107002 x107003)
def spec_isPlaced.j2 : Nat → Int → Bool → ByteArray → ByteArray → List Int → List (S25) → Option (Bool)
  | 0, _, _, _, _, _, _ => none
  | k + 1, x1, x82, x107000, x107001, x107002, x107003 => if x82 = true then (some false) else (spec_isPlaced.l0 k x1 x107002 (x107002.length : Int) 0 x107000 x107001 x107002 x107003)
def spec_isPlaced.l0 : Nat → Int → List Int → Int → Int → ByteArray → ByteArray → List Int → List (S25) → Option (Bool)
  | 0, _, _, _, _, _, _, _, _ => none
  | k + 1, x1, x84, x85, x86, x107000, x107001, x107002, x107003 => if x86 < x85 then (if 0 ≤ x86 then (if x86 < (x84.length : Int) then (if (rd x84 x86) < 1 then (some false) else (if (rd x84 x86) > 1000000 then (some false) else (spec_isPlaced.l0 k x1 x84 x85 (wrap64 (x86 + 1)) x107000 x107001 x107002 x107003))) else (none)) else (none)) else (spec_isPlaced.l1 k x1 x107003 (x107003.length : Int) 0)
def spec_isPlaced.l1 : Nat → Int → List (S25) → Int → Int → Option (Bool)
  | 0, _, _, _, _ => none
  | k + 1, x1, x98, x99, x100 => if x100 < x99 then (if 0 ≤ x100 then (if x100 < (x98.length : Int) then ((spec_isPlaced.f k ((rd_T25 x98 x100).f0) ((rd_T25 x98 x100).f1) ((rd_T25 x98 x100).f2) ((rd_T25 x98 x100).f3) (wrap64 (x1 - 1))).bind fun t117 => (if t117 = true then (spec_isPlaced.l1 k x1 x98 x99 (wrap64 (x100 + 1))) else (some false))) else (none)) else (none)) else (some true)
def spec_isPlaced.f : Nat → ByteArray → ByteArray → List Int → List (S25) → Int → Option (Bool)
  | 0, _, _, _, _, _ => none
  | k + 1, a0_0, a0_1, l0_2, l0_3, a1 => (spec_formOf.f k a0_0).bind fun bt107 => (if bt107.2.2.2.2.2 = true then (if a1 < 1 then (spec_isPlaced.j0 k a1 true a0_0 a0_1 l0_2 l0_3) else (if (l0_2.length : Int) = bt107.1 then (if (l0_3.length : Int) < bt107.2.1 then (spec_isPlaced.j0 k a1 true a0_0 a0_1 l0_2 l0_3) else (if (l0_3.length : Int) > bt107.2.1 then (if bt107.2.2.1 = true then (spec_isPlaced.j0 k a1 (decide ((l0_3.length : Int) > 20)) a0_0 a0_1 l0_2 l0_3) else (spec_isPlaced.j0 k a1 true a0_0 a0_1 l0_2 l0_3)) else (spec_isPlaced.j0 k a1 (decide ((l0_3.length : Int) > 20)) a0_0 a0_1 l0_2 l0_3))) else (spec_isPlaced.j0 k a1 true a0_0 a0_1 l0_2 l0_3))) else (spec_isPlaced.j0 k a1 true a0_0 a0_1 l0_2 l0_3))
end
theorem spec_isPlaced.mono_l : ∀ k, (∀ y0 y1 y2 y3 y4, LeO (spec_isPlaced.f k y0 y1 y2 y3 y4) (spec_isPlaced.f (k + 1) y0 y1 y2 y3 y4)) ∧ (∀ y0 y1 y2 y3 y4 y5, LeO (spec_isPlaced.j0 k y0 y1 y2 y3 y4 y5) (spec_isPlaced.j0 (k + 1) y0 y1 y2 y3 y4 y5)) ∧ (∀ y0 y1 y2 y3 y4 y5, LeO (spec_isPlaced.j1 k y0 y1 y2 y3 y4 y5) (spec_isPlaced.j1 (k + 1) y0 y1 y2 y3 y4 y5)) ∧ (∀ y0 y1 y2 y3 y4 y5, LeO (spec_isPlaced.j2 k y0 y1 y2 y3 y4 y5) (spec_isPlaced.j2 (k + 1) y0 y1 y2 y3 y4 y5)) ∧ (∀ y0 y1 y2 y3 y4 y5 y6 y7, LeO (spec_isPlaced.l0 k y0 y1 y2 y3 y4 y5 y6 y7) (spec_isPlaced.l0 (k + 1) y0 y1 y2 y3 y4 y5 y6 y7)) ∧ (∀ y0 y1 y2 y3, LeO (spec_isPlaced.l1 k y0 y1 y2 y3) (spec_isPlaced.l1 (k + 1) y0 y1 y2 y3))
  | 0 => ⟨fun _ _ _ _ _ r h => by simp [spec_isPlaced.f] at h, fun _ _ _ _ _ _ r h => by simp [spec_isPlaced.j0] at h, fun _ _ _ _ _ _ r h => by simp [spec_isPlaced.j1] at h, fun _ _ _ _ _ _ r h => by simp [spec_isPlaced.j2] at h, fun _ _ _ _ _ _ _ _ r h => by simp [spec_isPlaced.l0] at h, fun _ _ _ _ r h => by simp [spec_isPlaced.l1] at h⟩
  | k + 1 => by
    obtain ⟨ih0, ih1, ih2, ih3, ih4, ih5⟩ := spec_isPlaced.mono_l k
    refine ⟨?_, ?_, ?_, ?_, ?_, ?_⟩
    · intro y0 y1 y2 y3 y4
      unfold spec_isPlaced.f
      repeat' first
      | (with_reducible exact ih0 _ _ _ _ _)
      | (with_reducible exact ih1 _ _ _ _ _ _)
      | (with_reducible exact ih2 _ _ _ _ _ _)
      | (with_reducible exact ih3 _ _ _ _ _ _)
      | (with_reducible exact ih4 _ _ _ _ _ _ _ _)
      | (with_reducible exact ih5 _ _ _ _)
      | (with_reducible exact spec_formOf.mono _ _)
      | (with_reducible exact LeO.refl _)
      | (with_reducible exact LeO.none _)
      | (with_reducible refine LeO.ite ?_ ?_)
      | (with_reducible refine LeO.bind ?_ (fun _ => ?_))
      | exact ih0 _ _ _ _ _
      | exact ih1 _ _ _ _ _ _
      | exact ih2 _ _ _ _ _ _
      | exact ih3 _ _ _ _ _ _
      | exact ih4 _ _ _ _ _ _ _ _
      | exact ih5 _ _ _ _
      | exact spec_formOf.mono _ _
      | exact LeO.none _
      | refine LeO.ite ?_ ?_
      | refine LeO.bind ?_ (fun _ => ?_)
    · intro y0 y1 y2 y3 y4 y5
      unfold spec_isPlaced.j0
      repeat' first
      | (with_reducible exact ih0 _ _ _ _ _)
      | (with_reducible exact ih1 _ _ _ _ _ _)
      | (with_reducible exact ih2 _ _ _ _ _ _)
      | (with_reducible exact ih3 _ _ _ _ _ _)
      | (with_reducible exact ih4 _ _ _ _ _ _ _ _)
      | (with_reducible exact ih5 _ _ _ _)
      | (with_reducible exact spec_formOf.mono _ _)
      | (with_reducible exact LeO.refl _)
      | (with_reducible exact LeO.none _)
      | (with_reducible refine LeO.ite ?_ ?_)
      | (with_reducible refine LeO.bind ?_ (fun _ => ?_))
      | exact ih0 _ _ _ _ _
      | exact ih1 _ _ _ _ _ _
      | exact ih2 _ _ _ _ _ _
      | exact ih3 _ _ _ _ _ _
      | exact ih4 _ _ _ _ _ _ _ _
      | exact ih5 _ _ _ _
      | exact spec_formOf.mono _ _
      | exact LeO.none _
      | refine LeO.ite ?_ ?_
      | refine LeO.bind ?_ (fun _ => ?_)
    · intro y0 y1 y2 y3 y4 y5
      unfold spec_isPlaced.j1
      repeat' first
      | (with_reducible exact ih0 _ _ _ _ _)
      | (with_reducible exact ih1 _ _ _ _ _ _)
      | (with_reducible exact ih2 _ _ _ _ _ _)
      | (with_reducible exact ih3 _ _ _ _ _ _)
      | (with_reducible exact ih4 _ _ _ _ _ _ _ _)
      | (with_reducible exact ih5 _ _ _ _)
      | (with_reducible exact spec_formOf.mono _ _)
      | (with_reducible exact LeO.refl _)
      | (with_reducible exact LeO.none _)
      | (with_reducible refine LeO.ite ?_ ?_)
      | (with_reducible refine LeO.bind ?_ (fun _ => ?_))
      | exact ih0 _ _ _ _ _
      | exact ih1 _ _ _ _ _ _
      | exact ih2 _ _ _ _ _ _
      | exact ih3 _ _ _ _ _ _
      | exact ih4 _ _ _ _ _ _ _ _
      | exact ih5 _ _ _ _
      | exact spec_formOf.mono _ _
      | exact LeO.none _
      | refine LeO.ite ?_ ?_
      | refine LeO.bind ?_ (fun _ => ?_)
    · intro y0 y1 y2 y3 y4 y5
      unfold spec_isPlaced.j2
      repeat' first
      | (with_reducible exact ih0 _ _ _ _ _)
      | (with_reducible exact ih1 _ _ _ _ _ _)
      | (with_reducible exact ih2 _ _ _ _ _ _)
      | (with_reducible exact ih3 _ _ _ _ _ _)
      | (with_reducible exact ih4 _ _ _ _ _ _ _ _)
      | (with_reducible exact ih5 _ _ _ _)
      | (with_reducible exact spec_formOf.mono _ _)
      | (with_reducible exact LeO.refl _)
      | (with_reducible exact LeO.none _)
      | (with_reducible refine LeO.ite ?_ ?_)
      | (with_reducible refine LeO.bind ?_ (fun _ => ?_))
      | exact ih0 _ _ _ _ _
      | exact ih1 _ _ _ _ _ _
      | exact ih2 _ _ _ _ _ _
      | exact ih3 _ _ _ _ _ _
      | exact ih4 _ _ _ _ _ _ _ _
      | exact ih5 _ _ _ _
      | exact spec_formOf.mono _ _
      | exact LeO.none _
      | refine LeO.ite ?_ ?_
      | refine LeO.bind ?_ (fun _ => ?_)
    · intro y0 y1 y2 y3 y4 y5 y6 y7
      unfold spec_isPlaced.l0
      repeat' first
      | (with_reducible exact ih0 _ _ _ _ _)
      | (with_reducible exact ih1 _ _ _ _ _ _)
      | (with_reducible exact ih2 _ _ _ _ _ _)
      | (with_reducible exact ih3 _ _ _ _ _ _)
      | (with_reducible exact ih4 _ _ _ _ _ _ _ _)
      | (with_reducible exact ih5 _ _ _ _)
      | (with_reducible exact spec_formOf.mono _ _)
      | (with_reducible exact LeO.refl _)
      | (with_reducible exact LeO.none _)
      | (with_reducible refine LeO.ite ?_ ?_)
      | (with_reducible refine LeO.bind ?_ (fun _ => ?_))
      | exact ih0 _ _ _ _ _
      | exact ih1 _ _ _ _ _ _
      | exact ih2 _ _ _ _ _ _
      | exact ih3 _ _ _ _ _ _
      | exact ih4 _ _ _ _ _ _ _ _
      | exact ih5 _ _ _ _
      | exact spec_formOf.mono _ _
      | exact LeO.none _
      | refine LeO.ite ?_ ?_
      | refine LeO.bind ?_ (fun _ => ?_)
    · intro y0 y1 y2 y3
      unfold spec_isPlaced.l1
      repeat' first
      | (with_reducible exact ih0 _ _ _ _ _)
      | (with_reducible exact ih1 _ _ _ _ _ _)
      | (with_reducible exact ih2 _ _ _ _ _ _)
      | (with_reducible exact ih3 _ _ _ _ _ _)
      | (with_reducible exact ih4 _ _ _ _ _ _ _ _)
      | (with_reducible exact ih5 _ _ _ _)
      | (with_reducible exact spec_formOf.mono _ _)
      | (with_reducible exact LeO.refl _)
      | (with_reducible exact LeO.none _)
      | (with_reducible refine LeO.ite ?_ ?_)
      | (with_reducible refine LeO.bind ?_ (fun _ => ?_))
      | exact ih0 _ _ _ _ _
      | exact ih1 _ _ _ _ _ _
      | exact ih2 _ _ _ _ _ _
      | exact ih3 _ _ _ _ _ _
      | exact ih4 _ _ _ _ _ _ _ _
      | exact ih5 _ _ _ _
      | exact spec_formOf.mono _ _
      | exact LeO.none _
      | refine LeO.ite ?_ ?_
      | refine LeO.bind ?_ (fun _ => ?_)
theorem spec_isPlaced.mono : ∀ a0 a1 a2 a3 a4 k, LeO (spec_isPlaced.f k a0 a1 a2 a3 a4) (spec_isPlaced.f (k + 1) a0 a1 a2 a3 a4) := by
  intro a0 a1 a2 a3 a4 k
  obtain ⟨ih0, ih1, ih2, ih3, ih4, ih5⟩ := spec_isPlaced.mono_l k
  exact ih0 a0 a1 a2 a3 a4
set_option maxHeartbeats 8000000 in
set_option maxRecDepth 100000 in
theorem spec_isPlaced.calls (k : Nat) : ∀ (a0_0 : ByteArray) (a0_1 : ByteArray) (A0_2 : Option Addr) (c0_2 : Nat) (l0_2 : List Int) (A0_3 : Option Addr) (c0_3 : Nat) (l0_3 : List (S25)) (a1 : Int) (r : Bool) (w : World) (hr0_2 : Kd.C (Kd.int .i64) w A0_2 l0_2.length l0_2) (hc0_2 : l0_2.length ≤ c0_2) (hr0_3 : Kd.C k25 w A0_3 l0_3.length l0_3) (hc0_3 : l0_3.length ≤ c0_3) (h : spec_isPlaced.f k a0_0 a0_1 l0_2 l0_3 a1 = some r),
    Calls Tryz.prog 10 #[.agg #[.string a0_0, .string a0_1, .slice A0_2 l0_2.length c0_2, .slice A0_3 l0_3.length c0_3], .int .i64 a1] w fun e w' => e = .returned (.bool r) ∧ Below w.heap.size w w' := by
  induction k using Nat.strongRecOn with
  | _ k ih =>
  intro a0_0 a0_1 A0_2 c0_2 l0_2 A0_3 c0_3 l0_3 a1 r w hr0_2 hc0_2 hr0_3 hc0_3 h
  cases k with
  | zero => exact absurd h (by simp [spec_isPlaced.f])
  | succ k =>
  simp only [spec_isPlaced.f] at h
  have hu25 := Tryz.underlying25
  have hu38 := Tryz.underlying38
  have HR0_2 := Aside0.mk hr0_2
  have HC0_2 := Aside0.mk hc0_2
  clear hr0_2 hc0_2
  have HR0_3 := Aside0.mk hr0_3
  have HC0_3 := Aside0.mk hc0_3
  clear hr0_3 hc0_3
  have HB := Aside0.mk (Below.refl w.heap.size w)
  have H : ((spec_formOf.f k a0_0).bind fun bt107 => (if bt107.2.2.2.2.2 = true then (if a1 < 1 then (spec_isPlaced.j0 k a1 true a0_0 a0_1 l0_2 l0_3) else (if (l0_2.length : Int) = bt107.1 then (if (l0_3.length : Int) < bt107.2.1 then (spec_isPlaced.j0 k a1 true a0_0 a0_1 l0_2 l0_3) else (if (l0_3.length : Int) > bt107.2.1 then (if bt107.2.2.1 = true then (spec_isPlaced.j0 k a1 (decide ((l0_3.length : Int) > 20)) a0_0 a0_1 l0_2 l0_3) else (spec_isPlaced.j0 k a1 true a0_0 a0_1 l0_2 l0_3)) else (spec_isPlaced.j0 k a1 (decide ((l0_3.length : Int) > 20)) a0_0 a0_1 l0_2 l0_3))) else (spec_isPlaced.j0 k a1 true a0_0 a0_1 l0_2 l0_3))) else (spec_isPlaced.j0 k a1 true a0_0 a0_1 l0_2 l0_3))) = some r := h
  clear h
  replace H := Option.bind_eq_some_iff.mp H
  obtain ⟨⟨t107, t108, t109, t110, t111, t112⟩, A30, H⟩ := H
  replace H : (if t112 = true then (if a1 < 1 then (spec_isPlaced.j0 k a1 true a0_0 a0_1 l0_2 l0_3) else (if (l0_2.length : Int) = t107 then (if (l0_3.length : Int) < t108 then (spec_isPlaced.j0 k a1 true a0_0 a0_1 l0_2 l0_3) else (if (l0_3.length : Int) > t108 then (if t109 = true then (spec_isPlaced.j0 k a1 (decide ((l0_3.length : Int) > 20)) a0_0 a0_1 l0_2 l0_3) else (spec_isPlaced.j0 k a1 true a0_0 a0_1 l0_2 l0_3)) else (spec_isPlaced.j0 k a1 (decide ((l0_3.length : Int) > 20)) a0_0 a0_1 l0_2 l0_3))) else (spec_isPlaced.j0 k a1 true a0_0 a0_1 l0_2 l0_3))) else (spec_isPlaced.j0 k a1 true a0_0 a0_1 l0_2 l0_3)) = some r := H
  have A3 := Aside0.mk A30
  clear A30
  have HC4 := Aside0.mk H
  clear H
  go_enter Tryz.func10, Tryz.ntmps10
  go_upto_region 2 with (first | ((with_reducible refine gate_dst (N := 2) rfl ?_); (try (refine gate_guard (by rfl) ?_; dsimp only)); refine box_event ?hg (N := 2) ?hd (cs := #[.string a0_0, .string a0_1, .slice A0_2 l0_2.length c0_2, .slice A0_3 l0_3.length c0_3]) (t := 25) ?hr ?_; (case hd => rfl); (case hg => rfl); (case hr => first | (go_simp; done) | (go_simp; rfl)); intro gb106 hg w5 hbox hb; have n0_ := Aside0.mk (below_step (by repeat (first | (with_reducible first | exact HB.out | apply below_alloc | apply pw_below_drewN | apply below_drew1) | exact HB.out)) hb); have n1_ := Aside0.mk (hbox); have n2_ := Aside0.mk ((by rw [hg]; exact (below_size (by repeat (first | (with_reducible first | exact HB.out | apply below_alloc | apply pw_below_drewN | apply below_drew1) | exact HB.out))) : w.heap.size ≤ gb106)); have n3_ := Aside0.mk ((by rw [hg]; exact (below_size (by repeat (first | (with_reducible first | exact HB.out | apply below_alloc | apply pw_below_drewN | apply below_drew1) | exact HB.out))) : w.heap.size ≤ gb106)); clear HB; have HB := n0_; have BK106 := n1_; have GW106 := n2_; have GE106 := n3_; clear n0_ n1_ n2_ n3_; clear hb hbox hg; have hcz6_0 : w5.cell? ⟨gb106, 0, none⟩ = some (.string a0_0) := (blk_cell BK106.out 0).trans rfl; have hcz6_1 : w5.cell? ⟨gb106, 1, none⟩ = some (.string a0_1) := (blk_cell BK106.out 1).trans rfl; have hcz6_2 : w5.cell? ⟨gb106, 2, none⟩ = some (.slice A0_2 l0_2.length c0_2) := (blk_cell BK106.out 2).trans rfl; have hcz6_3 : w5.cell? ⟨gb106, 3, none⟩ = some (.slice A0_3 l0_3.length c0_3) := (blk_cell BK106.out 3).trans rfl; have hfz6_0 := blk_frozen BK106.out 0; have hfz6_1 := blk_frozen BK106.out 1; have hfz6_2 := blk_frozen BK106.out 2; have hfz6_3 := blk_frozen BK106.out 3) | ((with_reducible refine gate_callee (f := 12) rfl ?_); refine goesL_ (some 15) rfl rfl Tryz.func12 (by kernel_rfl) rfl #[.string a0_0] rfl (by (try simp only [List.map_toArray, List.map_cons, List.map_nil]); first | done | rfl | (simp only [List.length_drop, List.length_take]; rfl)) ?_; (with_reducible refine (spec_formOf.calls k a0_0 t107 t108 t109 t110 t111 t112 _ A3.out).mono ?_); rintro e w7 ⟨rfl, hb⟩; refine ⟨_, rfl, ?_⟩; have n0_ := Aside0.mk (blk_below (g := gb106) (o := .cells #[.string a0_0, .string a0_1, .slice A0_2 l0_2.length c0_2, .slice A0_3 l0_3.length c0_3] 25 (0, 0)) (by (with_reducible repeat (first | refine blk_drewN ?_ _ | refine blk_drew ?_ | refine blk_alloc ?_ _)); exact BK106.out) hb); have n1_ := Aside0.mk (below_step (by repeat (first | (with_reducible first | exact HB.out | apply below_alloc | apply pw_below_drewN | apply below_drew1 | refine below_set ?_ GE106.out) | exact HB.out)) hb); clear BK106; clear HB; have BK106 := n0_; have HB := n1_; clear n0_ n1_; (try clear hb); (try clear hb2); (try clear hk); (try clear hi)) | ((with_reducible refine gate_dst (N := 5) rfl ?_); (try (refine gate_guard (by rfl) ?_; dsimp only)); refine box_event ?hg (N := 5) ?hd (cs := #[.int .i64 0, .int .i64 0, .bool false, .bool false, .bool false]) (t := 38) ?hr ?_; (case hd => rfl); (case hg => rfl); (case hr => first | (go_simp; done) | (go_simp; rfl)); intro gb113 hg w8 hbox hb; have n0_ := Aside0.mk (blk_below (g := gb106) (o := .cells #[.string a0_0, .string a0_1, .slice A0_2 l0_2.length c0_2, .slice A0_3 l0_3.length c0_3] 25 (0, 0)) (by (with_reducible repeat (first | refine blk_drewN ?_ _ | refine blk_drew ?_ | refine blk_alloc ?_ _)); exact BK106.out) hb); have n1_ := Aside0.mk (below_step (by repeat (first | (with_reducible first | exact HB.out | apply below_alloc | apply pw_below_drewN | apply below_drew1 | refine below_set ?_ GE106.out) | exact HB.out)) hb); have n2_ := Aside0.mk (hbox); have n3_ := Aside0.mk ((by rw [hg]; exact (below_size (by repeat (first | (with_reducible first | exact HB.out | apply below_alloc | apply pw_below_drewN | apply below_drew1 | refine below_set ?_ GE106.out) | exact HB.out))) : w.heap.size ≤ gb113)); have n4_ := Aside0.mk ((by rw [hg]; exact (below_size (by repeat (first | (with_reducible first | exact HB.out | apply below_alloc | apply pw_below_drewN | apply below_drew1 | refine below_set ?_ GE106.out) | exact HB.out))) : w.heap.size ≤ gb113)); have n5_ := Aside0.mk ((by rw [hg]; exact Nat.ne_of_lt (blk_lt (g := gb106) (o := .cells #[.string a0_0, .string a0_1, .slice A0_2 l0_2.length c0_2, .slice A0_3 l0_3.length c0_3] 25 (0, 0)) (by (with_reducible repeat (first | refine blk_drewN ?_ _ | refine blk_drew ?_ | refine blk_alloc ?_ _)); exact BK106.out)) : gb106 ≠ gb113)); have n6_ := Aside0.mk ((by rw [hg]; exact Nat.ne_of_gt (blk_lt (g := gb106) (o := .cells #[.string a0_0, .string a0_1, .slice A0_2 l0_2.length c0_2, .slice A0_3 l0_3.length c0_3] 25 (0, 0)) (by (with_reducible repeat (first | refine blk_drewN ?_ _ | refine blk_drew ?_ | refine blk_alloc ?_ _)); exact BK106.out)) : gb113 ≠ gb106)); clear BK106; clear HB; have BK106 := n0_; have HB := n1_; have BK113 := n2_; have GW113 := n3_; have GE113 := n4_; have NB106_113 := n5_; have NB113_106 := n6_; clear n0_ n1_ n2_ n3_ n4_ n5_ n6_; clear hb hbox hg; have hnb9 := NB113_106.out; have hnc9 := NB106_113.out; have hcz10_0 : w8.cell? ⟨gb113, 0, none⟩ = some (.int .i64 0) := (blk_cell BK113.out 0).trans rfl; have hcz10_1 : w8.cell? ⟨gb113, 1, none⟩ = some (.int .i64 0) := (blk_cell BK113.out 1).trans rfl; have hcz10_2 : w8.cell? ⟨gb113, 2, none⟩ = some (.bool false) := (blk_cell BK113.out 2).trans rfl; have hcz10_3 : w8.cell? ⟨gb113, 3, none⟩ = some (.bool false) := (blk_cell BK113.out 3).trans rfl; have hcz10_4 : w8.cell? ⟨gb113, 4, none⟩ = some (.bool false) := (blk_cell BK113.out 4).trans rfl; have hfz10_0 := blk_frozen BK113.out 0; have hfz10_1 := blk_frozen BK113.out 1; have hfz10_2 := blk_frozen BK113.out 2; have hfz10_3 := blk_frozen BK113.out 3; have hfz10_4 := blk_frozen BK113.out 4))
  (try simp only [Act.put, List.setIfInBounds_toArray, List.set_cons_zero, List.set_cons_succ])
  go_cut [58] (fun v58 wc => ∃ (kq : Nat) (x58_3 : Bool), v58 = .bool x58_3 ∧ Aside0 (spec_isPlaced.j0 kq a1 x58_3 a0_0 a0_1 l0_2 l0_3 = some r) ∧ Aside0 (kq ≤ k) ∧ Aside0 (wc.heap[gb106]? = some (.cells #[.string a0_0, .string a0_1, (.slice A0_2 l0_2.length c0_2), (.slice A0_3 l0_3.length c0_3)] 25 (0, 0))) ∧ Aside0 (wc.heap[gb113]? = some (.cells #[.int .i64 t107, .int .i64 t108, .bool t109, .bool t110, .bool t111] 38 (0, 0))) ∧ Aside0 (Below w.heap.size w wc))
  case first =>
    have H := HC4.out
    clear HC4
    by_cases c11 : t112 = true
    · subst c11
      have H1 : (if a1 < 1 then (spec_isPlaced.j0 k a1 true a0_0 a0_1 l0_2 l0_3) else (if (l0_2.length : Int) = t107 then (if (l0_3.length : Int) < t108 then (spec_isPlaced.j0 k a1 true a0_0 a0_1 l0_2 l0_3) else (if (l0_3.length : Int) > t108 then (if t109 = true then (spec_isPlaced.j0 k a1 (decide ((l0_3.length : Int) > 20)) a0_0 a0_1 l0_2 l0_3) else (spec_isPlaced.j0 k a1 true a0_0 a0_1 l0_2 l0_3)) else (spec_isPlaced.j0 k a1 (decide ((l0_3.length : Int) > 20)) a0_0 a0_1 l0_2 l0_3))) else (spec_isPlaced.j0 k a1 true a0_0 a0_1 l0_2 l0_3))) = some r := by rw [if_pos rfl] at H; exact H
      clear H
      have H := H1
      clear H1
      by_cases c12 : a1 < 1
      · rw [if_pos c12] at H
        have c12b0 : decide (a1 < 1) = true := decide_eq_true c12
        clear c12
        (first | rw [c12b0] | (simp only [i64_w, i32_w]; rw [c12b0]) | skip)
        have H' := Aside0.mk H
        clear H
        go_wp2
        go_meet
        case rel => exact ⟨_, (true), (by first | rfl | (simp; done) | (simp [*]; done)), H', ⟨by first | omega | exact Nat.le_refl _⟩, ⟨by (with_reducible repeat (first | refine blk_drewN ?_ _ | refine blk_drew ?_ | refine blk_alloc ?_ _)); refine blk_far ?_ NB106_113.out _; (with_reducible repeat (first | refine blk_drewN ?_ _ | refine blk_drew ?_ | refine blk_alloc ?_ _)); refine blk_far ?_ NB106_113.out _; (with_reducible repeat (first | refine blk_drewN ?_ _ | refine blk_drew ?_ | refine blk_alloc ?_ _)); refine blk_far ?_ NB106_113.out _; (with_reducible repeat (first | refine blk_drewN ?_ _ | refine blk_drew ?_ | refine blk_alloc ?_ _)); refine blk_far ?_ NB106_113.out _; (with_reducible repeat (first | refine blk_drewN ?_ _ | refine blk_drew ?_ | refine blk_alloc ?_ _)); refine blk_far ?_ NB106_113.out _; (with_reducible repeat (first | refine blk_drewN ?_ _ | refine blk_drew ?_ | refine blk_alloc ?_ _)); exact BK106.out⟩, ⟨by (with_reducible repeat (first | refine blk_drewN ?_ _ | refine blk_drew ?_ | refine blk_alloc ?_ _)); refine blk_put (cs := #[.int .i64 t107, .int .i64 t108, .bool t109, .bool t110, .bool false]) ?_ 4 _ rfl; (with_reducible repeat (first | refine blk_drewN ?_ _ | refine blk_drew ?_ | refine blk_alloc ?_ _)); refine blk_put (cs := #[.int .i64 t107, .int .i64 t108, .bool t109, .bool false, .bool false]) ?_ 3 _ rfl; (with_reducible repeat (first | refine blk_drewN ?_ _ | refine blk_drew ?_ | refine blk_alloc ?_ _)); refine blk_put (cs := #[.int .i64 t107, .int .i64 t108, .bool false, .bool false, .bool false]) ?_ 2 _ rfl; (with_reducible repeat (first | refine blk_drewN ?_ _ | refine blk_drew ?_ | refine blk_alloc ?_ _)); refine blk_put (cs := #[.int .i64 t107, .int .i64 0, .bool false, .bool false, .bool false]) ?_ 1 _ rfl; (with_reducible repeat (first | refine blk_drewN ?_ _ | refine blk_drew ?_ | refine blk_alloc ?_ _)); refine blk_put (cs := #[.int .i64 0, .int .i64 0, .bool false, .bool false, .bool false]) ?_ 0 _ rfl; (with_reducible repeat (first | refine blk_drewN ?_ _ | refine blk_drew ?_ | refine blk_alloc ?_ _)); exact BK113.out⟩, ⟨by repeat (first | (with_reducible first | exact HB.out | apply below_alloc | apply pw_below_drewN | apply below_drew1 | refine below_set ?_ GE106.out | refine below_set ?_ GE113.out) | exact HB.out)⟩⟩
      · rw [if_neg c12] at H
        have c12b0 : decide (a1 < 1) = false := decide_eq_false c12
        clear c12
        (first | rw [c12b0] | (simp only [i64_w, i32_w]; rw [c12b0]) | skip)
        by_cases c13 : (l0_2.length : Int) = t107
        · rw [if_pos c13] at H
          have c13b0 : ((l0_2.length : Int) == t107) = true := beq_iff_eq.mpr c13
          have c13b1 : ((l0_2.length : Int) != t107) = false := bne_eq_false_iff_eq.mpr c13
          clear c13
          by_cases c14 : (l0_3.length : Int) < t108
          · rw [if_pos c14] at H
            have c14b0 : decide ((l0_3.length : Int) < t108) = true := decide_eq_true c14
            clear c14
            have H' := Aside0.mk H
            clear H
            have hnb15 := NB106_113.out
            have hnc15 := NB113_106.out
            have hcz16_0 : w8.cell? ⟨gb106, 0, none⟩ = some (.string a0_0) := (blk_cell BK106.out 0).trans rfl
            have hcz16_1 : w8.cell? ⟨gb106, 1, none⟩ = some (.string a0_1) := (blk_cell BK106.out 1).trans rfl
            have hcz16_2 : w8.cell? ⟨gb106, 2, none⟩ = some (.slice A0_2 l0_2.length c0_2) := (blk_cell BK106.out 2).trans rfl
            have hcz16_3 : w8.cell? ⟨gb106, 3, none⟩ = some (.slice A0_3 l0_3.length c0_3) := (blk_cell BK106.out 3).trans rfl
            have hfz16_0 := blk_frozen BK106.out 0
            have hfz16_1 := blk_frozen BK106.out 1
            have hfz16_2 := blk_frozen BK106.out 2
            have hfz16_3 := blk_frozen BK106.out 3
            have hcz17_0 : w8.cell? ⟨gb113, 0, none⟩ = some (.int .i64 0) := (blk_cell BK113.out 0).trans rfl
            have hcz17_1 : w8.cell? ⟨gb113, 1, none⟩ = some (.int .i64 0) := (blk_cell BK113.out 1).trans rfl
            have hcz17_2 : w8.cell? ⟨gb113, 2, none⟩ = some (.bool false) := (blk_cell BK113.out 2).trans rfl
            have hcz17_3 : w8.cell? ⟨gb113, 3, none⟩ = some (.bool false) := (blk_cell BK113.out 3).trans rfl
            have hcz17_4 : w8.cell? ⟨gb113, 4, none⟩ = some (.bool false) := (blk_cell BK113.out 4).trans rfl
            have hfz17_0 := blk_frozen BK113.out 0
            have hfz17_1 := blk_frozen BK113.out 1
            have hfz17_2 := blk_frozen BK113.out 2
            have hfz17_3 := blk_frozen BK113.out 3
            have hfz17_4 := blk_frozen BK113.out 4
            go_wp2
            go_meet
            case rel => exact ⟨_, (true), (by first | rfl | (simp; done) | (simp [*]; done)), H', ⟨by first | omega | exact Nat.le_refl _⟩, ⟨by (with_reducible repeat (first | refine blk_drewN ?_ _ | refine blk_drew ?_ | refine blk_alloc ?_ _)); refine blk_far ?_ NB106_113.out _; (with_reducible repeat (first | refine blk_drewN ?_ _ | refine blk_drew ?_ | refine blk_alloc ?_ _)); refine blk_far ?_ NB106_113.out _; (with_reducible repeat (first | refine blk_drewN ?_ _ | refine blk_drew ?_ | refine blk_alloc ?_ _)); refine blk_far ?_ NB106_113.out _; (with_reducible repeat (first | refine blk_drewN ?_ _ | refine blk_drew ?_ | refine blk_alloc ?_ _)); refine blk_far ?_ NB106_113.out _; (with_reducible repeat (first | refine blk_drewN ?_ _ | refine blk_drew ?_ | refine blk_alloc ?_ _)); refine blk_far ?_ NB106_113.out _; (with_reducible repeat (first | refine blk_drewN ?_ _ | refine blk_drew ?_ | refine blk_alloc ?_ _)); exact BK106.out⟩, ⟨by (with_reducible repeat (first | refine blk_drewN ?_ _ | refine blk_drew ?_ | refine blk_alloc ?_ _)); refine blk_put (cs := #[.int .i64 t107, .int .i64 t108, .bool t109, .bool t110, .bool false]) ?_ 4 _ rfl; (with_reducible repeat (first | refine blk_drewN ?_ _ | refine blk_drew ?_ | refine blk_alloc ?_ _)); refine blk_put (cs := #[.int .i64 t107, .int .i64 t108, .bool t109, .bool false, .bool false]) ?_ 3 _ rfl; (with_reducible repeat (first | refine blk_drewN ?_ _ | refine blk_drew ?_ | refine blk_alloc ?_ _)); refine blk_put (cs := #[.int .i64 t107, .int .i64 t108, .bool false, .bool false, .bool false]) ?_ 2 _ rfl; (with_reducible repeat (first | refine blk_drewN ?_ _ | refine blk_drew ?_ | refine blk_alloc ?_ _)); refine blk_put (cs := #[.int .i64 t107, .int .i64 0, .bool false, .bool false, .bool false]) ?_ 1 _ rfl; (with_reducible repeat (first | refine blk_drewN ?_ _ | refine blk_drew ?_ | refine blk_alloc ?_ _)); refine blk_put (cs := #[.int .i64 0, .int .i64 0, .bool false, .bool false, .bool false]) ?_ 0 _ rfl; (with_reducible repeat (first | refine blk_drewN ?_ _ | refine blk_drew ?_ | refine blk_alloc ?_ _)); exact BK113.out⟩, ⟨by repeat (first | (with_reducible first | exact HB.out | apply below_alloc | apply pw_below_drewN | apply below_drew1 | refine below_set ?_ GE106.out | refine below_set ?_ GE113.out) | exact HB.out)⟩⟩
          · rw [if_neg c14] at H
            have c14b0 : decide ((l0_3.length : Int) < t108) = false := decide_eq_false c14
            clear c14
            by_cases c18 : (l0_3.length : Int) > t108
            · rw [if_pos c18] at H
              have c18b0 : decide (t108 < (l0_3.length : Int)) = true := decide_eq_true c18
              clear c18
              by_cases c19 : t109 = true
              · subst c19
                have H1 : (spec_isPlaced.j0 k a1 (decide ((l0_3.length : Int) > 20)) a0_0 a0_1 l0_2 l0_3) = some r := by rw [if_pos rfl] at H; exact H
                clear H
                have H := H1
                clear H1
                have H' := Aside0.mk H
                clear H
                have hnb20 := NB106_113.out
                have hnc20 := NB113_106.out
                have hcz21_0 : w8.cell? ⟨gb106, 0, none⟩ = some (.string a0_0) := (blk_cell BK106.out 0).trans rfl
                have hcz21_1 : w8.cell? ⟨gb106, 1, none⟩ = some (.string a0_1) := (blk_cell BK106.out 1).trans rfl
                have hcz21_2 : w8.cell? ⟨gb106, 2, none⟩ = some (.slice A0_2 l0_2.length c0_2) := (blk_cell BK106.out 2).trans rfl
                have hcz21_3 : w8.cell? ⟨gb106, 3, none⟩ = some (.slice A0_3 l0_3.length c0_3) := (blk_cell BK106.out 3).trans rfl
                have hfz21_0 := blk_frozen BK106.out 0
                have hfz21_1 := blk_frozen BK106.out 1
                have hfz21_2 := blk_frozen BK106.out 2
                have hfz21_3 := blk_frozen BK106.out 3
                have hcz22_0 : w8.cell? ⟨gb113, 0, none⟩ = some (.int .i64 0) := (blk_cell BK113.out 0).trans rfl
                have hcz22_1 : w8.cell? ⟨gb113, 1, none⟩ = some (.int .i64 0) := (blk_cell BK113.out 1).trans rfl
                have hcz22_2 : w8.cell? ⟨gb113, 2, none⟩ = some (.bool false) := (blk_cell BK113.out 2).trans rfl
                have hcz22_3 : w8.cell? ⟨gb113, 3, none⟩ = some (.bool false) := (blk_cell BK113.out 3).trans rfl
                have hcz22_4 : w8.cell? ⟨gb113, 4, none⟩ = some (.bool false) := (blk_cell BK113.out 4).trans rfl
                have hfz22_0 := blk_frozen BK113.out 0
                have hfz22_1 := blk_frozen BK113.out 1
                have hfz22_2 := blk_frozen BK113.out 2
                have hfz22_3 := blk_frozen BK113.out 3
                have hfz22_4 := blk_frozen BK113.out 4
                go_wp2
                go_meet
                case rel => exact ⟨_, (decide ((l0_3.length : Int) > 20)), (by first | rfl | (simp; done) | (simp [*]; done)), H', ⟨by first | omega | exact Nat.le_refl _⟩, ⟨by (with_reducible repeat (first | refine blk_drewN ?_ _ | refine blk_drew ?_ | refine blk_alloc ?_ _)); refine blk_far ?_ NB106_113.out _; (with_reducible repeat (first | refine blk_drewN ?_ _ | refine blk_drew ?_ | refine blk_alloc ?_ _)); refine blk_far ?_ NB106_113.out _; (with_reducible repeat (first | refine blk_drewN ?_ _ | refine blk_drew ?_ | refine blk_alloc ?_ _)); refine blk_far ?_ NB106_113.out _; (with_reducible repeat (first | refine blk_drewN ?_ _ | refine blk_drew ?_ | refine blk_alloc ?_ _)); refine blk_far ?_ NB106_113.out _; (with_reducible repeat (first | refine blk_drewN ?_ _ | refine blk_drew ?_ | refine blk_alloc ?_ _)); refine blk_far ?_ NB106_113.out _; (with_reducible repeat (first | refine blk_drewN ?_ _ | refine blk_drew ?_ | refine blk_alloc ?_ _)); exact BK106.out⟩, ⟨by (with_reducible repeat (first | refine blk_drewN ?_ _ | refine blk_drew ?_ | refine blk_alloc ?_ _)); refine blk_put (cs := #[.int .i64 t107, .int .i64 t108, .bool true, .bool t110, .bool false]) ?_ 4 _ rfl; (with_reducible repeat (first | refine blk_drewN ?_ _ | refine blk_drew ?_ | refine blk_alloc ?_ _)); refine blk_put (cs := #[.int .i64 t107, .int .i64 t108, .bool true, .bool false, .bool false]) ?_ 3 _ rfl; (with_reducible repeat (first | refine blk_drewN ?_ _ | refine blk_drew ?_ | refine blk_alloc ?_ _)); refine blk_put (cs := #[.int .i64 t107, .int .i64 t108, .bool false, .bool false, .bool false]) ?_ 2 _ rfl; (with_reducible repeat (first | refine blk_drewN ?_ _ | refine blk_drew ?_ | refine blk_alloc ?_ _)); refine blk_put (cs := #[.int .i64 t107, .int .i64 0, .bool false, .bool false, .bool false]) ?_ 1 _ rfl; (with_reducible repeat (first | refine blk_drewN ?_ _ | refine blk_drew ?_ | refine blk_alloc ?_ _)); refine blk_put (cs := #[.int .i64 0, .int .i64 0, .bool false, .bool false, .bool false]) ?_ 0 _ rfl; (with_reducible repeat (first | refine blk_drewN ?_ _ | refine blk_drew ?_ | refine blk_alloc ?_ _)); exact BK113.out⟩, ⟨by repeat (first | (with_reducible first | exact HB.out | apply below_alloc | apply pw_below_drewN | apply below_drew1 | refine below_set ?_ GE106.out | refine below_set ?_ GE113.out) | exact HB.out)⟩⟩
              · replace c19 := Bool.eq_false_iff.mpr c19
                subst c19
                have H1 : (spec_isPlaced.j0 k a1 true a0_0 a0_1 l0_2 l0_3) = some r := by rw [if_neg (show ¬ (false = true) by decide)] at H; exact H
                clear H
                have H := H1
                clear H1
                have H' := Aside0.mk H
                clear H
                have hnb23 := NB106_113.out
                have hnc23 := NB113_106.out
                have hcz24_0 : w8.cell? ⟨gb106, 0, none⟩ = some (.string a0_0) := (blk_cell BK106.out 0).trans rfl
                have hcz24_1 : w8.cell? ⟨gb106, 1, none⟩ = some (.string a0_1) := (blk_cell BK106.out 1).trans rfl
                have hcz24_2 : w8.cell? ⟨gb106, 2, none⟩ = some (.slice A0_2 l0_2.length c0_2) := (blk_cell BK106.out 2).trans rfl
                have hcz24_3 : w8.cell? ⟨gb106, 3, none⟩ = some (.slice A0_3 l0_3.length c0_3) := (blk_cell BK106.out 3).trans rfl
                have hfz24_0 := blk_frozen BK106.out 0
                have hfz24_1 := blk_frozen BK106.out 1
                have hfz24_2 := blk_frozen BK106.out 2
                have hfz24_3 := blk_frozen BK106.out 3
                have hcz25_0 : w8.cell? ⟨gb113, 0, none⟩ = some (.int .i64 0) := (blk_cell BK113.out 0).trans rfl
                have hcz25_1 : w8.cell? ⟨gb113, 1, none⟩ = some (.int .i64 0) := (blk_cell BK113.out 1).trans rfl
                have hcz25_2 : w8.cell? ⟨gb113, 2, none⟩ = some (.bool false) := (blk_cell BK113.out 2).trans rfl
                have hcz25_3 : w8.cell? ⟨gb113, 3, none⟩ = some (.bool false) := (blk_cell BK113.out 3).trans rfl
                have hcz25_4 : w8.cell? ⟨gb113, 4, none⟩ = some (.bool false) := (blk_cell BK113.out 4).trans rfl
                have hfz25_0 := blk_frozen BK113.out 0
                have hfz25_1 := blk_frozen BK113.out 1
                have hfz25_2 := blk_frozen BK113.out 2
                have hfz25_3 := blk_frozen BK113.out 3
                have hfz25_4 := blk_frozen BK113.out 4
                go_wp2
                go_meet
                case rel => exact ⟨_, (true), (by first | rfl | (simp; done) | (simp [*]; done)), H', ⟨by first | omega | exact Nat.le_refl _⟩, ⟨by (with_reducible repeat (first | refine blk_drewN ?_ _ | refine blk_drew ?_ | refine blk_alloc ?_ _)); refine blk_far ?_ NB106_113.out _; (with_reducible repeat (first | refine blk_drewN ?_ _ | refine blk_drew ?_ | refine blk_alloc ?_ _)); refine blk_far ?_ NB106_113.out _; (with_reducible repeat (first | refine blk_drewN ?_ _ | refine blk_drew ?_ | refine blk_alloc ?_ _)); refine blk_far ?_ NB106_113.out _; (with_reducible repeat (first | refine blk_drewN ?_ _ | refine blk_drew ?_ | refine blk_alloc ?_ _)); refine blk_far ?_ NB106_113.out _; (with_reducible repeat (first | refine blk_drewN ?_ _ | refine blk_drew ?_ | refine blk_alloc ?_ _)); refine blk_far ?_ NB106_113.out _; (with_reducible repeat (first | refine blk_drewN ?_ _ | refine blk_drew ?_ | refine blk_alloc ?_ _)); exact BK106.out⟩, ⟨by (with_reducible repeat (first | refine blk_drewN ?_ _ | refine blk_drew ?_ | refine blk_alloc ?_ _)); refine blk_put (cs := #[.int .i64 t107, .int .i64 t108, .bool false, .bool t110, .bool false]) ?_ 4 _ rfl; (with_reducible repeat (first | refine blk_drewN ?_ _ | refine blk_drew ?_ | refine blk_alloc ?_ _)); refine blk_put (cs := #[.int .i64 t107, .int .i64 t108, .bool false, .bool false, .bool false]) ?_ 3 _ rfl; (with_reducible repeat (first | refine blk_drewN ?_ _ | refine blk_drew ?_ | refine blk_alloc ?_ _)); refine blk_put (cs := #[.int .i64 t107, .int .i64 t108, .bool false, .bool false, .bool false]) ?_ 2 _ rfl; (with_reducible repeat (first | refine blk_drewN ?_ _ | refine blk_drew ?_ | refine blk_alloc ?_ _)); refine blk_put (cs := #[.int .i64 t107, .int .i64 0, .bool false, .bool false, .bool false]) ?_ 1 _ rfl; (with_reducible repeat (first | refine blk_drewN ?_ _ | refine blk_drew ?_ | refine blk_alloc ?_ _)); refine blk_put (cs := #[.int .i64 0, .int .i64 0, .bool false, .bool false, .bool false]) ?_ 0 _ rfl; (with_reducible repeat (first | refine blk_drewN ?_ _ | refine blk_drew ?_ | refine blk_alloc ?_ _)); exact BK113.out⟩, ⟨by repeat (first | (with_reducible first | exact HB.out | apply below_alloc | apply pw_below_drewN | apply below_drew1 | refine below_set ?_ GE106.out | refine below_set ?_ GE113.out) | exact HB.out)⟩⟩
            · rw [if_neg c18] at H
              have c18b0 : decide (t108 < (l0_3.length : Int)) = false := decide_eq_false c18
              clear c18
              have H' := Aside0.mk H
              clear H
              have hnb26 := NB106_113.out
              have hnc26 := NB113_106.out
              have hcz27_0 : w8.cell? ⟨gb106, 0, none⟩ = some (.string a0_0) := (blk_cell BK106.out 0).trans rfl
              have hcz27_1 : w8.cell? ⟨gb106, 1, none⟩ = some (.string a0_1) := (blk_cell BK106.out 1).trans rfl
              have hcz27_2 : w8.cell? ⟨gb106, 2, none⟩ = some (.slice A0_2 l0_2.length c0_2) := (blk_cell BK106.out 2).trans rfl
              have hcz27_3 : w8.cell? ⟨gb106, 3, none⟩ = some (.slice A0_3 l0_3.length c0_3) := (blk_cell BK106.out 3).trans rfl
              have hfz27_0 := blk_frozen BK106.out 0
              have hfz27_1 := blk_frozen BK106.out 1
              have hfz27_2 := blk_frozen BK106.out 2
              have hfz27_3 := blk_frozen BK106.out 3
              have hcz28_0 : w8.cell? ⟨gb113, 0, none⟩ = some (.int .i64 0) := (blk_cell BK113.out 0).trans rfl
              have hcz28_1 : w8.cell? ⟨gb113, 1, none⟩ = some (.int .i64 0) := (blk_cell BK113.out 1).trans rfl
              have hcz28_2 : w8.cell? ⟨gb113, 2, none⟩ = some (.bool false) := (blk_cell BK113.out 2).trans rfl
              have hcz28_3 : w8.cell? ⟨gb113, 3, none⟩ = some (.bool false) := (blk_cell BK113.out 3).trans rfl
              have hcz28_4 : w8.cell? ⟨gb113, 4, none⟩ = some (.bool false) := (blk_cell BK113.out 4).trans rfl
              have hfz28_0 := blk_frozen BK113.out 0
              have hfz28_1 := blk_frozen BK113.out 1
              have hfz28_2 := blk_frozen BK113.out 2
              have hfz28_3 := blk_frozen BK113.out 3
              have hfz28_4 := blk_frozen BK113.out 4
              go_wp2
              go_meet
              case rel => exact ⟨_, (decide ((l0_3.length : Int) > 20)), (by first | rfl | (simp; done) | (simp [*]; done)), H', ⟨by first | omega | exact Nat.le_refl _⟩, ⟨by (with_reducible repeat (first | refine blk_drewN ?_ _ | refine blk_drew ?_ | refine blk_alloc ?_ _)); refine blk_far ?_ NB106_113.out _; (with_reducible repeat (first | refine blk_drewN ?_ _ | refine blk_drew ?_ | refine blk_alloc ?_ _)); refine blk_far ?_ NB106_113.out _; (with_reducible repeat (first | refine blk_drewN ?_ _ | refine blk_drew ?_ | refine blk_alloc ?_ _)); refine blk_far ?_ NB106_113.out _; (with_reducible repeat (first | refine blk_drewN ?_ _ | refine blk_drew ?_ | refine blk_alloc ?_ _)); refine blk_far ?_ NB106_113.out _; (with_reducible repeat (first | refine blk_drewN ?_ _ | refine blk_drew ?_ | refine blk_alloc ?_ _)); refine blk_far ?_ NB106_113.out _; (with_reducible repeat (first | refine blk_drewN ?_ _ | refine blk_drew ?_ | refine blk_alloc ?_ _)); exact BK106.out⟩, ⟨by (with_reducible repeat (first | refine blk_drewN ?_ _ | refine blk_drew ?_ | refine blk_alloc ?_ _)); refine blk_put (cs := #[.int .i64 t107, .int .i64 t108, .bool t109, .bool t110, .bool false]) ?_ 4 _ rfl; (with_reducible repeat (first | refine blk_drewN ?_ _ | refine blk_drew ?_ | refine blk_alloc ?_ _)); refine blk_put (cs := #[.int .i64 t107, .int .i64 t108, .bool t109, .bool false, .bool false]) ?_ 3 _ rfl; (with_reducible repeat (first | refine blk_drewN ?_ _ | refine blk_drew ?_ | refine blk_alloc ?_ _)); refine blk_put (cs := #[.int .i64 t107, .int .i64 t108, .bool false, .bool false, .bool false]) ?_ 2 _ rfl; (with_reducible repeat (first | refine blk_drewN ?_ _ | refine blk_drew ?_ | refine blk_alloc ?_ _)); refine blk_put (cs := #[.int .i64 t107, .int .i64 0, .bool false, .bool false, .bool false]) ?_ 1 _ rfl; (with_reducible repeat (first | refine blk_drewN ?_ _ | refine blk_drew ?_ | refine blk_alloc ?_ _)); refine blk_put (cs := #[.int .i64 0, .int .i64 0, .bool false, .bool false, .bool false]) ?_ 0 _ rfl; (with_reducible repeat (first | refine blk_drewN ?_ _ | refine blk_drew ?_ | refine blk_alloc ?_ _)); exact BK113.out⟩, ⟨by repeat (first | (with_reducible first | exact HB.out | apply below_alloc | apply pw_below_drewN | apply below_drew1 | refine below_set ?_ GE106.out | refine below_set ?_ GE113.out) | exact HB.out)⟩⟩
        · rw [if_neg c13] at H
          have c13b0 : ((l0_2.length : Int) == t107) = false := beq_eq_false_iff_ne.mpr c13
          have c13b1 : ((l0_2.length : Int) != t107) = true := bne_iff_ne.mpr c13
          have H' := Aside0.mk H
          clear H
          have hnb29 := NB106_113.out
          have hnc29 := NB113_106.out
          have hcz30_0 : w8.cell? ⟨gb106, 0, none⟩ = some (.string a0_0) := (blk_cell BK106.out 0).trans rfl
          have hcz30_1 : w8.cell? ⟨gb106, 1, none⟩ = some (.string a0_1) := (blk_cell BK106.out 1).trans rfl
          have hcz30_2 : w8.cell? ⟨gb106, 2, none⟩ = some (.slice A0_2 l0_2.length c0_2) := (blk_cell BK106.out 2).trans rfl
          have hcz30_3 : w8.cell? ⟨gb106, 3, none⟩ = some (.slice A0_3 l0_3.length c0_3) := (blk_cell BK106.out 3).trans rfl
          have hfz30_0 := blk_frozen BK106.out 0
          have hfz30_1 := blk_frozen BK106.out 1
          have hfz30_2 := blk_frozen BK106.out 2
          have hfz30_3 := blk_frozen BK106.out 3
          have hcz31_0 : w8.cell? ⟨gb113, 0, none⟩ = some (.int .i64 0) := (blk_cell BK113.out 0).trans rfl
          have hcz31_1 : w8.cell? ⟨gb113, 1, none⟩ = some (.int .i64 0) := (blk_cell BK113.out 1).trans rfl
          have hcz31_2 : w8.cell? ⟨gb113, 2, none⟩ = some (.bool false) := (blk_cell BK113.out 2).trans rfl
          have hcz31_3 : w8.cell? ⟨gb113, 3, none⟩ = some (.bool false) := (blk_cell BK113.out 3).trans rfl
          have hcz31_4 : w8.cell? ⟨gb113, 4, none⟩ = some (.bool false) := (blk_cell BK113.out 4).trans rfl
          have hfz31_0 := blk_frozen BK113.out 0
          have hfz31_1 := blk_frozen BK113.out 1
          have hfz31_2 := blk_frozen BK113.out 2
          have hfz31_3 := blk_frozen BK113.out 3
          have hfz31_4 := blk_frozen BK113.out 4
          go_wp2
          go_meet
          case rel => exact ⟨_, (true), (by first | rfl | (simp; done) | (simp [*]; done)), H', ⟨by first | omega | exact Nat.le_refl _⟩, ⟨by (with_reducible repeat (first | refine blk_drewN ?_ _ | refine blk_drew ?_ | refine blk_alloc ?_ _)); refine blk_far ?_ NB106_113.out _; (with_reducible repeat (first | refine blk_drewN ?_ _ | refine blk_drew ?_ | refine blk_alloc ?_ _)); refine blk_far ?_ NB106_113.out _; (with_reducible repeat (first | refine blk_drewN ?_ _ | refine blk_drew ?_ | refine blk_alloc ?_ _)); refine blk_far ?_ NB106_113.out _; (with_reducible repeat (first | refine blk_drewN ?_ _ | refine blk_drew ?_ | refine blk_alloc ?_ _)); refine blk_far ?_ NB106_113.out _; (with_reducible repeat (first | refine blk_drewN ?_ _ | refine blk_drew ?_ | refine blk_alloc ?_ _)); refine blk_far ?_ NB106_113.out _; (with_reducible repeat (first | refine blk_drewN ?_ _ | refine blk_drew ?_ | refine blk_alloc ?_ _)); exact BK106.out⟩, ⟨by (with_reducible repeat (first | refine blk_drewN ?_ _ | refine blk_drew ?_ | refine blk_alloc ?_ _)); refine blk_put (cs := #[.int .i64 t107, .int .i64 t108, .bool t109, .bool t110, .bool false]) ?_ 4 _ rfl; (with_reducible repeat (first | refine blk_drewN ?_ _ | refine blk_drew ?_ | refine blk_alloc ?_ _)); refine blk_put (cs := #[.int .i64 t107, .int .i64 t108, .bool t109, .bool false, .bool false]) ?_ 3 _ rfl; (with_reducible repeat (first | refine blk_drewN ?_ _ | refine blk_drew ?_ | refine blk_alloc ?_ _)); refine blk_put (cs := #[.int .i64 t107, .int .i64 t108, .bool false, .bool false, .bool false]) ?_ 2 _ rfl; (with_reducible repeat (first | refine blk_drewN ?_ _ | refine blk_drew ?_ | refine blk_alloc ?_ _)); refine blk_put (cs := #[.int .i64 t107, .int .i64 0, .bool false, .bool false, .bool false]) ?_ 1 _ rfl; (with_reducible repeat (first | refine blk_drewN ?_ _ | refine blk_drew ?_ | refine blk_alloc ?_ _)); refine blk_put (cs := #[.int .i64 0, .int .i64 0, .bool false, .bool false, .bool false]) ?_ 0 _ rfl; (with_reducible repeat (first | refine blk_drewN ?_ _ | refine blk_drew ?_ | refine blk_alloc ?_ _)); exact BK113.out⟩, ⟨by repeat (first | (with_reducible first | exact HB.out | apply below_alloc | apply pw_below_drewN | apply below_drew1 | refine below_set ?_ GE106.out | refine below_set ?_ GE113.out) | exact HB.out)⟩⟩
    · replace c11 := Bool.eq_false_iff.mpr c11
      subst c11
      have H1 : (spec_isPlaced.j0 k a1 true a0_0 a0_1 l0_2 l0_3) = some r := by rw [if_neg (show ¬ (false = true) by decide)] at H; exact H
      clear H
      have H := H1
      clear H1
      have H' := Aside0.mk H
      clear H
      go_wp2
      go_meet
      case rel => exact ⟨_, (true), (by first | rfl | (simp; done) | (simp [*]; done)), H', ⟨by first | omega | exact Nat.le_refl _⟩, ⟨by (with_reducible repeat (first | refine blk_drewN ?_ _ | refine blk_drew ?_ | refine blk_alloc ?_ _)); refine blk_far ?_ NB106_113.out _; (with_reducible repeat (first | refine blk_drewN ?_ _ | refine blk_drew ?_ | refine blk_alloc ?_ _)); refine blk_far ?_ NB106_113.out _; (with_reducible repeat (first | refine blk_drewN ?_ _ | refine blk_drew ?_ | refine blk_alloc ?_ _)); refine blk_far ?_ NB106_113.out _; (with_reducible repeat (first | refine blk_drewN ?_ _ | refine blk_drew ?_ | refine blk_alloc ?_ _)); refine blk_far ?_ NB106_113.out _; (with_reducible repeat (first | refine blk_drewN ?_ _ | refine blk_drew ?_ | refine blk_alloc ?_ _)); refine blk_far ?_ NB106_113.out _; (with_reducible repeat (first | refine blk_drewN ?_ _ | refine blk_drew ?_ | refine blk_alloc ?_ _)); exact BK106.out⟩, ⟨by (with_reducible repeat (first | refine blk_drewN ?_ _ | refine blk_drew ?_ | refine blk_alloc ?_ _)); refine blk_put (cs := #[.int .i64 t107, .int .i64 t108, .bool t109, .bool t110, .bool false]) ?_ 4 _ rfl; (with_reducible repeat (first | refine blk_drewN ?_ _ | refine blk_drew ?_ | refine blk_alloc ?_ _)); refine blk_put (cs := #[.int .i64 t107, .int .i64 t108, .bool t109, .bool false, .bool false]) ?_ 3 _ rfl; (with_reducible repeat (first | refine blk_drewN ?_ _ | refine blk_drew ?_ | refine blk_alloc ?_ _)); refine blk_put (cs := #[.int .i64 t107, .int .i64 t108, .bool false, .bool false, .bool false]) ?_ 2 _ rfl; (with_reducible repeat (first | refine blk_drewN ?_ _ | refine blk_drew ?_ | refine blk_alloc ?_ _)); refine blk_put (cs := #[.int .i64 t107, .int .i64 0, .bool false, .bool false, .bool false]) ?_ 1 _ rfl; (with_reducible repeat (first | refine blk_drewN ?_ _ | refine blk_drew ?_ | refine blk_alloc ?_ _)); refine blk_put (cs := #[.int .i64 0, .int .i64 0, .bool false, .bool false, .bool false]) ?_ 0 _ rfl; (with_reducible repeat (first | refine blk_drewN ?_ _ | refine blk_drew ?_ | refine blk_alloc ?_ _)); exact BK113.out⟩, ⟨by repeat (first | (with_reducible first | exact HB.out | apply below_alloc | apply pw_below_drewN | apply below_drew1 | refine below_set ?_ GE106.out | refine below_set ?_ GE113.out) | exact HB.out)⟩⟩
  case rest =>
    clear HC4
    try clear c1
    try clear c2
    try clear p2
    try clear c9
    try clear c10
    try clear c11
    try clear c12
    try clear c12b0
    try clear c13
    try clear c13b0
    try clear c13b1
    try clear c14
    try clear c14b0
    try clear c15
    try clear c18
    try clear c18b0
    try clear c19
    try clear c20
    try clear c23
    try clear c26
    try clear c29
    try clear hcz10_0
    try clear hcz10_1
    try clear hcz10_2
    try clear hcz10_3
    try clear hcz10_4
    try clear hcz16_0
    try clear hcz16_1
    try clear hcz16_2
    try clear hcz16_3
    try clear hcz17_0
    try clear hcz17_1
    try clear hcz17_2
    try clear hcz17_3
    try clear hcz17_4
    try clear hcz21_0
    try clear hcz21_1
    try clear hcz21_2
    try clear hcz21_3
    try clear hcz22_0
    try clear hcz22_1
    try clear hcz22_2
    try clear hcz22_3
    try clear hcz22_4
    try clear hcz24_0
    try clear hcz24_1
    try clear hcz24_2
    try clear hcz24_3
    try clear hcz25_0
    try clear hcz25_1
    try clear hcz25_2
    try clear hcz25_3
    try clear hcz25_4
    try clear hcz27_0
    try clear hcz27_1
    try clear hcz27_2
    try clear hcz27_3
    try clear hcz28_0
    try clear hcz28_1
    try clear hcz28_2
    try clear hcz28_3
    try clear hcz28_4
    try clear hcz30_0
    try clear hcz30_1
    try clear hcz30_2
    try clear hcz30_3
    try clear hcz31_0
    try clear hcz31_1
    try clear hcz31_2
    try clear hcz31_3
    try clear hcz31_4
    try clear hcz6_0
    try clear hcz6_1
    try clear hcz6_2
    try clear hcz6_3
    try clear hfz10_0
    try clear hfz10_1
    try clear hfz10_2
    try clear hfz10_3
    try clear hfz10_4
    try clear hfz16_0
    try clear hfz16_1
    try clear hfz16_2
    try clear hfz16_3
    try clear hfz17_0
    try clear hfz17_1
    try clear hfz17_2
    try clear hfz17_3
    try clear hfz17_4
    try clear hfz21_0
    try clear hfz21_1
    try clear hfz21_2
    try clear hfz21_3
    try clear hfz22_0
    try clear hfz22_1
    try clear hfz22_2
    try clear hfz22_3
    try clear hfz22_4
    try clear hfz24_0
    try clear hfz24_1
    try clear hfz24_2
    try clear hfz24_3
    try clear hfz25_0
    try clear hfz25_1
    try clear hfz25_2
    try clear hfz25_3
    try clear hfz25_4
    try clear hfz27_0
    try clear hfz27_1
    try clear hfz27_2
    try clear hfz27_3
    try clear hfz28_0
    try clear hfz28_1
    try clear hfz28_2
    try clear hfz28_3
    try clear hfz28_4
    try clear hfz30_0
    try clear hfz30_1
    try clear hfz30_2
    try clear hfz30_3
    try clear hfz31_0
    try clear hfz31_1
    try clear hfz31_2
    try clear hfz31_3
    try clear hfz31_4
    try clear hfz6_0
    try clear hfz6_1
    try clear hfz6_2
    try clear hfz6_3
    obtain ⟨kq, x58_3, rfl, HA, HJ3, BK106, BK113, HB⟩ := hcut
    cases kq with
    | zero => exact absurd HA.out (by simp [spec_isPlaced.j0])
    | succ kj3 =>
      have H := HA.out
      clear HA
      simp only [spec_isPlaced.j0] at H
      by_cases c32 : x58_3 = true
      · subst c32
        have H1 : (some false) = some r := by rw [if_pos rfl] at H; exact H
        clear H
        have H := H1
        clear H1
        obtain rfl := Option.some.inj H
        go_wp2
        go_ret
        exact ⟨by first | rfl | (simp [errW_none, errW_some] <;> rfl) | (simp [*, errW_none, errW_some] <;> rfl), by repeat (first | (with_reducible first | exact HB.out | apply below_alloc | apply pw_below_drewN | apply below_drew1 | refine below_set ?_ GE106.out | refine below_set ?_ GE113.out) | exact HB.out)⟩
      · replace c32 := Bool.eq_false_iff.mpr c32
        subst c32
        have H1 : (if a0_0.toList = ([110, 97, 109, 101] : List UInt8) then (spec_isPlaced.j1 kj3 a1 true a0_0 a0_1 l0_2 l0_3) else (if a0_0.toList = ([105, 110, 116] : List UInt8) then (spec_isPlaced.j1 kj3 a1 true a0_0 a0_1 l0_2 l0_3) else (spec_isPlaced.j1 kj3 a1 (a0_0.toList == ([115, 101, 108, 101, 99, 116, 111, 114] : List UInt8)) a0_0 a0_1 l0_2 l0_3))) = some r := by rw [if_neg (show ¬ (false = true) by decide)] at H; exact H
        clear H
        have H := H1
        clear H1
        have HC33 := Aside0.mk H
        clear H
        go_upto_region 4 with (fail)
        go_cut [7] (fun v7 wc => ∃ (kq : Nat) (x7_32 : Bool), v7 = .bool x7_32 ∧ Aside0 (spec_isPlaced.j1 kq a1 x7_32 a0_0 a0_1 l0_2 l0_3 = some r) ∧ Aside0 (kq ≤ kj3) ∧ Aside0 (wc.heap[gb106]? = some (.cells #[.string a0_0, .string a0_1, (.slice A0_2 l0_2.length c0_2), (.slice A0_3 l0_3.length c0_3)] 25 (0, 0))) ∧ Aside0 (wc.heap[gb113]? = some (.cells #[.int .i64 t107, .int .i64 t108, .bool t109, .bool t110, .bool t111] 38 (0, 0))) ∧ Aside0 (Below w.heap.size w wc))
        case first =>
          have H := HC33.out
          clear HC33
          by_cases c34 : a0_0.toList = ([110, 97, 109, 101] : List UInt8)
          · rw [if_pos c34] at H
            have c34b0 : (a0_0.toList == ([110, 97, 109, 101] : List UInt8)) = true := beq_iff_eq.mpr c34
            have c34b1 : (a0_0.toList != ([110, 97, 109, 101] : List UInt8)) = false := bne_eq_false_iff_eq.mpr c34
            clear c34
            (first | rw [c34b0] | (simp only [i64_w, i32_w]; rw [c34b0]) | skip)
            have H' := Aside0.mk H
            clear H
            have hnb35 := NB106_113.out
            have hnc35 := NB113_106.out
            have hcz36_0 : wc.cell? ⟨gb106, 0, none⟩ = some (.string a0_0) := (blk_cell BK106.out 0).trans rfl
            have hcz36_1 : wc.cell? ⟨gb106, 1, none⟩ = some (.string a0_1) := (blk_cell BK106.out 1).trans rfl
            have hcz36_2 : wc.cell? ⟨gb106, 2, none⟩ = some (.slice A0_2 l0_2.length c0_2) := (blk_cell BK106.out 2).trans rfl
            have hcz36_3 : wc.cell? ⟨gb106, 3, none⟩ = some (.slice A0_3 l0_3.length c0_3) := (blk_cell BK106.out 3).trans rfl
            have hfz36_0 := blk_frozen BK106.out 0
            have hfz36_1 := blk_frozen BK106.out 1
            have hfz36_2 := blk_frozen BK106.out 2
            have hfz36_3 := blk_frozen BK106.out 3
            go_wp2
            go_meet
            case rel => exact ⟨_, (true), (by first | rfl | (simp; done) | (simp [*]; done)), H', ⟨by have := HJ3.out; first | omega | exact Nat.le_refl _⟩, ⟨by (with_reducible repeat (first | refine blk_drewN ?_ _ | refine blk_drew ?_ | refine blk_alloc ?_ _)); exact BK106.out⟩, ⟨by (with_reducible repeat (first | refine blk_drewN ?_ _ | refine blk_drew ?_ | refine blk_alloc ?_ _)); exact BK113.out⟩, ⟨by repeat (first | (with_reducible first | exact HB.out | apply below_alloc | apply pw_below_drewN | apply below_drew1 | refine below_set ?_ GE106.out | refine below_set ?_ GE113.out) | exact HB.out)⟩⟩
          · rw [if_neg c34] at H
            have c34b0 : (a0_0.toList == ([110, 97, 109, 101] : List UInt8)) = false := beq_eq_false_iff_ne.mpr c34
            have c34b1 : (a0_0.toList != ([110, 97, 109, 101] : List UInt8)) = true := bne_iff_ne.mpr c34
            (first | rw [c34b0] | (simp only [i64_w, i32_w]; rw [c34b0]) | skip)
            by_cases c37 : a0_0.toList = ([105, 110, 116] : List UInt8)
            · rw [if_pos c37] at H
              have c37b0 : (a0_0.toList == ([105, 110, 116] : List UInt8)) = true := beq_iff_eq.mpr c37
              have c37b1 : (a0_0.toList != ([105, 110, 116] : List UInt8)) = false := bne_eq_false_iff_eq.mpr c37
              clear c37
              have H' := Aside0.mk H
              clear H
              have hnb38 := NB106_113.out
              have hnc38 := NB113_106.out
              have hcz39_0 : wc.cell? ⟨gb106, 0, none⟩ = some (.string a0_0) := (blk_cell BK106.out 0).trans rfl
              have hcz39_1 : wc.cell? ⟨gb106, 1, none⟩ = some (.string a0_1) := (blk_cell BK106.out 1).trans rfl
              have hcz39_2 : wc.cell? ⟨gb106, 2, none⟩ = some (.slice A0_2 l0_2.length c0_2) := (blk_cell BK106.out 2).trans rfl
              have hcz39_3 : wc.cell? ⟨gb106, 3, none⟩ = some (.slice A0_3 l0_3.length c0_3) := (blk_cell BK106.out 3).trans rfl
              have hfz39_0 := blk_frozen BK106.out 0
              have hfz39_1 := blk_frozen BK106.out 1
              have hfz39_2 := blk_frozen BK106.out 2
              have hfz39_3 := blk_frozen BK106.out 3
              go_wp2
              go_meet
              case rel => exact ⟨_, (true), (by first | rfl | (simp; done) | (simp [*]; done)), H', ⟨by have := HJ3.out; first | omega | exact Nat.le_refl _⟩, ⟨by (with_reducible repeat (first | refine blk_drewN ?_ _ | refine blk_drew ?_ | refine blk_alloc ?_ _)); exact BK106.out⟩, ⟨by (with_reducible repeat (first | refine blk_drewN ?_ _ | refine blk_drew ?_ | refine blk_alloc ?_ _)); exact BK113.out⟩, ⟨by repeat (first | (with_reducible first | exact HB.out | apply below_alloc | apply pw_below_drewN | apply below_drew1 | refine below_set ?_ GE106.out | refine below_set ?_ GE113.out) | exact HB.out)⟩⟩
            · rw [if_neg c37] at H
              have c37b0 : (a0_0.toList == ([105, 110, 116] : List UInt8)) = false := beq_eq_false_iff_ne.mpr c37
              have c37b1 : (a0_0.toList != ([105, 110, 116] : List UInt8)) = true := bne_iff_ne.mpr c37
              have H' := Aside0.mk H
              clear H
              have hnb40 := NB106_113.out
              have hnc40 := NB113_106.out
              have hcz41_0 : wc.cell? ⟨gb106, 0, none⟩ = some (.string a0_0) := (blk_cell BK106.out 0).trans rfl
              have hcz41_1 : wc.cell? ⟨gb106, 1, none⟩ = some (.string a0_1) := (blk_cell BK106.out 1).trans rfl
              have hcz41_2 : wc.cell? ⟨gb106, 2, none⟩ = some (.slice A0_2 l0_2.length c0_2) := (blk_cell BK106.out 2).trans rfl
              have hcz41_3 : wc.cell? ⟨gb106, 3, none⟩ = some (.slice A0_3 l0_3.length c0_3) := (blk_cell BK106.out 3).trans rfl
              have hfz41_0 := blk_frozen BK106.out 0
              have hfz41_1 := blk_frozen BK106.out 1
              have hfz41_2 := blk_frozen BK106.out 2
              have hfz41_3 := blk_frozen BK106.out 3
              go_wp2
              go_meet
              case rel => exact ⟨_, ((a0_0.toList == ([115, 101, 108, 101, 99, 116, 111, 114] : List UInt8))), (by first | rfl | (simp; done) | (simp [*]; done)), H', ⟨by have := HJ3.out; first | omega | exact Nat.le_refl _⟩, ⟨by (with_reducible repeat (first | refine blk_drewN ?_ _ | refine blk_drew ?_ | refine blk_alloc ?_ _)); exact BK106.out⟩, ⟨by (with_reducible repeat (first | refine blk_drewN ?_ _ | refine blk_drew ?_ | refine blk_alloc ?_ _)); exact BK113.out⟩, ⟨by repeat (first | (with_reducible first | exact HB.out | apply below_alloc | apply pw_below_drewN | apply below_drew1 | refine below_set ?_ GE106.out | refine below_set ?_ GE113.out) | exact HB.out)⟩⟩
        case rest =>
          clear HC33
          try clear c1
          try clear c2
          try clear p2
          try clear c3
          try clear c4
          try clear c9
          try clear c10
          try clear c11
          try clear c12
          try clear c12b0
          try clear c13
          try clear c13b0
          try clear c13b1
          try clear c14
          try clear c14b0
          try clear c15
          try clear c18
          try clear c18b0
          try clear c19
          try clear c20
          try clear c23
          try clear c26
          try clear c29
          try clear c32
          try clear c34
          try clear c34b0
          try clear c34b1
          try clear c35
          try clear c37
          try clear c37b0
          try clear c37b1
          try clear c38
          try clear c40
          try clear hcz10_0
          try clear hcz10_1
          try clear hcz10_2
          try clear hcz10_3
          try clear hcz10_4
          try clear hcz16_0
          try clear hcz16_1
          try clear hcz16_2
          try clear hcz16_3
          try clear hcz17_0
          try clear hcz17_1
          try clear hcz17_2
          try clear hcz17_3
          try clear hcz17_4
          try clear hcz21_0
          try clear hcz21_1
          try clear hcz21_2
          try clear hcz21_3
          try clear hcz22_0
          try clear hcz22_1
          try clear hcz22_2
          try clear hcz22_3
          try clear hcz22_4
          try clear hcz24_0
          try clear hcz24_1
          try clear hcz24_2
          try clear hcz24_3
          try clear hcz25_0
          try clear hcz25_1
          try clear hcz25_2
          try clear hcz25_3
          try clear hcz25_4
          try clear hcz27_0
          try clear hcz27_1
          try clear hcz27_2
          try clear hcz27_3
          try clear hcz28_0
          try clear hcz28_1
          try clear hcz28_2
          try clear hcz28_3
          try clear hcz28_4
          try clear hcz30_0
          try clear hcz30_1
          try clear hcz30_2
          try clear hcz30_3
          try clear hcz31_0
          try clear hcz31_1
          try clear hcz31_2
          try clear hcz31_3
          try clear hcz31_4
          try clear hcz36_0
          try clear hcz36_1
          try clear hcz36_2
          try clear hcz36_3
          try clear hcz39_0
          try clear hcz39_1
          try clear hcz39_2
          try clear hcz39_3
          try clear hcz41_0
          try clear hcz41_1
          try clear hcz41_2
          try clear hcz41_3
          try clear hcz6_0
          try clear hcz6_1
          try clear hcz6_2
          try clear hcz6_3
          try clear hfz10_0
          try clear hfz10_1
          try clear hfz10_2
          try clear hfz10_3
          try clear hfz10_4
          try clear hfz16_0
          try clear hfz16_1
          try clear hfz16_2
          try clear hfz16_3
          try clear hfz17_0
          try clear hfz17_1
          try clear hfz17_2
          try clear hfz17_3
          try clear hfz17_4
          try clear hfz21_0
          try clear hfz21_1
          try clear hfz21_2
          try clear hfz21_3
          try clear hfz22_0
          try clear hfz22_1
          try clear hfz22_2
          try clear hfz22_3
          try clear hfz22_4
          try clear hfz24_0
          try clear hfz24_1
          try clear hfz24_2
          try clear hfz24_3
          try clear hfz25_0
          try clear hfz25_1
          try clear hfz25_2
          try clear hfz25_3
          try clear hfz25_4
          try clear hfz27_0
          try clear hfz27_1
          try clear hfz27_2
          try clear hfz27_3
          try clear hfz28_0
          try clear hfz28_1
          try clear hfz28_2
          try clear hfz28_3
          try clear hfz28_4
          try clear hfz30_0
          try clear hfz30_1
          try clear hfz30_2
          try clear hfz30_3
          try clear hfz31_0
          try clear hfz31_1
          try clear hfz31_2
          try clear hfz31_3
          try clear hfz31_4
          try clear hfz36_0
          try clear hfz36_1
          try clear hfz36_2
          try clear hfz36_3
          try clear hfz39_0
          try clear hfz39_1
          try clear hfz39_2
          try clear hfz39_3
          try clear hfz41_0
          try clear hfz41_1
          try clear hfz41_2
          try clear hfz41_3
          try clear hfz6_0
          try clear hfz6_1
          try clear hfz6_2
          try clear hfz6_3
          try clear p2
          obtain ⟨kq, x7_32, rfl, HA, HJ32, BK106, BK113, HB⟩ := hcut
          cases kq with
          | zero => exact absurd HA.out (by simp [spec_isPlaced.j1])
          | succ kj32 =>
            have H := HA.out
            clear HA
            simp only [spec_isPlaced.j1] at H
            have HC42 := Aside0.mk H
            clear H
            go_upto_region 5 with (fail)
            go_cut [82] (fun v82 wc => ∃ (kq : Nat) (x82_41 : Bool), v82 = .bool x82_41 ∧ Aside0 (spec_isPlaced.j2 kq a1 x82_41 a0_0 a0_1 l0_2 l0_3 = some r) ∧ Aside0 (kq ≤ kj32) ∧ Aside0 (wc.heap[gb106]? = some (.cells #[.string a0_0, .string a0_1, (.slice A0_2 l0_2.length c0_2), (.slice A0_3 l0_3.length c0_3)] 25 (0, 0))) ∧ Aside0 (wc.heap[gb113]? = some (.cells #[.int .i64 t107, .int .i64 t108, .bool t109, .bool t110, .bool t111] 38 (0, 0))) ∧ Aside0 (Below w.heap.size w wc))
            case first =>
              have H := HC42.out
              clear HC42
              by_cases c43 : (x7_32 != (a0_1.toList != ([] : List UInt8))) = true
              · rw [if_pos c43] at H
                have c43z := split_pos x7_32 a0_1.toList c43
                clear c43
                rcases c43z with ⟨rfl, hE0, hE1⟩ | ⟨rfl, hE0, hE1⟩
                all_goals
                  have H' := Aside0.mk H
                  clear H
                  have hnb44 := NB106_113.out
                  have hnc44 := NB113_106.out
                  have hcz45_0 : wc.cell? ⟨gb106, 0, none⟩ = some (.string a0_0) := (blk_cell BK106.out 0).trans rfl
                  have hcz45_1 : wc.cell? ⟨gb106, 1, none⟩ = some (.string a0_1) := (blk_cell BK106.out 1).trans rfl
                  have hcz45_2 : wc.cell? ⟨gb106, 2, none⟩ = some (.slice A0_2 l0_2.length c0_2) := (blk_cell BK106.out 2).trans rfl
                  have hcz45_3 : wc.cell? ⟨gb106, 3, none⟩ = some (.slice A0_3 l0_3.length c0_3) := (blk_cell BK106.out 3).trans rfl
                  have hfz45_0 := blk_frozen BK106.out 0
                  have hfz45_1 := blk_frozen BK106.out 1
                  have hfz45_2 := blk_frozen BK106.out 2
                  have hfz45_3 := blk_frozen BK106.out 3
                  go_wp2
                  go_meet
                  case rel => exact ⟨_, (true), (by first | rfl | (simp; done) | (simp [*]; done)), H', ⟨by have := HJ3.out; have := HJ32.out; first | omega | exact Nat.le_refl _⟩, ⟨by (with_reducible repeat (first | refine blk_drewN ?_ _ | refine blk_drew ?_ | refine blk_alloc ?_ _)); exact BK106.out⟩, ⟨by (with_reducible repeat (first | refine blk_drewN ?_ _ | refine blk_drew ?_ | refine blk_alloc ?_ _)); exact BK113.out⟩, ⟨by repeat (first | (with_reducible first | exact HB.out | apply below_alloc | apply pw_below_drewN | apply below_drew1 | refine below_set ?_ GE106.out | refine below_set ?_ GE113.out) | exact HB.out)⟩⟩
              · rw [if_neg c43] at H
                have c43z := split_neg x7_32 a0_1.toList c43
                clear c43
                rcases c43z with ⟨rfl, hE0, hE1⟩ | ⟨rfl, hE0, hE1⟩
                all_goals
                  have H' := Aside0.mk H
                  clear H
                  have hnb46 := NB106_113.out
                  have hnc46 := NB113_106.out
                  have hcz47_0 : wc.cell? ⟨gb106, 0, none⟩ = some (.string a0_0) := (blk_cell BK106.out 0).trans rfl
                  have hcz47_1 : wc.cell? ⟨gb106, 1, none⟩ = some (.string a0_1) := (blk_cell BK106.out 1).trans rfl
                  have hcz47_2 : wc.cell? ⟨gb106, 2, none⟩ = some (.slice A0_2 l0_2.length c0_2) := (blk_cell BK106.out 2).trans rfl
                  have hcz47_3 : wc.cell? ⟨gb106, 3, none⟩ = some (.slice A0_3 l0_3.length c0_3) := (blk_cell BK106.out 3).trans rfl
                  have hfz47_0 := blk_frozen BK106.out 0
                  have hfz47_1 := blk_frozen BK106.out 1
                  have hfz47_2 := blk_frozen BK106.out 2
                  have hfz47_3 := blk_frozen BK106.out 3
                  go_wp2
                  go_meet
                  case rel => exact ⟨_, (decide ((a0_1.size : Int) > 1000)), (by first | rfl | (simp; done) | (simp [*]; done)), H', ⟨by have := HJ3.out; have := HJ32.out; first | omega | exact Nat.le_refl _⟩, ⟨by (with_reducible repeat (first | refine blk_drewN ?_ _ | refine blk_drew ?_ | refine blk_alloc ?_ _)); exact BK106.out⟩, ⟨by (with_reducible repeat (first | refine blk_drewN ?_ _ | refine blk_drew ?_ | refine blk_alloc ?_ _)); exact BK113.out⟩, ⟨by repeat (first | (with_reducible first | exact HB.out | apply below_alloc | apply pw_below_drewN | apply below_drew1 | refine below_set ?_ GE106.out | refine below_set ?_ GE113.out) | exact HB.out)⟩⟩
            case rest =>
              clear HC42
              try clear c1
              try clear c2
              try clear p2
              try clear c3
              try clear c4
              try clear c9
              try clear c10
              try clear c11
              try clear c12
              try clear c12b0
              try clear c13
              try clear c13b0
              try clear c13b1
              try clear c14
              try clear c14b0
              try clear c15
              try clear c18
              try clear c18b0
              try clear c19
              try clear c20
              try clear c23
              try clear c26
              try clear c29
              try clear c32
              try clear c34
              try clear c34b0
              try clear c34b1
              try clear c35
              try clear c37
              try clear c37b0
              try clear c37b1
              try clear c38
              try clear c40
              try clear c43
              try clear c43b0
              try clear c43b1
              try clear c43b2
              try clear c44
              try clear c46
              try clear hcz10_0
              try clear hcz10_1
              try clear hcz10_2
              try clear hcz10_3
              try clear hcz10_4
              try clear hcz16_0
              try clear hcz16_1
              try clear hcz16_2
              try clear hcz16_3
              try clear hcz17_0
              try clear hcz17_1
              try clear hcz17_2
              try clear hcz17_3
              try clear hcz17_4
              try clear hcz21_0
              try clear hcz21_1
              try clear hcz21_2
              try clear hcz21_3
              try clear hcz22_0
              try clear hcz22_1
              try clear hcz22_2
              try clear hcz22_3
              try clear hcz22_4
              try clear hcz24_0
              try clear hcz24_1
              try clear hcz24_2
              try clear hcz24_3
              try clear hcz25_0
              try clear hcz25_1
              try clear hcz25_2
              try clear hcz25_3
              try clear hcz25_4
              try clear hcz27_0
              try clear hcz27_1
              try clear hcz27_2
              try clear hcz27_3
              try clear hcz28_0
              try clear hcz28_1
              try clear hcz28_2
              try clear hcz28_3
              try clear hcz28_4
              try clear hcz30_0
              try clear hcz30_1
              try clear hcz30_2
              try clear hcz30_3
              try clear hcz31_0
              try clear hcz31_1
              try clear hcz31_2
              try clear hcz31_3
              try clear hcz31_4
              try clear hcz36_0
              try clear hcz36_1
              try clear hcz36_2
              try clear hcz36_3
              try clear hcz39_0
              try clear hcz39_1
              try clear hcz39_2
              try clear hcz39_3
              try clear hcz41_0
              try clear hcz41_1
              try clear hcz41_2
              try clear hcz41_3
              try clear hcz45_0
              try clear hcz45_1
              try clear hcz45_2
              try clear hcz45_3
              try clear hcz47_0
              try clear hcz47_1
              try clear hcz47_2
              try clear hcz47_3
              try clear hcz6_0
              try clear hcz6_1
              try clear hcz6_2
              try clear hcz6_3
              try clear hfz10_0
              try clear hfz10_1
              try clear hfz10_2
              try clear hfz10_3
              try clear hfz10_4
              try clear hfz16_0
              try clear hfz16_1
              try clear hfz16_2
              try clear hfz16_3
              try clear hfz17_0
              try clear hfz17_1
              try clear hfz17_2
              try clear hfz17_3
              try clear hfz17_4
              try clear hfz21_0
              try clear hfz21_1
              try clear hfz21_2
              try clear hfz21_3
              try clear hfz22_0
              try clear hfz22_1
              try clear hfz22_2
              try clear hfz22_3
              try clear hfz22_4
              try clear hfz24_0
              try clear hfz24_1
              try clear hfz24_2
              try clear hfz24_3
              try clear hfz25_0
              try clear hfz25_1
              try clear hfz25_2
              try clear hfz25_3
              try clear hfz25_4
              try clear hfz27_0
              try clear hfz27_1
              try clear hfz27_2
              try clear hfz27_3
              try clear hfz28_0
              try clear hfz28_1
              try clear hfz28_2
              try clear hfz28_3
              try clear hfz28_4
              try clear hfz30_0
              try clear hfz30_1
              try clear hfz30_2
              try clear hfz30_3
              try clear hfz31_0
              try clear hfz31_1
              try clear hfz31_2
              try clear hfz31_3
              try clear hfz31_4
              try clear hfz36_0
              try clear hfz36_1
              try clear hfz36_2
              try clear hfz36_3
              try clear hfz39_0
              try clear hfz39_1
              try clear hfz39_2
              try clear hfz39_3
              try clear hfz41_0
              try clear hfz41_1
              try clear hfz41_2
              try clear hfz41_3
              try clear hfz45_0
              try clear hfz45_1
              try clear hfz45_2
              try clear hfz45_3
              try clear hfz47_0
              try clear hfz47_1
              try clear hfz47_2
              try clear hfz47_3
              try clear hfz6_0
              try clear hfz6_1
              try clear hfz6_2
              try clear hfz6_3
              try clear p2
              obtain ⟨kq, x82_41, rfl, HA, HJ41, BK106, BK113, HB⟩ := hcut
              cases kq with
              | zero => exact absurd HA.out (by simp [spec_isPlaced.j2])
              | succ kj41 =>
                have H := HA.out
                clear HA
                simp only [spec_isPlaced.j2] at H
                by_cases c48 : x82_41 = true
                · subst c48
                  have H1 : (some false) = some r := by rw [if_pos rfl] at H; exact H
                  clear H
                  have H := H1
                  clear H1
                  obtain rfl := Option.some.inj H
                  go_wp2
                  go_ret
                  exact ⟨by first | rfl | (simp [errW_none, errW_some] <;> rfl) | (simp [*, errW_none, errW_some] <;> rfl), by repeat (first | (with_reducible first | exact HB.out | apply below_alloc | apply pw_below_drewN | apply below_drew1 | refine below_set ?_ GE106.out | refine below_set ?_ GE113.out) | exact HB.out)⟩
                · replace c48 := Bool.eq_false_iff.mpr c48
                  subst c48
                  have H1 : (spec_isPlaced.l0 kj41 a1 l0_2 (l0_2.length : Int) 0 a0_0 a0_1 l0_2 l0_3) = some r := by rw [if_neg (show ¬ (false = true) by decide)] at H; exact H
                  clear H
                  have H := H1
                  clear H1
                  have H' := Aside0.mk H
                  clear H
                  have hnb49 := NB106_113.out
                  have hnc49 := NB113_106.out
                  have hcz50_0 : wc.cell? ⟨gb106, 0, none⟩ = some (.string a0_0) := (blk_cell BK106.out 0).trans rfl
                  have hcz50_1 : wc.cell? ⟨gb106, 1, none⟩ = some (.string a0_1) := (blk_cell BK106.out 1).trans rfl
                  have hcz50_2 : wc.cell? ⟨gb106, 2, none⟩ = some (.slice A0_2 l0_2.length c0_2) := (blk_cell BK106.out 2).trans rfl
                  have hcz50_3 : wc.cell? ⟨gb106, 3, none⟩ = some (.slice A0_3 l0_3.length c0_3) := (blk_cell BK106.out 3).trans rfl
                  have hfz50_0 := blk_frozen BK106.out 0
                  have hfz50_1 := blk_frozen BK106.out 1
                  have hfz50_2 := blk_frozen BK106.out 2
                  have hfz50_3 := blk_frozen BK106.out 3
                  go_wp2
                  go_loopg [86] kj41 (fun kq v86 w' => ∃ (x86_4 : Int), v86 = .int .i64 x86_4 ∧ Aside0 (spec_isPlaced.l0 kq a1 l0_2 (l0_2.length : Int) x86_4 a0_0 a0_1 l0_2 l0_3 = some r) ∧ Aside0 (kq ≤ kj41) ∧ Aside0 (w'.heap[gb106]? = some (.cells #[.string a0_0, .string a0_1, (.slice A0_2 l0_2.length c0_2), (.slice A0_3 l0_3.length c0_3)] 25 (0, 0))) ∧ Aside0 (w'.heap[gb113]? = some (.cells #[.int .i64 t107, .int .i64 t108, .bool t109, .bool t110, .bool t111] 38 (0, 0))) ∧ Aside0 (Below w.heap.size w w'))
                  case atStart => exact ⟨(0), (by first | rfl | (simp; done) | (simp [*]; done)), H', ⟨Nat.le_refl _⟩, ⟨by (with_reducible repeat (first | refine blk_drewN ?_ _ | refine blk_drew ?_ | refine blk_alloc ?_ _)); exact BK106.out⟩, ⟨by (with_reducible repeat (first | refine blk_drewN ?_ _ | refine blk_drew ?_ | refine blk_alloc ?_ _)); exact BK113.out⟩, ⟨by repeat (first | (with_reducible first | exact HB.out | apply below_alloc | apply pw_below_drewN | apply below_drew1 | refine below_set ?_ GE106.out | refine below_set ?_ GE113.out) | exact HB.out)⟩⟩
                  case round =>
                    clear H'
                    try clear c1
                    try clear c2
                    try clear p2
                    try clear c3
                    try clear c4
                    try clear c9
                    try clear c10
                    try clear c11
                    try clear c12
                    try clear c12b0
                    try clear c13
                    try clear c13b0
                    try clear c13b1
                    try clear c14
                    try clear c14b0
                    try clear c15
                    try clear c18
                    try clear c18b0
                    try clear c19
                    try clear c20
                    try clear c23
                    try clear c26
                    try clear c29
                    try clear c32
                    try clear c34
                    try clear c34b0
                    try clear c34b1
                    try clear c35
                    try clear c37
                    try clear c37b0
                    try clear c37b1
                    try clear c38
                    try clear c40
                    try clear c43
                    try clear c43b0
                    try clear c43b1
                    try clear c43b2
                    try clear c44
                    try clear c46
                    try clear c48
                    try clear c49
                    try clear hcz10_0
                    try clear hcz10_1
                    try clear hcz10_2
                    try clear hcz10_3
                    try clear hcz10_4
                    try clear hcz16_0
                    try clear hcz16_1
                    try clear hcz16_2
                    try clear hcz16_3
                    try clear hcz17_0
                    try clear hcz17_1
                    try clear hcz17_2
                    try clear hcz17_3
                    try clear hcz17_4
                    try clear hcz21_0
                    try clear hcz21_1
                    try clear hcz21_2
                    try clear hcz21_3
                    try clear hcz22_0
                    try clear hcz22_1
                    try clear hcz22_2
                    try clear hcz22_3
                    try clear hcz22_4
                    try clear hcz24_0
                    try clear hcz24_1
                    try clear hcz24_2
                    try clear hcz24_3
                    try clear hcz25_0
                    try clear hcz25_1
                    try clear hcz25_2
                    try clear hcz25_3
                    try clear hcz25_4
                    try clear hcz27_0
                    try clear hcz27_1
                    try clear hcz27_2
                    try clear hcz27_3
                    try clear hcz28_0
                    try clear hcz28_1
                    try clear hcz28_2
                    try clear hcz28_3
                    try clear hcz28_4
                    try clear hcz30_0
                    try clear hcz30_1
                    try clear hcz30_2
                    try clear hcz30_3
                    try clear hcz31_0
                    try clear hcz31_1
                    try clear hcz31_2
                    try clear hcz31_3
                    try clear hcz31_4
                    try clear hcz36_0
                    try clear hcz36_1
                    try clear hcz36_2
                    try clear hcz36_3
                    try clear hcz39_0
                    try clear hcz39_1
                    try clear hcz39_2
                    try clear hcz39_3
                    try clear hcz41_0
                    try clear hcz41_1
                    try clear hcz41_2
                    try clear hcz41_3
                    try clear hcz45_0
                    try clear hcz45_1
                    try clear hcz45_2
                    try clear hcz45_3
                    try clear hcz47_0
                    try clear hcz47_1
                    try clear hcz47_2
                    try clear hcz47_3
                    try clear hcz50_0
                    try clear hcz50_1
                    try clear hcz50_2
                    try clear hcz50_3
                    try clear hcz6_0
                    try clear hcz6_1
                    try clear hcz6_2
                    try clear hcz6_3
                    try clear hfz10_0
                    try clear hfz10_1
                    try clear hfz10_2
                    try clear hfz10_3
                    try clear hfz10_4
                    try clear hfz16_0
                    try clear hfz16_1
                    try clear hfz16_2
                    try clear hfz16_3
                    try clear hfz17_0
                    try clear hfz17_1
                    try clear hfz17_2
                    try clear hfz17_3
                    try clear hfz17_4
                    try clear hfz21_0
                    try clear hfz21_1
                    try clear hfz21_2
                    try clear hfz21_3
                    try clear hfz22_0
                    try clear hfz22_1
                    try clear hfz22_2
                    try clear hfz22_3
                    try clear hfz22_4
                    try clear hfz24_0
                    try clear hfz24_1
                    try clear hfz24_2
                    try clear hfz24_3
                    try clear hfz25_0
                    try clear hfz25_1
                    try clear hfz25_2
                    try clear hfz25_3
                    try clear hfz25_4
                    try clear hfz27_0
                    try clear hfz27_1
                    try clear hfz27_2
                    try clear hfz27_3
                    try clear hfz28_0
                    try clear hfz28_1
                    try clear hfz28_2
                    try clear hfz28_3
                    try clear hfz28_4
                    try clear hfz30_0
                    try clear hfz30_1
                    try clear hfz30_2
                    try clear hfz30_3
                    try clear hfz31_0
                    try clear hfz31_1
                    try clear hfz31_2
                    try clear hfz31_3
                    try clear hfz31_4
                    try clear hfz36_0
                    try clear hfz36_1
                    try clear hfz36_2
                    try clear hfz36_3
                    try clear hfz39_0
                    try clear hfz39_1
                    try clear hfz39_2
                    try clear hfz39_3
                    try clear hfz41_0
                    try clear hfz41_1
                    try clear hfz41_2
                    try clear hfz41_3
                    try clear hfz45_0
                    try clear hfz45_1
                    try clear hfz45_2
                    try clear hfz45_3
                    try clear hfz47_0
                    try clear hfz47_1
                    try clear hfz47_2
                    try clear hfz47_3
                    try clear hfz50_0
                    try clear hfz50_1
                    try clear hfz50_2
                    try clear hfz50_3
                    try clear hfz6_0
                    try clear hfz6_1
                    try clear hfz6_2
                    try clear hfz6_3
                    try clear p2
                    obtain ⟨x86_4, rfl, HA, HK4, BK106, BK113, HB⟩ := hrel
                    cases gk with
                    | zero => exact absurd HA.out (by simp [spec_isPlaced.l0])
                    | succ k4 =>
                      have H := HA.out
                      clear HA
                      simp only [spec_isPlaced.l0] at H
                      by_cases c51 : x86_4 < (l0_2.length : Int)
                      · rw [if_pos c51] at H
                        have c51b0 : decide (x86_4 < (l0_2.length : Int)) = true := decide_eq_true c51
                        clear c51
                        by_cases c52 : 0 ≤ x86_4
                        · rw [if_pos c52] at H
                          have c52b0 : decide (0 ≤ x86_4) = true := decide_eq_true c52
                          clear c52
                          by_cases c53 : x86_4 < (l0_2.length : Int)
                          · rw [if_pos c53] at H
                            have c53b0 : decide (x86_4 < (l0_2.length : Int)) = true := decide_eq_true c53
                            clear c53
                            by_cases c54 : (rd l0_2 x86_4) < 1
                            · rw [if_pos c54] at H
                              have c54b0 : decide ((rd l0_2 x86_4) < 1) = true := decide_eq_true c54
                              clear c54
                              obtain rfl := Option.some.inj H
                              have p114 : 0 ≤ (x86_4 : Int) := of_decide_eq_true (by first | (with_reducible assumption) | assumption)
                              have q114 : x86_4 < (l0_2.length : Int) := of_decide_eq_true (by first | (with_reducible assumption) | assumption)
                              obtain ⟨ad114, e114, hx114_0⟩ := Kd.at_int HR0_2.out x86_4 p114 q114
                              cases e114
                              replace hx114_0 := (HB.out.cell (World.block_lt_of_cell? w _ hx114_0)).trans hx114_0
                              replace p114 := eq_true p114
                              replace q114 := eq_true q114
                              go_wp2
                              go_ret
                              exact ⟨by first | rfl | (simp [errW_none, errW_some] <;> rfl) | (simp [*, errW_none, errW_some] <;> rfl), by repeat (first | (with_reducible first | exact HB.out | apply below_alloc | apply pw_below_drewN | apply below_drew1 | refine below_set ?_ GE106.out | refine below_set ?_ GE113.out) | exact HB.out)⟩
                            · rw [if_neg c54] at H
                              have c54b0 : decide ((rd l0_2 x86_4) < 1) = false := decide_eq_false c54
                              clear c54
                              by_cases c55 : (rd l0_2 x86_4) > 1000000
                              · rw [if_pos c55] at H
                                have c55b0 : decide (1000000 < (rd l0_2 x86_4)) = true := decide_eq_true c55
                                clear c55
                                obtain rfl := Option.some.inj H
                                have p114 : 0 ≤ (x86_4 : Int) := of_decide_eq_true (by first | (with_reducible assumption) | assumption)
                                have q114 : x86_4 < (l0_2.length : Int) := of_decide_eq_true (by first | (with_reducible assumption) | assumption)
                                obtain ⟨ad114, e114, hx114_0⟩ := Kd.at_int HR0_2.out x86_4 p114 q114
                                cases e114
                                replace hx114_0 := (HB.out.cell (World.block_lt_of_cell? w _ hx114_0)).trans hx114_0
                                replace p114 := eq_true p114
                                replace q114 := eq_true q114
                                go_wp2
                                go_ret
                                exact ⟨by first | rfl | (simp [errW_none, errW_some] <;> rfl) | (simp [*, errW_none, errW_some] <;> rfl), by repeat (first | (with_reducible first | exact HB.out | apply below_alloc | apply pw_below_drewN | apply below_drew1 | refine below_set ?_ GE106.out | refine below_set ?_ GE113.out) | exact HB.out)⟩
                              · rw [if_neg c55] at H
                                have c55b0 : decide (1000000 < (rd l0_2 x86_4)) = false := decide_eq_false c55
                                clear c55
                                have H' := Aside0.mk H
                                clear H
                                have p114 : 0 ≤ (x86_4 : Int) := of_decide_eq_true (by first | (with_reducible assumption) | assumption)
                                have q114 : x86_4 < (l0_2.length : Int) := of_decide_eq_true (by first | (with_reducible assumption) | assumption)
                                obtain ⟨ad114, e114, hx114_0⟩ := Kd.at_int HR0_2.out x86_4 p114 q114
                                cases e114
                                replace hx114_0 := (HB.out.cell (World.block_lt_of_cell? w _ hx114_0)).trans hx114_0
                                replace p114 := eq_true p114
                                replace q114 := eq_true q114
                                go_wp2
                                go_roundg k4
                                case measure => have := HJ3.out; have := HJ32.out; have := HJ41.out; have := HK4.out; omega
                                case rel => exact ⟨(wrap64 (x86_4 + 1)), (by first | rfl | (simp; done) | (simp [*]; done)), H', ⟨by have := HJ3.out; have := HJ32.out; have := HJ41.out; have := HK4.out; omega⟩, ⟨by (with_reducible repeat (first | refine blk_drewN ?_ _ | refine blk_drew ?_ | refine blk_alloc ?_ _)); exact BK106.out⟩, ⟨by (with_reducible repeat (first | refine blk_drewN ?_ _ | refine blk_drew ?_ | refine blk_alloc ?_ _)); exact BK113.out⟩, ⟨by repeat (first | (with_reducible first | exact HB.out | apply below_alloc | apply pw_below_drewN | apply below_drew1 | refine below_set ?_ GE106.out | refine below_set ?_ GE113.out) | exact HB.out)⟩⟩
                          · rw [if_neg c53] at H
                            exact absurd H (by simp)
                        · rw [if_neg c52] at H
                          exact absurd H (by simp)
                      · rw [if_neg c51] at H
                        have c51b0 : decide (x86_4 < (l0_2.length : Int)) = false := decide_eq_false c51
                        clear c51
                        have H' := Aside0.mk H
                        clear H
                        have hnb56 := NB106_113.out
                        have hnc56 := NB113_106.out
                        have hcz57_0 : wr.cell? ⟨gb106, 0, none⟩ = some (.string a0_0) := (blk_cell BK106.out 0).trans rfl
                        have hcz57_1 : wr.cell? ⟨gb106, 1, none⟩ = some (.string a0_1) := (blk_cell BK106.out 1).trans rfl
                        have hcz57_2 : wr.cell? ⟨gb106, 2, none⟩ = some (.slice A0_2 l0_2.length c0_2) := (blk_cell BK106.out 2).trans rfl
                        have hcz57_3 : wr.cell? ⟨gb106, 3, none⟩ = some (.slice A0_3 l0_3.length c0_3) := (blk_cell BK106.out 3).trans rfl
                        have hfz57_0 := blk_frozen BK106.out 0
                        have hfz57_1 := blk_frozen BK106.out 1
                        have hfz57_2 := blk_frozen BK106.out 2
                        have hfz57_3 := blk_frozen BK106.out 3
                        go_wp2
                        go_loopg [100] k4 (fun kq v100 w' => ∃ (x100_5 : Int), v100 = .int .i64 x100_5 ∧ Aside0 (spec_isPlaced.l1 kq a1 l0_3 (l0_3.length : Int) x100_5 = some r) ∧ Aside0 (kq ≤ k4) ∧ Aside0 (w'.heap[gb106]? = some (.cells #[.string a0_0, .string a0_1, (.slice A0_2 l0_2.length c0_2), (.slice A0_3 l0_3.length c0_3)] 25 (0, 0))) ∧ Aside0 (w'.heap[gb113]? = some (.cells #[.int .i64 t107, .int .i64 t108, .bool t109, .bool t110, .bool t111] 38 (0, 0))) ∧ Aside0 (Below w.heap.size w w'))
                        case atStart => exact ⟨(0), (by first | rfl | (simp; done) | (simp [*]; done)), H', ⟨Nat.le_refl _⟩, ⟨by (with_reducible repeat (first | refine blk_drewN ?_ _ | refine blk_drew ?_ | refine blk_alloc ?_ _)); exact BK106.out⟩, ⟨by (with_reducible repeat (first | refine blk_drewN ?_ _ | refine blk_drew ?_ | refine blk_alloc ?_ _)); exact BK113.out⟩, ⟨by repeat (first | (with_reducible first | exact HB.out | apply below_alloc | apply pw_below_drewN | apply below_drew1 | refine below_set ?_ GE106.out | refine below_set ?_ GE113.out) | exact HB.out)⟩⟩
                        case round =>
                          clear H'
                          try clear c1
                          try clear p1
                          try clear q1
                          try clear hx1
                          try clear c2
                          try clear p2
                          try clear c3
                          try clear c4
                          try clear c5
                          try clear p6
                          try clear c9
                          try clear c10
                          try clear c11
                          try clear p11
                          try clear q11
                          try clear hx11
                          try clear c12
                          try clear c12b0
                          try clear c13
                          try clear c13b0
                          try clear c13b1
                          try clear c14
                          try clear c14b0
                          try clear c15
                          try clear c18
                          try clear c18b0
                          try clear c19
                          try clear c20
                          try clear c23
                          try clear c26
                          try clear c29
                          try clear c32
                          try clear c34
                          try clear c34b0
                          try clear c34b1
                          try clear c35
                          try clear c37
                          try clear c37b0
                          try clear c37b1
                          try clear c38
                          try clear c40
                          try clear c43
                          try clear c43b0
                          try clear c43b1
                          try clear c43b2
                          try clear c44
                          try clear c46
                          try clear c48
                          try clear c49
                          try clear c51
                          try clear c51b0
                          try clear c52
                          try clear c52b0
                          try clear c53
                          try clear c53b0
                          try clear c54
                          try clear c54b0
                          try clear c55
                          try clear c55b0
                          try clear c56
                          try clear hcz10_0
                          try clear hcz10_1
                          try clear hcz10_2
                          try clear hcz10_3
                          try clear hcz10_4
                          try clear hcz16_0
                          try clear hcz16_1
                          try clear hcz16_2
                          try clear hcz16_3
                          try clear hcz17_0
                          try clear hcz17_1
                          try clear hcz17_2
                          try clear hcz17_3
                          try clear hcz17_4
                          try clear hcz21_0
                          try clear hcz21_1
                          try clear hcz21_2
                          try clear hcz21_3
                          try clear hcz22_0
                          try clear hcz22_1
                          try clear hcz22_2
                          try clear hcz22_3
                          try clear hcz22_4
                          try clear hcz24_0
                          try clear hcz24_1
                          try clear hcz24_2
                          try clear hcz24_3
                          try clear hcz25_0
                          try clear hcz25_1
                          try clear hcz25_2
                          try clear hcz25_3
                          try clear hcz25_4
                          try clear hcz27_0
                          try clear hcz27_1
                          try clear hcz27_2
                          try clear hcz27_3
                          try clear hcz28_0
                          try clear hcz28_1
                          try clear hcz28_2
                          try clear hcz28_3
                          try clear hcz28_4
                          try clear hcz30_0
                          try clear hcz30_1
                          try clear hcz30_2
                          try clear hcz30_3
                          try clear hcz31_0
                          try clear hcz31_1
                          try clear hcz31_2
                          try clear hcz31_3
                          try clear hcz31_4
                          try clear hcz36_0
                          try clear hcz36_1
                          try clear hcz36_2
                          try clear hcz36_3
                          try clear hcz39_0
                          try clear hcz39_1
                          try clear hcz39_2
                          try clear hcz39_3
                          try clear hcz41_0
                          try clear hcz41_1
                          try clear hcz41_2
                          try clear hcz41_3
                          try clear hcz45_0
                          try clear hcz45_1
                          try clear hcz45_2
                          try clear hcz45_3
                          try clear hcz47_0
                          try clear hcz47_1
                          try clear hcz47_2
                          try clear hcz47_3
                          try clear hcz50_0
                          try clear hcz50_1
                          try clear hcz50_2
                          try clear hcz50_3
                          try clear hcz57_0
                          try clear hcz57_1
                          try clear hcz57_2
                          try clear hcz57_3
                          try clear hcz6_0
                          try clear hcz6_1
                          try clear hcz6_2
                          try clear hcz6_3
                          try clear hfz10_0
                          try clear hfz10_1
                          try clear hfz10_2
                          try clear hfz10_3
                          try clear hfz10_4
                          try clear hfz16_0
                          try clear hfz16_1
                          try clear hfz16_2
                          try clear hfz16_3
                          try clear hfz17_0
                          try clear hfz17_1
                          try clear hfz17_2
                          try clear hfz17_3
                          try clear hfz17_4
                          try clear hfz21_0
                          try clear hfz21_1
                          try clear hfz21_2
                          try clear hfz21_3
                          try clear hfz22_0
                          try clear hfz22_1
                          try clear hfz22_2
                          try clear hfz22_3
                          try clear hfz22_4
                          try clear hfz24_0
                          try clear hfz24_1
                          try clear hfz24_2
                          try clear hfz24_3
                          try clear hfz25_0
                          try clear hfz25_1
                          try clear hfz25_2
                          try clear hfz25_3
                          try clear hfz25_4
                          try clear hfz27_0
                          try clear hfz27_1
                          try clear hfz27_2
                          try clear hfz27_3
                          try clear hfz28_0
                          try clear hfz28_1
                          try clear hfz28_2
                          try clear hfz28_3
                          try clear hfz28_4
                          try clear hfz30_0
                          try clear hfz30_1
                          try clear hfz30_2
                          try clear hfz30_3
                          try clear hfz31_0
                          try clear hfz31_1
                          try clear hfz31_2
                          try clear hfz31_3
                          try clear hfz31_4
                          try clear hfz36_0
                          try clear hfz36_1
                          try clear hfz36_2
                          try clear hfz36_3
                          try clear hfz39_0
                          try clear hfz39_1
                          try clear hfz39_2
                          try clear hfz39_3
                          try clear hfz41_0
                          try clear hfz41_1
                          try clear hfz41_2
                          try clear hfz41_3
                          try clear hfz45_0
                          try clear hfz45_1
                          try clear hfz45_2
                          try clear hfz45_3
                          try clear hfz47_0
                          try clear hfz47_1
                          try clear hfz47_2
                          try clear hfz47_3
                          try clear hfz50_0
                          try clear hfz50_1
                          try clear hfz50_2
                          try clear hfz50_3
                          try clear hfz57_0
                          try clear hfz57_1
                          try clear hfz57_2
                          try clear hfz57_3
                          try clear hfz6_0
                          try clear hfz6_1
                          try clear hfz6_2
                          try clear hfz6_3
                          try clear hx114_0
                          try clear p114
                          try clear p2
                          try clear q114
                          obtain ⟨x100_5, rfl, HA, HK5, BK106, BK113, HB⟩ := hrel
                          cases gk with
                          | zero => exact absurd HA.out (by simp [spec_isPlaced.l1])
                          | succ k5 =>
                            have H := HA.out
                            clear HA
                            simp only [spec_isPlaced.l1] at H
                            by_cases c58 : x100_5 < (l0_3.length : Int)
                            · rw [if_pos c58] at H
                              have c58b0 : decide (x100_5 < (l0_3.length : Int)) = true := decide_eq_true c58
                              clear c58
                              by_cases c59 : 0 ≤ x100_5
                              · rw [if_pos c59] at H
                                have c59b0 : decide (0 ≤ x100_5) = true := decide_eq_true c59
                                clear c59
                                by_cases c60 : x100_5 < (l0_3.length : Int)
                                · rw [if_pos c60] at H
                                  have c60b0 : decide (x100_5 < (l0_3.length : Int)) = true := decide_eq_true c60
                                  clear c60
                                  replace H := Option.bind_eq_some_iff.mp H
                                  obtain ⟨t117, A610, H⟩ := H
                                  replace H : (if t117 = true then (spec_isPlaced.l1 k5 a1 l0_3 (l0_3.length : Int) (wrap64 (x100_5 + 1))) else (some false)) = some r := H
                                  have A61 := Aside0.mk A610
                                  clear A610
                                  by_cases c62 : t117 = true
                                  · subst c62
                                    have H1 : (spec_isPlaced.l1 k5 a1 l0_3 (l0_3.length : Int) (wrap64 (x100_5 + 1))) = some r := by rw [if_pos rfl] at H; exact H
                                    clear H
                                    have H := H1
                                    clear H1
                                    have H' := Aside0.mk H
                                    clear H
                                    have p115 : 0 ≤ (x100_5 : Int) := of_decide_eq_true (by first | (with_reducible assumption) | assumption)
                                    have q115 : x100_5 < (l0_3.length : Int) := of_decide_eq_true (by first | (with_reducible assumption) | assumption)
                                    obtain ⟨ad115, A115_2, c115_2, A115_3, c115_3, e115, hx115_0, hx115_1, hx115_2, hx115_3, hl115_2, hi115_2, hl115_3, hi115_3⟩ := at_T25 HR0_3.out x100_5 p115 q115
                                    cases e115
                                    replace hx115_0 := (HB.out.cell (World.block_lt_of_cell? w _ hx115_0)).trans hx115_0
                                    replace hx115_1 := (HB.out.cell (World.block_lt_of_cell? w _ hx115_1)).trans hx115_1
                                    replace hx115_2 := (HB.out.cell (World.block_lt_of_cell? w _ hx115_2)).trans hx115_2
                                    replace hx115_3 := (HB.out.cell (World.block_lt_of_cell? w _ hx115_3)).trans hx115_3
                                    have HR115_2 := Aside0.mk hi115_2
                                    have HC115_2 := Aside0.mk hl115_2
                                    clear hi115_2 hl115_2
                                    have HR115_3 := Aside0.mk hi115_3
                                    have HC115_3 := Aside0.mk hl115_3
                                    clear hi115_3 hl115_3
                                    replace p115 := eq_true p115
                                    replace q115 := eq_true q115
                                    go_wp2_with (first | ((with_reducible refine gate_dst (N := 11) rfl ?_); (try (refine gate_guard (by rfl) ?_; dsimp only)); refine box_event ?hg (N := 11) ?hd (cs := #[.string (⟨#[]⟩ : ByteArray), .string (⟨#[]⟩ : ByteArray), .slice none 0 0, .slice none 0 0]) (t := 25) ?hr ?_; (case hd => rfl); (case hg => rfl); (case hr => first | (go_simp; done) | (go_simp; rfl)); intro gb116 hg w63 hbox hb; have n0_ := Aside0.mk (blk_below (g := gb106) (o := .cells #[.string a0_0, .string a0_1, .slice A0_2 l0_2.length c0_2, .slice (some ad115) l0_3.length c0_3] 25 (0, 0)) (by (with_reducible repeat (first | refine blk_drewN ?_ _ | refine blk_drew ?_ | refine blk_alloc ?_ _)); exact BK106.out) hb); have n1_ := Aside0.mk (blk_below (g := gb113) (o := .cells #[.int .i64 t107, .int .i64 t108, .bool t109, .bool t110, .bool t111] 38 (0, 0)) (by (with_reducible repeat (first | refine blk_drewN ?_ _ | refine blk_drew ?_ | refine blk_alloc ?_ _)); exact BK113.out) hb); have n2_ := Aside0.mk (below_step (by repeat (first | (with_reducible first | exact HB.out | apply below_alloc | apply pw_below_drewN | apply below_drew1 | refine below_set ?_ GE106.out | refine below_set ?_ GE113.out) | exact HB.out)) hb); have n3_ := Aside0.mk (hbox); have n4_ := Aside0.mk ((by rw [hg]; exact (below_size (by repeat (first | (with_reducible first | exact HB.out | apply below_alloc | apply pw_below_drewN | apply below_drew1 | refine below_set ?_ GE106.out | refine below_set ?_ GE113.out) | exact HB.out))) : w.heap.size ≤ gb116)); have n5_ := Aside0.mk ((by rw [hg]; exact (below_size (by repeat (first | (with_reducible first | exact HB.out | apply below_alloc | apply pw_below_drewN | apply below_drew1 | refine below_set ?_ GE106.out | refine below_set ?_ GE113.out) | exact HB.out))) : w.heap.size ≤ gb116)); have n6_ := Aside0.mk ((by rw [hg]; exact Nat.ne_of_lt (blk_lt (g := gb106) (o := .cells #[.string a0_0, .string a0_1, .slice A0_2 l0_2.length c0_2, .slice (some ad115) l0_3.length c0_3] 25 (0, 0)) (by (with_reducible repeat (first | refine blk_drewN ?_ _ | refine blk_drew ?_ | refine blk_alloc ?_ _)); exact BK106.out)) : gb106 ≠ gb116)); have n7_ := Aside0.mk ((by rw [hg]; exact Nat.ne_of_gt (blk_lt (g := gb106) (o := .cells #[.string a0_0, .string a0_1, .slice A0_2 l0_2.length c0_2, .slice (some ad115) l0_3.length c0_3] 25 (0, 0)) (by (with_reducible repeat (first | refine blk_drewN ?_ _ | refine blk_drew ?_ | refine blk_alloc ?_ _)); exact BK106.out)) : gb116 ≠ gb106)); have n8_ := Aside0.mk ((by rw [hg]; exact Nat.ne_of_lt (blk_lt (g := gb113) (o := .cells #[.int .i64 t107, .int .i64 t108, .bool t109, .bool t110, .bool t111] 38 (0, 0)) (by (with_reducible repeat (first | refine blk_drewN ?_ _ | refine blk_drew ?_ | refine blk_alloc ?_ _)); exact BK113.out)) : gb113 ≠ gb116)); have n9_ := Aside0.mk ((by rw [hg]; exact Nat.ne_of_gt (blk_lt (g := gb113) (o := .cells #[.int .i64 t107, .int .i64 t108, .bool t109, .bool t110, .bool t111] 38 (0, 0)) (by (with_reducible repeat (first | refine blk_drewN ?_ _ | refine blk_drew ?_ | refine blk_alloc ?_ _)); exact BK113.out)) : gb116 ≠ gb113)); clear BK106; clear BK113; clear HB; have BK106 := n0_; have BK113 := n1_; have HB := n2_; have BK116 := n3_; have GW116 := n4_; have GE116 := n5_; have NB106_116 := n6_; have NB116_106 := n7_; have NB113_116 := n8_; have NB116_113 := n9_; clear n0_ n1_ n2_ n3_ n4_ n5_ n6_ n7_ n8_ n9_; clear hb hbox hg; have hnb64 := NB116_106.out; have hnc64 := NB106_116.out; have hnb65 := NB116_113.out; have hnc65 := NB113_116.out; have hcz66_0 : w63.cell? ⟨gb116, 0, none⟩ = some (.string (⟨#[]⟩ : ByteArray)) := (blk_cell BK116.out 0).trans rfl; have hcz66_1 : w63.cell? ⟨gb116, 1, none⟩ = some (.string (⟨#[]⟩ : ByteArray)) := (blk_cell BK116.out 1).trans rfl; have hcz66_2 : w63.cell? ⟨gb116, 2, none⟩ = some (.slice none 0 0) := (blk_cell BK116.out 2).trans rfl; have hcz66_3 : w63.cell? ⟨gb116, 3, none⟩ = some (.slice none 0 0) := (blk_cell BK116.out 3).trans rfl; have hfz66_0 := blk_frozen BK116.out 0; have hfz66_1 := blk_frozen BK116.out 1; have hfz66_2 := blk_frozen BK116.out 2; have hfz66_3 := blk_frozen BK116.out 3) | ((with_reducible refine gate_callee (f := 10) rfl ?_); refine goesL_ (some 107) rfl rfl Tryz.func10 (by kernel_rfl) rfl #[.agg #[.string ((rd_T25 l0_3 x100_5).f0), .string ((rd_T25 l0_3 x100_5).f1), .slice A115_2 ((rd_T25 l0_3 x100_5).f2).length c115_2, .slice A115_3 ((rd_T25 l0_3 x100_5).f3).length c115_3], .int .i64 (wrap64 (a1 - 1))] rfl (by (try simp only [List.map_toArray, List.map_cons, List.map_nil]); first | done | rfl | (simp only [List.length_drop, List.length_take]; rfl)) ?_; (with_reducible refine (ih k5 (by have := HJ3.out; have := HJ32.out; have := HJ41.out; have := HK4.out; have := HK5.out; omega) ((rd_T25 l0_3 x100_5).f0) ((rd_T25 l0_3 x100_5).f1) _ _ ((rd_T25 l0_3 x100_5).f2) _ _ ((rd_T25 l0_3 x100_5).f3) (wrap64 (a1 - 1)) true _ ?side1 ?side2 ?side3 ?side4 A61.out).mono ?_); (case side1 => exact Kd.C_below HR115_2.out (by repeat (first | (with_reducible first | exact HB.out | apply below_alloc | apply pw_below_drewN | apply below_drew1 | refine below_set ?_ GE106.out | refine below_set ?_ GE113.out | refine below_set ?_ GE116.out) | exact HB.out))); (case side2 => exact HC115_2.out); (case side3 => exact Kd.C_below HR115_3.out (by repeat (first | (with_reducible first | exact HB.out | apply below_alloc | apply pw_below_drewN | apply below_drew1 | refine below_set ?_ GE106.out | refine below_set ?_ GE113.out | refine below_set ?_ GE116.out) | exact HB.out))); (case side4 => exact HC115_3.out); rintro e w67 ⟨rfl, hb⟩; refine ⟨_, rfl, ?_⟩; have n0_ := Aside0.mk (blk_below (g := gb106) (o := .cells #[.string a0_0, .string a0_1, .slice A0_2 l0_2.length c0_2, .slice (some ad115) l0_3.length c0_3] 25 (0, 0)) (by (with_reducible repeat (first | refine blk_drewN ?_ _ | refine blk_drew ?_ | refine blk_alloc ?_ _)); refine blk_far ?_ NB106_116.out _; (with_reducible repeat (first | refine blk_drewN ?_ _ | refine blk_drew ?_ | refine blk_alloc ?_ _)); refine blk_far ?_ NB106_116.out _; (with_reducible repeat (first | refine blk_drewN ?_ _ | refine blk_drew ?_ | refine blk_alloc ?_ _)); refine blk_far ?_ NB106_116.out _; (with_reducible repeat (first | refine blk_drewN ?_ _ | refine blk_drew ?_ | refine blk_alloc ?_ _)); refine blk_far ?_ NB106_116.out _; (with_reducible repeat (first | refine blk_drewN ?_ _ | refine blk_drew ?_ | refine blk_alloc ?_ _)); exact BK106.out) hb); have n1_ := Aside0.mk (blk_below (g := gb113) (o := .cells #[.int .i64 t107, .int .i64 t108, .bool t109, .bool t110, .bool t111] 38 (0, 0)) (by (with_reducible repeat (first | refine blk_drewN ?_ _ | refine blk_drew ?_ | refine blk_alloc ?_ _)); refine blk_far ?_ NB113_116.out _; (with_reducible repeat (first | refine blk_drewN ?_ _ | refine blk_drew ?_ | refine blk_alloc ?_ _)); refine blk_far ?_ NB113_116.out _; (with_reducible repeat (first | refine blk_drewN ?_ _ | refine blk_drew ?_ | refine blk_alloc ?_ _)); refine blk_far ?_ NB113_116.out _; (with_reducible repeat (first | refine blk_drewN ?_ _ | refine blk_drew ?_ | refine blk_alloc ?_ _)); refine blk_far ?_ NB113_116.out _; (with_reducible repeat (first | refine blk_drewN ?_ _ | refine blk_drew ?_ | refine blk_alloc ?_ _)); exact BK113.out) hb); have n2_ := Aside0.mk (blk_below (g := gb116) (o := .cells #[.string ((rd_T25 l0_3 x100_5).f0), .string ((rd_T25 l0_3 x100_5).f1), .slice A115_2 ((rd_T25 l0_3 x100_5).f2).length c115_2, .slice A115_3 ((rd_T25 l0_3 x100_5).f3).length c115_3] 25 (0, 0)) (by (with_reducible repeat (first | refine blk_drewN ?_ _ | refine blk_drew ?_ | refine blk_alloc ?_ _)); refine blk_put (cs := #[.string ((rd_T25 l0_3 x100_5).f0), .string ((rd_T25 l0_3 x100_5).f1), .slice A115_2 ((rd_T25 l0_3 x100_5).f2).length c115_2, .slice none 0 0]) ?_ 3 _ rfl; (with_reducible repeat (first | refine blk_drewN ?_ _ | refine blk_drew ?_ | refine blk_alloc ?_ _)); refine blk_put (cs := #[.string ((rd_T25 l0_3 x100_5).f0), .string ((rd_T25 l0_3 x100_5).f1), .slice none 0 0, .slice none 0 0]) ?_ 2 _ rfl; (with_reducible repeat (first | refine blk_drewN ?_ _ | refine blk_drew ?_ | refine blk_alloc ?_ _)); refine blk_put (cs := #[.string ((rd_T25 l0_3 x100_5).f0), .string (⟨#[]⟩ : ByteArray), .slice none 0 0, .slice none 0 0]) ?_ 1 _ rfl; (with_reducible repeat (first | refine blk_drewN ?_ _ | refine blk_drew ?_ | refine blk_alloc ?_ _)); refine blk_put (cs := #[.string (⟨#[]⟩ : ByteArray), .string (⟨#[]⟩ : ByteArray), .slice none 0 0, .slice none 0 0]) ?_ 0 _ rfl; (with_reducible repeat (first | refine blk_drewN ?_ _ | refine blk_drew ?_ | refine blk_alloc ?_ _)); exact BK116.out) hb); have n3_ := Aside0.mk (below_step (by repeat (first | (with_reducible first | exact HB.out | apply below_alloc | apply pw_below_drewN | apply below_drew1 | refine below_set ?_ GE106.out | refine below_set ?_ GE113.out | refine below_set ?_ GE116.out) | exact HB.out)) hb); clear BK106; clear BK113; clear BK116; clear HB; have BK106 := n0_; have BK113 := n1_; have BK116 := n2_; have HB := n3_; clear n0_ n1_ n2_ n3_; (try clear hb); (try clear hb2); (try clear hk); (try clear hi)))
                                    go_roundg k5
                                    case measure => have := HJ3.out; have := HJ32.out; have := HJ41.out; have := HK4.out; have := HK5.out; omega
                                    case rel => exact ⟨(wrap64 (x100_5 + 1)), (by first | rfl | (simp; done) | (simp [*]; done)), H', ⟨by have := HJ3.out; have := HJ32.out; have := HJ41.out; have := HK4.out; have := HK5.out; omega⟩, ⟨by (with_reducible repeat (first | refine blk_drewN ?_ _ | refine blk_drew ?_ | refine blk_alloc ?_ _)); exact BK106.out⟩, ⟨by (with_reducible repeat (first | refine blk_drewN ?_ _ | refine blk_drew ?_ | refine blk_alloc ?_ _)); exact BK113.out⟩, ⟨by repeat (first | (with_reducible first | exact HB.out | apply below_alloc | apply pw_below_drewN | apply below_drew1 | refine below_set ?_ GE106.out | refine below_set ?_ GE113.out | refine below_set ?_ GE116.out) | exact HB.out)⟩⟩
                                  · replace c62 := Bool.eq_false_iff.mpr c62
                                    subst c62
                                    have H1 : (some false) = some r := by rw [if_neg (show ¬ (false = true) by decide)] at H; exact H
                                    clear H
                                    have H := H1
                                    clear H1
                                    obtain rfl := Option.some.inj H
                                    have p115 : 0 ≤ (x100_5 : Int) := of_decide_eq_true (by first | (with_reducible assumption) | assumption)
                                    have q115 : x100_5 < (l0_3.length : Int) := of_decide_eq_true (by first | (with_reducible assumption) | assumption)
                                    obtain ⟨ad115, A115_2, c115_2, A115_3, c115_3, e115, hx115_0, hx115_1, hx115_2, hx115_3, hl115_2, hi115_2, hl115_3, hi115_3⟩ := at_T25 HR0_3.out x100_5 p115 q115
                                    cases e115
                                    replace hx115_0 := (HB.out.cell (World.block_lt_of_cell? w _ hx115_0)).trans hx115_0
                                    replace hx115_1 := (HB.out.cell (World.block_lt_of_cell? w _ hx115_1)).trans hx115_1
                                    replace hx115_2 := (HB.out.cell (World.block_lt_of_cell? w _ hx115_2)).trans hx115_2
                                    replace hx115_3 := (HB.out.cell (World.block_lt_of_cell? w _ hx115_3)).trans hx115_3
                                    have HR115_2 := Aside0.mk hi115_2
                                    have HC115_2 := Aside0.mk hl115_2
                                    clear hi115_2 hl115_2
                                    have HR115_3 := Aside0.mk hi115_3
                                    have HC115_3 := Aside0.mk hl115_3
                                    clear hi115_3 hl115_3
                                    replace p115 := eq_true p115
                                    replace q115 := eq_true q115
                                    go_wp2_with (first | ((with_reducible refine gate_dst (N := 11) rfl ?_); (try (refine gate_guard (by rfl) ?_; dsimp only)); refine box_event ?hg (N := 11) ?hd (cs := #[.string (⟨#[]⟩ : ByteArray), .string (⟨#[]⟩ : ByteArray), .slice none 0 0, .slice none 0 0]) (t := 25) ?hr ?_; (case hd => rfl); (case hg => rfl); (case hr => first | (go_simp; done) | (go_simp; rfl)); intro gb116 hg w68 hbox hb; have n0_ := Aside0.mk (blk_below (g := gb106) (o := .cells #[.string a0_0, .string a0_1, .slice A0_2 l0_2.length c0_2, .slice (some ad115) l0_3.length c0_3] 25 (0, 0)) (by (with_reducible repeat (first | refine blk_drewN ?_ _ | refine blk_drew ?_ | refine blk_alloc ?_ _)); exact BK106.out) hb); have n1_ := Aside0.mk (blk_below (g := gb113) (o := .cells #[.int .i64 t107, .int .i64 t108, .bool t109, .bool t110, .bool t111] 38 (0, 0)) (by (with_reducible repeat (first | refine blk_drewN ?_ _ | refine blk_drew ?_ | refine blk_alloc ?_ _)); exact BK113.out) hb); have n2_ := Aside0.mk (below_step (by repeat (first | (with_reducible first | exact HB.out | apply below_alloc | apply pw_below_drewN | apply below_drew1 | refine below_set ?_ GE106.out | refine below_set ?_ GE113.out) | exact HB.out)) hb); have n3_ := Aside0.mk (hbox); have n4_ := Aside0.mk ((by rw [hg]; exact (below_size (by repeat (first | (with_reducible first | exact HB.out | apply below_alloc | apply pw_below_drewN | apply below_drew1 | refine below_set ?_ GE106.out | refine below_set ?_ GE113.out) | exact HB.out))) : w.heap.size ≤ gb116)); have n5_ := Aside0.mk ((by rw [hg]; exact (below_size (by repeat (first | (with_reducible first | exact HB.out | apply below_alloc | apply pw_below_drewN | apply below_drew1 | refine below_set ?_ GE106.out | refine below_set ?_ GE113.out) | exact HB.out))) : w.heap.size ≤ gb116)); have n6_ := Aside0.mk ((by rw [hg]; exact Nat.ne_of_lt (blk_lt (g := gb106) (o := .cells #[.string a0_0, .string a0_1, .slice A0_2 l0_2.length c0_2, .slice (some ad115) l0_3.length c0_3] 25 (0, 0)) (by (with_reducible repeat (first | refine blk_drewN ?_ _ | refine blk_drew ?_ | refine blk_alloc ?_ _)); exact BK106.out)) : gb106 ≠ gb116)); have n7_ := Aside0.mk ((by rw [hg]; exact Nat.ne_of_gt (blk_lt (g := gb106) (o := .cells #[.string a0_0, .string a0_1, .slice A0_2 l0_2.length c0_2, .slice (some ad115) l0_3.length c0_3] 25 (0, 0)) (by (with_reducible repeat (first | refine blk_drewN ?_ _ | refine blk_drew ?_ | refine blk_alloc ?_ _)); exact BK106.out)) : gb116 ≠ gb106)); have n8_ := Aside0.mk ((by rw [hg]; exact Nat.ne_of_lt (blk_lt (g := gb113) (o := .cells #[.int .i64 t107, .int .i64 t108, .bool t109, .bool t110, .bool t111] 38 (0, 0)) (by (with_reducible repeat (first | refine blk_drewN ?_ _ | refine blk_drew ?_ | refine blk_alloc ?_ _)); exact BK113.out)) : gb113 ≠ gb116)); have n9_ := Aside0.mk ((by rw [hg]; exact Nat.ne_of_gt (blk_lt (g := gb113) (o := .cells #[.int .i64 t107, .int .i64 t108, .bool t109, .bool t110, .bool t111] 38 (0, 0)) (by (with_reducible repeat (first | refine blk_drewN ?_ _ | refine blk_drew ?_ | refine blk_alloc ?_ _)); exact BK113.out)) : gb116 ≠ gb113)); clear BK106; clear BK113; clear HB; have BK106 := n0_; have BK113 := n1_; have HB := n2_; have BK116 := n3_; have GW116 := n4_; have GE116 := n5_; have NB106_116 := n6_; have NB116_106 := n7_; have NB113_116 := n8_; have NB116_113 := n9_; clear n0_ n1_ n2_ n3_ n4_ n5_ n6_ n7_ n8_ n9_; clear hb hbox hg; have hnb69 := NB116_106.out; have hnc69 := NB106_116.out; have hnb70 := NB116_113.out; have hnc70 := NB113_116.out; have hcz71_0 : w68.cell? ⟨gb116, 0, none⟩ = some (.string (⟨#[]⟩ : ByteArray)) := (blk_cell BK116.out 0).trans rfl; have hcz71_1 : w68.cell? ⟨gb116, 1, none⟩ = some (.string (⟨#[]⟩ : ByteArray)) := (blk_cell BK116.out 1).trans rfl; have hcz71_2 : w68.cell? ⟨gb116, 2, none⟩ = some (.slice none 0 0) := (blk_cell BK116.out 2).trans rfl; have hcz71_3 : w68.cell? ⟨gb116, 3, none⟩ = some (.slice none 0 0) := (blk_cell BK116.out 3).trans rfl; have hfz71_0 := blk_frozen BK116.out 0; have hfz71_1 := blk_frozen BK116.out 1; have hfz71_2 := blk_frozen BK116.out 2; have hfz71_3 := blk_frozen BK116.out 3) | ((with_reducible refine gate_callee (f := 10) rfl ?_); refine goesL_ (some 107) rfl rfl Tryz.func10 (by kernel_rfl) rfl #[.agg #[.string ((rd_T25 l0_3 x100_5).f0), .string ((rd_T25 l0_3 x100_5).f1), .slice A115_2 ((rd_T25 l0_3 x100_5).f2).length c115_2, .slice A115_3 ((rd_T25 l0_3 x100_5).f3).length c115_3], .int .i64 (wrap64 (a1 - 1))] rfl (by (try simp only [List.map_toArray, List.map_cons, List.map_nil]); first | done | rfl | (simp only [List.length_drop, List.length_take]; rfl)) ?_; (with_reducible refine (ih k5 (by have := HJ3.out; have := HJ32.out; have := HJ41.out; have := HK4.out; have := HK5.out; omega) ((rd_T25 l0_3 x100_5).f0) ((rd_T25 l0_3 x100_5).f1) _ _ ((rd_T25 l0_3 x100_5).f2) _ _ ((rd_T25 l0_3 x100_5).f3) (wrap64 (a1 - 1)) false _ ?side1 ?side2 ?side3 ?side4 A61.out).mono ?_); (case side1 => exact Kd.C_below HR115_2.out (by repeat (first | (with_reducible first | exact HB.out | apply below_alloc | apply pw_below_drewN | apply below_drew1 | refine below_set ?_ GE106.out | refine below_set ?_ GE113.out | refine below_set ?_ GE116.out) | exact HB.out))); (case side2 => exact HC115_2.out); (case side3 => exact Kd.C_below HR115_3.out (by repeat (first | (with_reducible first | exact HB.out | apply below_alloc | apply pw_below_drewN | apply below_drew1 | refine below_set ?_ GE106.out | refine below_set ?_ GE113.out | refine below_set ?_ GE116.out) | exact HB.out))); (case side4 => exact HC115_3.out); rintro e w72 ⟨rfl, hb⟩; refine ⟨_, rfl, ?_⟩; have n0_ := Aside0.mk (blk_below (g := gb106) (o := .cells #[.string a0_0, .string a0_1, .slice A0_2 l0_2.length c0_2, .slice (some ad115) l0_3.length c0_3] 25 (0, 0)) (by (with_reducible repeat (first | refine blk_drewN ?_ _ | refine blk_drew ?_ | refine blk_alloc ?_ _)); refine blk_far ?_ NB106_116.out _; (with_reducible repeat (first | refine blk_drewN ?_ _ | refine blk_drew ?_ | refine blk_alloc ?_ _)); refine blk_far ?_ NB106_116.out _; (with_reducible repeat (first | refine blk_drewN ?_ _ | refine blk_drew ?_ | refine blk_alloc ?_ _)); refine blk_far ?_ NB106_116.out _; (with_reducible repeat (first | refine blk_drewN ?_ _ | refine blk_drew ?_ | refine blk_alloc ?_ _)); refine blk_far ?_ NB106_116.out _; (with_reducible repeat (first | refine blk_drewN ?_ _ | refine blk_drew ?_ | refine blk_alloc ?_ _)); exact BK106.out) hb); have n1_ := Aside0.mk (blk_below (g := gb113) (o := .cells #[.int .i64 t107, .int .i64 t108, .bool t109, .bool t110, .bool t111] 38 (0, 0)) (by (with_reducible repeat (first | refine blk_drewN ?_ _ | refine blk_drew ?_ | refine blk_alloc ?_ _)); refine blk_far ?_ NB113_116.out _; (with_reducible repeat (first | refine blk_drewN ?_ _ | refine blk_drew ?_ | refine blk_alloc ?_ _)); refine blk_far ?_ NB113_116.out _; (with_reducible repeat (first | refine blk_drewN ?_ _ | refine blk_drew ?_ | refine blk_alloc ?_ _)); refine blk_far ?_ NB113_116.out _; (with_reducible repeat (first | refine blk_drewN ?_ _ | refine blk_drew ?_ | refine blk_alloc ?_ _)); refine blk_far ?_ NB113_116.out _; (with_reducible repeat (first | refine blk_drewN ?_ _ | refine blk_drew ?_ | refine blk_alloc ?_ _)); exact BK113.out) hb); have n2_ := Aside0.mk (blk_below (g := gb116) (o := .cells #[.string ((rd_T25 l0_3 x100_5).f0), .string ((rd_T25 l0_3 x100_5).f1), .slice A115_2 ((rd_T25 l0_3 x100_5).f2).length c115_2, .slice A115_3 ((rd_T25 l0_3 x100_5).f3).length c115_3] 25 (0, 0)) (by (with_reducible repeat (first | refine blk_drewN ?_ _ | refine blk_drew ?_ | refine blk_alloc ?_ _)); refine blk_put (cs := #[.string ((rd_T25 l0_3 x100_5).f0), .string ((rd_T25 l0_3 x100_5).f1), .slice A115_2 ((rd_T25 l0_3 x100_5).f2).length c115_2, .slice none 0 0]) ?_ 3 _ rfl; (with_reducible repeat (first | refine blk_drewN ?_ _ | refine blk_drew ?_ | refine blk_alloc ?_ _)); refine blk_put (cs := #[.string ((rd_T25 l0_3 x100_5).f0), .string ((rd_T25 l0_3 x100_5).f1), .slice none 0 0, .slice none 0 0]) ?_ 2 _ rfl; (with_reducible repeat (first | refine blk_drewN ?_ _ | refine blk_drew ?_ | refine blk_alloc ?_ _)); refine blk_put (cs := #[.string ((rd_T25 l0_3 x100_5).f0), .string (⟨#[]⟩ : ByteArray), .slice none 0 0, .slice none 0 0]) ?_ 1 _ rfl; (with_reducible repeat (first | refine blk_drewN ?_ _ | refine blk_drew ?_ | refine blk_alloc ?_ _)); refine blk_put (cs := #[.string (⟨#[]⟩ : ByteArray), .string (⟨#[]⟩ : ByteArray), .slice none 0 0, .slice none 0 0]) ?_ 0 _ rfl; (with_reducible repeat (first | refine blk_drewN ?_ _ | refine blk_drew ?_ | refine blk_alloc ?_ _)); exact BK116.out) hb); have n3_ := Aside0.mk (below_step (by repeat (first | (with_reducible first | exact HB.out | apply below_alloc | apply pw_below_drewN | apply below_drew1 | refine below_set ?_ GE106.out | refine below_set ?_ GE113.out | refine below_set ?_ GE116.out) | exact HB.out)) hb); clear BK106; clear BK113; clear BK116; clear HB; have BK106 := n0_; have BK113 := n1_; have BK116 := n2_; have HB := n3_; clear n0_ n1_ n2_ n3_; (try clear hb); (try clear hb2); (try clear hk); (try clear hi)))
                                    go_ret
                                    exact ⟨by first | rfl | (simp [errW_none, errW_some] <;> rfl) | (simp [*, errW_none, errW_some] <;> rfl), by repeat (first | (with_reducible first | exact HB.out | apply below_alloc | apply pw_below_drewN | apply below_drew1 | refine below_set ?_ GE106.out | refine below_set ?_ GE113.out | refine below_set ?_ GE116.out) | exact HB.out)⟩
                                · rw [if_neg c60] at H
                                  exact absurd H (by simp)
                              · rw [if_neg c59] at H
                                exact absurd H (by simp)
                            · rw [if_neg c58] at H
                              have c58b0 : decide (x100_5 < (l0_3.length : Int)) = false := decide_eq_false c58
                              clear c58
                              obtain rfl := Option.some.inj H
                              go_wp2
                              go_ret
                              exact ⟨by first | rfl | (simp [errW_none, errW_some] <;> rfl) | (simp [*, errW_none, errW_some] <;> rfl), by repeat (first | (with_reducible first | exact HB.out | apply below_alloc | apply pw_below_drewN | apply below_drew1 | refine below_set ?_ GE106.out | refine below_set ?_ GE113.out) | exact HB.out)⟩

end Go.Proofs.YtbojpbfckgjgbaaGreat.A
