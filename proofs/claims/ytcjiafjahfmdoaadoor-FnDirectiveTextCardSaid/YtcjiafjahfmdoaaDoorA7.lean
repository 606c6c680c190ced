-- Written by a program of this session (gprint.py) out of the kit's print of the translation. Not trusted: Lean checks it.
import Derived.Test.YtcjiafjahfmdoaaDoorA0
import Derived.Test.YtcjiafjahfmdoaaDoorA3
import Derived.Test.YtcjiafjahfmdoaaDoorA5
import Derived.Test.YtcjiafjahfmdoaaDoorA6
namespace Go.Proofs.YtcjiafjahfmdoaaDoor.A
open Go.RowKit Go.Proofs.YtcjiafjahfmdoaaDoorW.PrintWords Go.Proofs.YtcjiafjahfmdoaaDoorW.PrintLast Go.Proofs.YtcjiafjahfmdoaaDoorW.PrintMore
attribute [local go_sem] max2_int min2_int max_two min_two max_three min_three max_four min_four   -- for this text's walks alone
set_option linter.unusedVariables false
set_option linter.unusedSimpArgs false

/-! ### spec_Directive: function 6 -/
mutual
def spec_Directive.j1 : Nat → Int → ByteArray → Int → Int → Option (ByteArray × ByteArray × ByteArray × Int × Int × Bool)
  | 0, _, _, _, _ => none
  | k + 1, x0, x6, x7, x8 => if 0 ≤ x7 then (if x7 ≤ (x6.size : Int) then (if 0 ≤ (wrap64 (x7 + 1)) then (if (wrap64 (x7 + 1)) ≤ x8 then (if x8 ≤ (x6.size : Int) then (spec_Directive.l1 k x0 x6 x8 (x6.extract 0 (x7 : Int).toNat) (x6.extract ((wrap64 (x7 + 1)) : Int).toNat (x8 : Int).toNat) (⟨#[]⟩ : ByteArray) x0 0) else (none)) else (none)) else (none)) else (none)) else (none)
def spec_Directive.l1 : Nat → Int → ByteArray → Int → ByteArray → ByteArray → ByteArray → Int → Int → Option (ByteArray × ByteArray × ByteArray × Int × Int × Bool)
  | 0, _, _, _, _, _, _, _, _ => none
  | k + 1, x0, x6, x8, x111000, x111001, x111002, x111003, x111004 => if x8 < (x6.size : Int) then (if 0 ≤ x8 then ((spec_isBlank.f (bt x6 x8)).bind fun t111 => (if t111 = true then (spec_Directive.l1 k x0 x6 (wrap64 (x8 + 1)) x111000 x111001 x111002 x111003 x111004) else (if x8 ≤ (x6.size : Int) then ((spec_trimEnd.f k (x6.extract (x8 : Int).toNat x6.size)).bind fun t112 => (some (x111000, x111001, t112, x111003, wrap64 ((wrap64 (x0 + x8)) + 2), true))) else (none)))) else (none)) else (if 0 ≤ x8 then (if x8 ≤ (x6.size : Int) then ((spec_trimEnd.f k (x6.extract (x8 : Int).toNat x6.size)).bind fun t113 => (some (x111000, x111001, t113, x111003, wrap64 ((wrap64 (x0 + x8)) + 2), true))) else (none)) else (none))
def spec_Directive.l0 : Nat → Int → ByteArray → Int → Int → Option (ByteArray × ByteArray × ByteArray × Int × Int × Bool)
  | 0, _, _, _, _ => none
  | k + 1, x0, x6, x7, x8 => if x8 < (x6.size : Int) then (if 0 ≤ x8 then ((spec_isBlank.f (bt x6 x8)).bind fun t109 => (if t109 = true then (spec_Directive.j1 k x0 x6 x7 x8) else (spec_Directive.l0 k x0 x6 x7 (wrap64 (x8 + 1))))) else (none)) else (spec_Directive.j1 k x0 x6 x7 x8)
end
def spec_Directive.f (k : Nat) (a0 : Int) (a1 : ByteArray) : Option (ByteArray × ByteArray × ByteArray × Int × Int × Bool) := (spec_begins.f a1 (⟨#[47, 47]⟩ : ByteArray)).bind fun t107 => (if t107 = true then (if 2 ≤ (a1.size : Int) then ((spec_colonOf.f k (a1.extract 2 a1.size)).bind fun t108 => (if t108 < 0 then (some ((⟨#[]⟩ : ByteArray), (⟨#[]⟩ : ByteArray), (⟨#[]⟩ : ByteArray), 0, 0, false)) else (spec_Directive.l0 k a0 (a1.extract 2 a1.size) t108 (wrap64 (t108 + 1))))) else (none)) else (some ((⟨#[]⟩ : ByteArray), (⟨#[]⟩ : ByteArray), (⟨#[]⟩ : ByteArray), 0, 0, false)))
theorem spec_Directive.mono_l : ∀ k, (∀ y0 y1 y2 y3, LeO (spec_Directive.j1 k y0 y1 y2 y3) (spec_Directive.j1 (k + 1) y0 y1 y2 y3)) ∧ (∀ y0 y1 y2 y3 y4 y5 y6 y7, LeO (spec_Directive.l1 k y0 y1 y2 y3 y4 y5 y6 y7) (spec_Directive.l1 (k + 1) y0 y1 y2 y3 y4 y5 y6 y7)) ∧ (∀ y0 y1 y2 y3, LeO (spec_Directive.l0 k y0 y1 y2 y3) (spec_Directive.l0 (k + 1) y0 y1 y2 y3))
  | 0 => ⟨fun _ _ _ _ r h => by simp [spec_Directive.j1] at h, fun _ _ _ _ _ _ _ _ r h => by simp [spec_Directive.l1] at h, fun _ _ _ _ r h => by simp [spec_Directive.l0] at h⟩
  | k + 1 => by
    obtain ⟨ih0, ih1, ih2⟩ := spec_Directive.mono_l k
    refine ⟨?_, ?_, ?_⟩
    · intro y0 y1 y2 y3
      unfold spec_Directive.j1
      repeat' first
      | (with_reducible exact ih0 _ _ _ _)
      | (with_reducible exact ih1 _ _ _ _ _ _ _ _)
      | (with_reducible exact ih2 _ _ _ _)
      | (with_reducible exact spec_colonOf.mono _ _)
      | (with_reducible exact spec_trimEnd.mono _ _)
      | (with_reducible exact LeO.refl _)
      | (with_reducible exact LeO.none _)
      | (with_reducible refine LeO.ite ?_ ?_)
      | (with_reducible refine LeO.bind ?_ (fun _ => ?_))
      | exact ih0 _ _ _ _
      | exact ih1 _ _ _ _ _ _ _ _
      | exact ih2 _ _ _ _
      | exact spec_colonOf.mono _ _
      | exact spec_trimEnd.mono _ _
      | exact LeO.none _
      | refine LeO.ite ?_ ?_
      | refine LeO.bind ?_ (fun _ => ?_)
    · intro y0 y1 y2 y3 y4 y5 y6 y7
      unfold spec_Directive.l1
      repeat' first
      | (with_reducible exact ih0 _ _ _ _)
      | (with_reducible exact ih1 _ _ _ _ _ _ _ _)
      | (with_reducible exact ih2 _ _ _ _)
      | (with_reducible exact spec_colonOf.mono _ _)
      | (with_reducible exact spec_trimEnd.mono _ _)
      | (with_reducible exact LeO.refl _)
      | (with_reducible exact LeO.none _)
      | (with_reducible refine LeO.ite ?_ ?_)
      | (with_reducible refine LeO.bind ?_ (fun _ => ?_))
      | exact ih0 _ _ _ _
      | exact ih1 _ _ _ _ _ _ _ _
      | exact ih2 _ _ _ _
      | exact spec_colonOf.mono _ _
      | exact spec_trimEnd.mono _ _
      | exact LeO.none _
      | refine LeO.ite ?_ ?_
      | refine LeO.bind ?_ (fun _ => ?_)
    · intro y0 y1 y2 y3
      unfold spec_Directive.l0
      repeat' first
      | (with_reducible exact ih0 _ _ _ _)
      | (with_reducible exact ih1 _ _ _ _ _ _ _ _)
      | (with_reducible exact ih2 _ _ _ _)
      | (with_reducible exact spec_colonOf.mono _ _)
      | (with_reducible exact spec_trimEnd.mono _ _)
      | (with_reducible exact LeO.refl _)
      | (with_reducible exact LeO.none _)
      | (with_reducible refine LeO.ite ?_ ?_)
      | (with_reducible refine LeO.bind ?_ (fun _ => ?_))
      | exact ih0 _ _ _ _
      | exact ih1 _ _ _ _ _ _ _ _
      | exact ih2 _ _ _ _
      | exact spec_colonOf.mono _ _
      | exact spec_trimEnd.mono _ _
      | exact LeO.none _
      | refine LeO.ite ?_ ?_
      | refine LeO.bind ?_ (fun _ => ?_)
theorem spec_Directive.mono : ∀ a0 a1 k, LeO (spec_Directive.f k a0 a1) (spec_Directive.f (k + 1) a0 a1) := by
  intro a0 a1 k
  obtain ⟨ih0, ih1, ih2⟩ := spec_Directive.mono_l k
  unfold spec_Directive.f
  repeat' first
      | (with_reducible exact ih0 _ _ _ _)
      | (with_reducible exact ih1 _ _ _ _ _ _ _ _)
      | (with_reducible exact ih2 _ _ _ _)
      | (with_reducible exact spec_colonOf.mono _ _)
      | (with_reducible exact spec_trimEnd.mono _ _)
      | (with_reducible exact LeO.refl _)
      | (with_reducible exact LeO.none _)
      | (with_reducible refine LeO.ite ?_ ?_)
      | (with_reducible refine LeO.bind ?_ (fun _ => ?_))
      | exact ih0 _ _ _ _
      | exact ih1 _ _ _ _ _ _ _ _
      | exact ih2 _ _ _ _
      | exact spec_colonOf.mono _ _
      | exact spec_trimEnd.mono _ _
      | exact LeO.none _
      | refine LeO.ite ?_ ?_
      | refine LeO.bind ?_ (fun _ => ?_)
def spec_Directive.T10 : Bool × List (List Nat × List Nat) := (true, [([], []), ([], []), ([0, 1], [0, 1]), ([], []), ([], []), ([4], [4]), ([], []), ([3, 5, 6], [3, 5, 6]), ([], []), ([2, 7, 8], [2, 7, 8]), ([], []), ([10, 9, 0, 1, 2, 3, 4, 5, 6, 7, 8, 9, 10], [9, 10])])
def spec_Directive.B10 : List Nat := [0, 0, 3, 0, 0, 16, 0, 120, 0, 511, 0, 2047]
theorem spec_Directive.tab10 : rtab .any (opsOf Tryd.f6 10) = spec_Directive.T10 := by kernel_rfl
theorem spec_Directive.bits10 : waitsOk spec_Directive.T10.2 spec_Directive.B10 = true := by kernel_rfl
set_option maxHeartbeats 8000000 in
set_option maxRecDepth 100000 in
theorem spec_Directive.calls (k : Nat) (a0 : Int) (a1 : ByteArray) (r1 : ByteArray) (r2 : ByteArray) (r3 : ByteArray) (r4 : Int) (r5 : Int) (r6 : Bool) (w : World) (h : spec_Directive.f k a0 a1 = some (r1, r2, r3, r4, r5, r6)) :
    Calls Tryd.prog 6 #[.int .i64 a0, .string a1] w fun e w' => e = .returned (.tuple #[.agg #[.string r1, .string r2, .string r3, .int .i64 r4, .int .i64 r5], .bool r6]) ∧ Below w.heap.size w w' := by
  have hu24 := Tryd.underlying24
  have HB := Aside0.mk (Below.refl w.heap.size w)
  have H : ((spec_begins.f a1 (⟨#[47, 47]⟩ : ByteArray)).bind fun t107 => (if t107 = true then (if 2 ≤ (a1.size : Int) then ((spec_colonOf.f k (a1.extract 2 a1.size)).bind fun t108 => (if t108 < 0 then (some ((⟨#[]⟩ : ByteArray), (⟨#[]⟩ : ByteArray), (⟨#[]⟩ : ByteArray), 0, 0, false)) else (spec_Directive.l0 k a0 (a1.extract 2 a1.size) t108 (wrap64 (t108 + 1))))) else (none)) else (some ((⟨#[]⟩ : ByteArray), (⟨#[]⟩ : ByteArray), (⟨#[]⟩ : ByteArray), 0, 0, false)))) = some (r1, r2, r3, r4, r5, r6) := h
  clear h
  replace H := Option.bind_eq_some_iff.mp H
  obtain ⟨t107, A30, H⟩ := H
  replace H : (if t107 = true then (if 2 ≤ (a1.size : Int) then ((spec_colonOf.f k (a1.extract 2 a1.size)).bind fun t108 => (if t108 < 0 then (some ((⟨#[]⟩ : ByteArray), (⟨#[]⟩ : ByteArray), (⟨#[]⟩ : ByteArray), 0, 0, false)) else (spec_Directive.l0 k a0 (a1.extract 2 a1.size) t108 (wrap64 (t108 + 1))))) else (none)) else (some ((⟨#[]⟩ : ByteArray), (⟨#[]⟩ : ByteArray), (⟨#[]⟩ : ByteArray), 0, 0, false))) = some (r1, r2, r3, r4, r5, r6) := H
  have A3 := Aside0.mk A30
  clear A30
  by_cases c4 : t107 = true
  · subst c4
    have H1 : (if 2 ≤ (a1.size : Int) then ((spec_colonOf.f k (a1.extract 2 a1.size)).bind fun t108 => (if t108 < 0 then (some ((⟨#[]⟩ : ByteArray), (⟨#[]⟩ : ByteArray), (⟨#[]⟩ : ByteArray), 0, 0, false)) else (spec_Directive.l0 k a0 (a1.extract 2 a1.size) t108 (wrap64 (t108 + 1))))) else (none)) = some (r1, r2, r3, r4, r5, r6) := by rw [if_pos rfl] at H; exact H
    clear H
    have H := H1
    clear H1
    by_cases c5 : 2 ≤ (a1.size : Int)
    · rw [if_pos c5] at H
      have c5b0 := eq_true c5
      have c5b1 : decide (2 ≤ (a1.size : Int)) = true := decide_eq_true c5
      clear c5
      obtain ⟨rs, hrs⟩ : ∃ rs, a1.extract 2 a1.size = rs := ⟨_, rfl⟩
      rw [hrs] at H
      replace H := Option.bind_eq_some_iff.mp H
      obtain ⟨t108, A60, H⟩ := H
      replace H : (if t108 < 0 then (some ((⟨#[]⟩ : ByteArray), (⟨#[]⟩ : ByteArray), (⟨#[]⟩ : ByteArray), 0, 0, false)) else (spec_Directive.l0 k a0 rs t108 (wrap64 (t108 + 1)))) = some (r1, r2, r3, r4, r5, r6) := H
      have A6 := Aside0.mk A60
      clear A60
      by_cases c7 : t108 < 0
      · rw [if_pos c7] at H
        have c7b0 : decide (t108 < 0) = true := decide_eq_true c7
        clear c7
        simp only [Option.some.injEq, Prod.mk.injEq] at H
        obtain ⟨rfl, rfl, rfl, rfl, rfl, rfl⟩ := H
        go_enter Tryd.func6, Tryd.ntmps6
        go_wp2_with (first | ((with_reducible refine gate_dst (N := 4) rfl ?_); refine box_event ?hg (N := 4) ?hd (cs := #[.string (⟨#[]⟩ : ByteArray), .string (⟨#[]⟩ : ByteArray), .string (⟨#[]⟩ : ByteArray), .int .i64 0, .int .i64 0]) (t := 24) ?hr ?_; (case hd => rfl); (case hg => rfl); (case hr => first | (go_simp; done) | (go_simp; rfl)); intro gb106 hg w8 hbox hb; have n0_ := Aside0.mk (below_step (by repeat (first | (with_reducible first | exact HB.out | apply below_alloc | apply pw_below_drewN | apply below_drew1) | exact HB.out)) hb); have n1_ := Aside0.mk (hbox); have n2_ := Aside0.mk ((by rw [hg]; exact (below_size (by repeat (first | (with_reducible first | exact HB.out | apply below_alloc | apply pw_below_drewN | apply below_drew1) | exact HB.out))) : w.heap.size ≤ gb106)); have n3_ := Aside0.mk ((by rw [hg]; exact (below_size (by repeat (first | (with_reducible first | exact HB.out | apply below_alloc | apply pw_below_drewN | apply below_drew1) | exact HB.out))) : w.heap.size ≤ gb106)); clear HB; have HB := n0_; have BK106 := n1_; have GW106 := n2_; have GE106 := n3_; clear n0_ n1_ n2_ n3_; clear hb hbox hg) | ((with_reducible refine gate_callee (f := 12) rfl ?_); refine goesL_ (some 11) rfl rfl Tryd.func12 (by kernel_rfl) rfl #[.string a1, .string (⟨#[47, 47]⟩ : ByteArray)] rfl (by (try simp only [List.map_toArray, List.map_cons, List.map_nil]); first | done | rfl | (simp only [List.length_drop, List.length_take]; rfl)) ?_; (with_reducible refine (spec_begins.calls a1 (⟨#[47, 47]⟩ : ByteArray) true _ A3.out).mono ?_); rintro e w' ⟨rfl, ⟨nd, rfl⟩⟩; refine ⟨_, rfl, ?_⟩; (try (rw [drewN_self w8]; generalize hq_ : World.drewN w8 _ = w8; have n0_ : Aside0 (w8.heap[gb106]? = some (.cells #[.string (⟨#[]⟩ : ByteArray), .string (⟨#[]⟩ : ByteArray), .string (⟨#[]⟩ : ByteArray), .int .i64 0, .int .i64 0] 24 (0, 0))) := ⟨by rw [← hq_]; exact (by (with_reducible repeat (first | refine blk_drewN ?_ _ | refine blk_drew ?_ | refine blk_alloc ?_ _)); exact BK106.out)⟩; have n1_ : Aside0 (Below w.heap.size w w8) := ⟨by rw [← hq_]; exact (by repeat (first | (with_reducible first | exact HB.out | apply below_alloc | apply pw_below_drewN | apply below_drew1 | refine below_set ?_ GE106.out) | exact HB.out))⟩; clear BK106 HB hq_; have BK106 := n0_; have HB := n1_; clear n0_ n1_))) | ((with_reducible refine gate_callee (f := 13) rfl ?_); refine goesL_ (some 17) rfl rfl Tryd.func13 (by kernel_rfl) rfl #[.string rs] rfl (by (try simp only [List.map_toArray, List.map_cons, List.map_nil]); first | done | rfl | (simp only [List.length_drop, List.length_take]; rfl)) ?_; (with_reducible refine (spec_colonOf.calls k rs t108 _ A6.out).mono ?_); rintro e w' ⟨rfl, ⟨nd, rfl⟩⟩; refine ⟨_, rfl, ?_⟩; (try (rw [drewN_self w8]; generalize hq_ : World.drewN w8 _ = w8; have n0_ : Aside0 (w8.heap[gb106]? = some (.cells #[.string (⟨#[]⟩ : ByteArray), .string (⟨#[]⟩ : ByteArray), .string (⟨#[]⟩ : ByteArray), .int .i64 0, .int .i64 0] 24 (0, 0))) := ⟨by rw [← hq_]; exact (by (with_reducible repeat (first | refine blk_drewN ?_ _ | refine blk_drew ?_ | refine blk_alloc ?_ _)); exact BK106.out)⟩; have n1_ : Aside0 (Below w.heap.size w w8) := ⟨by rw [← hq_]; exact (by repeat (first | (with_reducible first | exact HB.out | apply below_alloc | apply pw_below_drewN | apply below_drew1 | refine below_set ?_ GE106.out) | exact HB.out))⟩; clear BK106 HB hq_; have BK106 := n0_; have HB := n1_; clear n0_ n1_)); have hcz9_0 : w8.cell? ⟨gb106, 0, none⟩ = some (.string (⟨#[]⟩ : ByteArray)) := (blk_cell BK106.out 0).trans rfl; have hcz9_1 : w8.cell? ⟨gb106, 1, none⟩ = some (.string (⟨#[]⟩ : ByteArray)) := (blk_cell BK106.out 1).trans rfl; have hcz9_2 : w8.cell? ⟨gb106, 2, none⟩ = some (.string (⟨#[]⟩ : ByteArray)) := (blk_cell BK106.out 2).trans rfl; have hcz9_3 : w8.cell? ⟨gb106, 3, none⟩ = some (.int .i64 0) := (blk_cell BK106.out 3).trans rfl; have hcz9_4 : w8.cell? ⟨gb106, 4, none⟩ = some (.int .i64 0) := (blk_cell BK106.out 4).trans rfl; have hfz9_0 := blk_frozen BK106.out 0; have hfz9_1 := blk_frozen BK106.out 1; have hfz9_2 := blk_frozen BK106.out 2; have hfz9_3 := blk_frozen BK106.out 3; have hfz9_4 := blk_frozen BK106.out 4))
        refine bodyPost_ret (results_ct rfl _ _ gb106 24 #[.string (⟨#[]⟩ : ByteArray), .string (⟨#[]⟩ : ByteArray), .string (⟨#[]⟩ : ByteArray), .int .i64 0, .int .i64 0] (0, 0) _ rfl (by (with_reducible repeat (first | refine blk_drewN ?_ _ | refine blk_drew ?_ | refine blk_alloc ?_ _)); refine blk_put (cs := #[.string (⟨#[]⟩ : ByteArray), .string (⟨#[]⟩ : ByteArray), .string (⟨#[]⟩ : ByteArray), .int .i64 0, .int .i64 0]) ?_ 4 _ rfl; (with_reducible repeat (first | refine blk_drewN ?_ _ | refine blk_drew ?_ | refine blk_alloc ?_ _)); refine blk_put (cs := #[.string (⟨#[]⟩ : ByteArray), .string (⟨#[]⟩ : ByteArray), .string (⟨#[]⟩ : ByteArray), .int .i64 0, .int .i64 0]) ?_ 3 _ rfl; (with_reducible repeat (first | refine blk_drewN ?_ _ | refine blk_drew ?_ | refine blk_alloc ?_ _)); refine blk_put (cs := #[.string (⟨#[]⟩ : ByteArray), .string (⟨#[]⟩ : ByteArray), .string (⟨#[]⟩ : ByteArray), .int .i64 0, .int .i64 0]) ?_ 2 _ rfl; (with_reducible repeat (first | refine blk_drewN ?_ _ | refine blk_drew ?_ | refine blk_alloc ?_ _)); refine blk_put (cs := #[.string (⟨#[]⟩ : ByteArray), .string (⟨#[]⟩ : ByteArray), .string (⟨#[]⟩ : ByteArray), .int .i64 0, .int .i64 0]) ?_ 1 _ rfl; (with_reducible repeat (first | refine blk_drewN ?_ _ | refine blk_drew ?_ | refine blk_alloc ?_ _)); refine blk_put (cs := #[.string (⟨#[]⟩ : ByteArray), .string (⟨#[]⟩ : ByteArray), .string (⟨#[]⟩ : ByteArray), .int .i64 0, .int .i64 0]) ?_ 0 _ rfl; (with_reducible repeat (first | refine blk_drewN ?_ _ | refine blk_drew ?_ | refine blk_alloc ?_ _)); exact BK106.out) Tryd.underlying24 rfl (by kernel_rfl)) rfl ?_
        exact ⟨by first | rfl | (simp [errW_none, errW_some] <;> rfl) | (simp [*, errW_none, errW_some] <;> rfl), by repeat (first | (with_reducible first | exact HB.out | apply below_alloc | apply pw_below_drewN | apply below_drew1 | refine below_set ?_ GE106.out) | exact HB.out)⟩
      · rw [if_neg c7] at H
        have c7b0 : decide (t108 < 0) = false := decide_eq_false c7
        clear c7
        have HC10 := Aside0.mk H
        clear H
        go_enter Tryd.func6, Tryd.ntmps6
        go_upto_block 0 with (first | ((with_reducible refine gate_dst (N := 4) rfl ?_); refine box_event ?hg (N := 4) ?hd (cs := #[.string (⟨#[]⟩ : ByteArray), .string (⟨#[]⟩ : ByteArray), .string (⟨#[]⟩ : ByteArray), .int .i64 0, .int .i64 0]) (t := 24) ?hr ?_; (case hd => rfl); (case hg => rfl); (case hr => first | (go_simp; done) | (go_simp; rfl)); intro gb106 hg w11 hbox hb; have n0_ := Aside0.mk (below_step (by repeat (first | (with_reducible first | exact HB.out | apply below_alloc | apply pw_below_drewN | apply below_drew1) | exact HB.out)) hb); have n1_ := Aside0.mk (hbox); have n2_ := Aside0.mk ((by rw [hg]; exact (below_size (by repeat (first | (with_reducible first | exact HB.out | apply below_alloc | apply pw_below_drewN | apply below_drew1) | exact HB.out))) : w.heap.size ≤ gb106)); have n3_ := Aside0.mk ((by rw [hg]; exact (below_size (by repeat (first | (with_reducible first | exact HB.out | apply below_alloc | apply pw_below_drewN | apply below_drew1) | exact HB.out))) : w.heap.size ≤ gb106)); clear HB; have HB := n0_; have BK106 := n1_; have GW106 := n2_; have GE106 := n3_; clear n0_ n1_ n2_ n3_; clear hb hbox hg) | ((with_reducible refine gate_callee (f := 12) rfl ?_); refine goesL_ (some 11) rfl rfl Tryd.func12 (by kernel_rfl) rfl #[.string a1, .string (⟨#[47, 47]⟩ : ByteArray)] rfl (by (try simp only [List.map_toArray, List.map_cons, List.map_nil]); first | done | rfl | (simp only [List.length_drop, List.length_take]; rfl)) ?_; (with_reducible refine (spec_begins.calls a1 (⟨#[47, 47]⟩ : ByteArray) true _ A3.out).mono ?_); rintro e w' ⟨rfl, ⟨nd, rfl⟩⟩; refine ⟨_, rfl, ?_⟩) | ((with_reducible refine gate_callee (f := 13) rfl ?_); refine goesL_ (some 17) rfl rfl Tryd.func13 (by kernel_rfl) rfl #[.string rs] rfl (by (try simp only [List.map_toArray, List.map_cons, List.map_nil]); first | done | rfl | (simp only [List.length_drop, List.length_take]; rfl)) ?_; (with_reducible refine (spec_colonOf.calls k rs t108 _ A6.out).mono ?_); rintro e w' ⟨rfl, ⟨nd, rfl⟩⟩; refine ⟨_, rfl, ?_⟩))
        (try simp only [Act.put, List.setIfInBounds_toArray, List.set_cons_zero, List.set_cons_succ])
        go_cut [8] (fun v8 wc => ∃ (kq : Nat) (x8_9 : Int), v8 = .int .i64 x8_9 ∧ Aside0 (spec_Directive.j1 kq a0 rs t108 x8_9 = some (r1, r2, r3, r4, r5, r6)) ∧ Aside0 (kq ≤ k) ∧ Aside0 (wc.heap[gb106]? = some (.cells #[.string (⟨#[]⟩ : ByteArray), .string (⟨#[]⟩ : ByteArray), .string (⟨#[]⟩ : ByteArray), .int .i64 0, .int .i64 0] 24 (0, 0))) ∧ Aside0 (Below w.heap.size w wc))
        case first =>
          have H := HC10.out
          clear HC10
          have H' := Aside0.mk H
          clear H
          go_wp2
          go_loopg [8] k (fun kq v8 w' => ∃ (x8_1 : Int), v8 = .int .i64 x8_1 ∧ Aside0 (spec_Directive.l0 kq a0 rs t108 x8_1 = some (r1, r2, r3, r4, r5, r6)) ∧ Aside0 (kq ≤ k) ∧ Aside0 (w'.heap[gb106]? = some (.cells #[.string (⟨#[]⟩ : ByteArray), .string (⟨#[]⟩ : ByteArray), .string (⟨#[]⟩ : ByteArray), .int .i64 0, .int .i64 0] 24 (0, 0))) ∧ Aside0 (Below w.heap.size w w'))
          case atStart => exact ⟨(wrap64 (t108 + 1)), (by first | rfl | (simp; done) | (simp [*]; done)), H', ⟨Nat.le_refl _⟩, ⟨by (with_reducible repeat (first | refine blk_drewN ?_ _ | refine blk_drew ?_ | refine blk_alloc ?_ _)); exact BK106.out⟩, ⟨by repeat (first | (with_reducible first | exact HB.out | apply below_alloc | apply pw_below_drewN | apply below_drew1 | refine below_set ?_ GE106.out) | exact HB.out)⟩⟩
          case round =>
            clear H'
            try clear c1
            try clear p2
            try clear c4
            try clear c5
            try clear c5b0
            try clear c5b1
            try clear c6
            try clear p6
            try clear c7
            try clear c7b0
            try clear hcz9_0
            try clear hcz9_1
            try clear hcz9_2
            try clear hcz9_3
            try clear hcz9_4
            try clear hfz9_0
            try clear hfz9_1
            try clear hfz9_2
            try clear hfz9_3
            try clear hfz9_4
            obtain ⟨x8_1, rfl, HA, HK1, BK106, HB⟩ := hrel
            cases gk with
            | zero => exact absurd HA.out (by simp [spec_Directive.l0])
            | succ k1 =>
              have H := HA.out
              clear HA
              simp only [spec_Directive.l0] at H
              by_cases c12 : x8_1 < (rs.size : Int)
              · rw [if_pos c12] at H
                have c12b0 : decide (x8_1 < (rs.size : Int)) = true := decide_eq_true c12
                clear c12
                (first | rw [c12b0] | (simp only [i64_w, i32_w]; rw [c12b0]) | skip)
                by_cases c13 : 0 ≤ x8_1
                · rw [if_pos c13] at H
                  have c13b0 : decide (0 ≤ x8_1) = true := decide_eq_true c13
                  clear c13
                  replace H := Option.bind_eq_some_iff.mp H
                  obtain ⟨t109, A150, H⟩ := H
                  replace H : (if t109 = true then (spec_Directive.j1 k1 a0 rs t108 x8_1) else (spec_Directive.l0 k1 a0 rs t108 (wrap64 (x8_1 + 1)))) = some (r1, r2, r3, r4, r5, r6) := H
                  have A15 := Aside0.mk A150
                  clear A150
                  by_cases c16 : t109 = true
                  · subst c16
                    have H1 : (spec_Directive.j1 k1 a0 rs t108 x8_1) = some (r1, r2, r3, r4, r5, r6) := by rw [if_pos rfl] at H; exact H
                    clear H
                    have H := H1
                    clear H1
                    have H' := Aside0.mk H
                    clear H
                    have p14 : 0 ≤ (x8_1 : Int) := of_decide_eq_true (by first | (with_reducible assumption) | assumption)
                    have q14 : x8_1 < (rs.size : Int) := of_decide_eq_true (by first | (with_reducible assumption) | assumption)
                    have hx14 := bt_at rs x8_1
                    replace p14 := eq_true p14
                    replace q14 := eq_true q14
                    go_wp2_with (first | (go_at_call 14; (with_reducible refine (spec_isBlank.calls (bt rs x8_1) true _ A15.out).mono ?_); rintro e w' ⟨rfl, ⟨nd, rfl⟩⟩))
                    go_meet
                    case rel => exact ⟨_, (x8_1), (by first | rfl | (simp; done) | (simp [*]; done)), H', ⟨by have := HK1.out; first | omega | exact Nat.le_refl _⟩, ⟨by (with_reducible repeat (first | refine blk_drewN ?_ _ | refine blk_drew ?_ | refine blk_alloc ?_ _)); exact BK106.out⟩, ⟨by repeat (first | (with_reducible first | exact HB.out | apply below_alloc | apply pw_below_drewN | apply below_drew1 | refine below_set ?_ GE106.out) | exact HB.out)⟩⟩
                  · replace c16 := Bool.eq_false_iff.mpr c16
                    subst c16
                    have H1 : (spec_Directive.l0 k1 a0 rs t108 (wrap64 (x8_1 + 1))) = some (r1, r2, r3, r4, r5, r6) := by rw [if_neg (show ¬ (false = true) by decide)] at H; exact H
                    clear H
                    have H := H1
                    clear H1
                    have H' := Aside0.mk H
                    clear H
                    have p14 : 0 ≤ (x8_1 : Int) := of_decide_eq_true (by first | (with_reducible assumption) | assumption)
                    have q14 : x8_1 < (rs.size : Int) := of_decide_eq_true (by first | (with_reducible assumption) | assumption)
                    have hx14 := bt_at rs x8_1
                    replace p14 := eq_true p14
                    replace q14 := eq_true q14
                    go_wp2_with (first | (go_at_call 14; (with_reducible refine (spec_isBlank.calls (bt rs x8_1) false _ A15.out).mono ?_); rintro e w' ⟨rfl, ⟨nd, rfl⟩⟩))
                    go_roundg k1
                    case measure => have := HK1.out; omega
                    case rel => exact ⟨(wrap64 (x8_1 + 1)), (by first | rfl | (simp; done) | (simp [*]; done)), H', ⟨by have := HK1.out; omega⟩, ⟨by (with_reducible repeat (first | refine blk_drewN ?_ _ | refine blk_drew ?_ | refine blk_alloc ?_ _)); exact BK106.out⟩, ⟨by repeat (first | (with_reducible first | exact HB.out | apply below_alloc | apply pw_below_drewN | apply below_drew1 | refine below_set ?_ GE106.out) | exact HB.out)⟩⟩
                · rw [if_neg c13] at H
                  exact absurd H (by simp)
              · rw [if_neg c12] at H
                have c12b0 : decide (x8_1 < (rs.size : Int)) = false := decide_eq_false c12
                clear c12
                (first | rw [c12b0] | (simp only [i64_w, i32_w]; rw [c12b0]) | skip)
                have H' := Aside0.mk H
                clear H
                go_wp2
                go_meet
                case rel => exact ⟨_, (x8_1), (by first | rfl | (simp; done) | (simp [*]; done)), H', ⟨by have := HK1.out; first | omega | exact Nat.le_refl _⟩, ⟨by (with_reducible repeat (first | refine blk_drewN ?_ _ | refine blk_drew ?_ | refine blk_alloc ?_ _)); exact BK106.out⟩, ⟨by repeat (first | (with_reducible first | exact HB.out | apply below_alloc | apply pw_below_drewN | apply below_drew1 | refine below_set ?_ GE106.out) | exact HB.out)⟩⟩
        case rest =>
          clear HC10
          try clear c1
          try clear p1
          try clear q1
          try clear hx1
          try clear p2
          try clear c4
          try clear c5
          try clear c5b0
          try clear c5b1
          try clear c6
          try clear p6
          try clear c7
          try clear c7b0
          try clear c12
          try clear c12b0
          try clear c13
          try clear c13b0
          try clear p14
          try clear q14
          try clear hx14
          try clear c16
          try clear hcz9_0
          try clear hcz9_1
          try clear hcz9_2
          try clear hcz9_3
          try clear hcz9_4
          try clear hfz9_0
          try clear hfz9_1
          try clear hfz9_2
          try clear hfz9_3
          try clear hfz9_4
          try clear p14
          try clear p2
          try clear p6
          try clear q14
          obtain ⟨kq, x8_9, rfl, HA, HJ9, BK106, HB⟩ := hcut
          cases kq with
          | zero => exact absurd HA.out (by simp [spec_Directive.j1])
          | succ kj9 =>
            have H := HA.out
            clear HA
            simp only [spec_Directive.j1] at H
            by_cases c17 : 0 ≤ t108
            · rw [if_pos c17] at H
              have c17b0 := eq_true c17
              have c17b1 : decide (0 ≤ t108) = true := decide_eq_true c17
              clear c17
              by_cases c18 : t108 ≤ (rs.size : Int)
              · rw [if_pos c18] at H
                have c18b0 := eq_true c18
                have c18b1 : decide (t108 ≤ (rs.size : Int)) = true := decide_eq_true c18
                clear c18
                obtain ⟨ji19, hji19⟩ : ∃ j_ : Int, (wrap64 (t108 + 1)) = j_ := ⟨_, rfl⟩
                replace H : (if 0 ≤ (ji19) then (if (ji19) ≤ x8_9 then (if x8_9 ≤ (rs.size : Int) then (spec_Directive.l1 kj9 a0 rs x8_9 (rs.extract 0 (t108 : Int).toNat) (rs.extract ((ji19) : Int).toNat (x8_9 : Int).toNat) (⟨#[]⟩ : ByteArray) a0 0) else (none)) else (none)) else (none)) = some (r1, r2, r3, r4, r5, r6) := by first | (rw [hji19] at H; exact H) | (simp only [hji19] at H ⊢; exact H)
                have hji19w : (IntKind.i64.wrap (t108 + 1)) = ji19 := (i64_w _).trans hji19
                by_cases c20 : 0 ≤ (ji19)
                · rw [if_pos c20] at H
                  have c20b0 := eq_true c20
                  have c20b1 : decide (0 ≤ (ji19)) = true := decide_eq_true c20
                  clear c20
                  by_cases c21 : (ji19) ≤ x8_9
                  · rw [if_pos c21] at H
                    have c21b0 := eq_true c21
                    have c21b1 : decide ((ji19) ≤ x8_9) = true := decide_eq_true c21
                    clear c21
                    by_cases c22 : x8_9 ≤ (rs.size : Int)
                    · rw [if_pos c22] at H
                      have c22b0 := eq_true c22
                      have c22b1 : decide (x8_9 ≤ (rs.size : Int)) = true := decide_eq_true c22
                      clear c22
                      have H' := Aside0.mk H
                      clear H
                      try go_wp2
                      have n0_ := Aside0.mk (blk_drew BK106.out)
                      have n1_ := Aside0.mk (below_drew1 HB.out)
                      clear BK106
                      clear HB
                      have BK106 := n0_
                      have HB := n1_
                      clear n0_ n1_
                      refine start_ (n := 12) (S := fun w' => True) (ds := []) #[false, false, false, false, false, false, false, false, false, false, false, false] (by kernel_rfl) rfl rfl trivial (fun hHeld => ?_); refine with_tabW spec_Directive.tab10 spec_Directive.bits10 (fun HT_ HW_ => ?_)
                      generalize wc.drew = w23 at BK106 HB hHeld ⊢
                      refine pure_ (i := 0) (N := some 36) (v := ?_) (a' := ?_) #[true, false, false, false, false, false, false, false, false, false, false, false] rfl rfl (any_of HT_.out (by kernel_rfl)) (fun _ _ _ h => h) (Or.inl ⟨by rfl, ?_⟩) ?_ ?_
                      rotate_left
                      · intro w'
                        go_simp
                        with_reducible rfl
                      rotate_left
                      · simp only [Act.put, List.setIfInBounds_toArray, List.set_cons_zero, List.set_cons_succ, i64_w, i32_w]
                        rfl
                      refine pure_ (i := 1) (N := some 37) (v := ?_) (a' := ?_) #[true, true, false, false, false, false, false, false, false, false, false, false] rfl rfl (any_of HT_.out (by kernel_rfl)) (fun _ _ _ h => h) (Or.inl ⟨by rfl, ?_⟩) ?_ ?_
                      rotate_left
                      · intro w'
                        go_simp
                        with_reducible rfl
                      rotate_left
                      · simp only [Act.put, List.setIfInBounds_toArray, List.set_cons_zero, List.set_cons_succ, i64_w, i32_w]
                        rfl
                      refine pure_ (i := 2) (N := some 38) (v := ?_) (a' := ?_) #[true, true, true, false, false, false, false, false, false, false, false, false] rfl rfl (any_of HT_.out (by kernel_rfl)) (fun _ _ _ h => h) (Or.inl ⟨by rfl, ?_⟩) ?_ ?_
                      rotate_left
                      · intro w'
                        go_simp
                        with_reducible rfl
                      rotate_left
                      · simp only [Act.put, List.setIfInBounds_toArray, List.set_cons_zero, List.set_cons_succ, i64_w, i32_w]
                        rfl
                      refine pure_ (i := 3) (N := some 39) (v := ?_) (a' := ?_) #[true, true, true, true, false, false, false, false, false, false, false, false] rfl rfl (any_of HT_.out (by kernel_rfl)) (fun _ _ _ h => h) (Or.inl ⟨by rfl, ?_⟩) ?_ ?_
                      rotate_left
                      · intro w'
                        go_simp
                        with_reducible rfl
                      rotate_left
                      · simp only [Act.put, List.setIfInBounds_toArray, List.set_cons_zero, List.set_cons_succ, i64_w, i32_w]
                        rfl
                      refine pure_ (i := 4) (N := some 40) (v := ?_) (a' := ?_) #[true, true, true, true, true, false, false, false, false, false, false, false] rfl rfl (any_of HT_.out (by kernel_rfl)) (fun _ _ _ h => h) (Or.inl ⟨by rfl, ?_⟩) ?_ ?_
                      rotate_left
                      · intro w'
                        go_simp
                        with_reducible rfl
                      rotate_left
                      · simp only [Act.put, List.setIfInBounds_toArray, List.set_cons_zero, List.set_cons_succ, i64_w, i32_w]
                        rfl
                      refine pure_ (i := 5) (N := some 41) (v := ?_) (a' := ?_) #[true, true, true, true, true, true, false, false, false, false, false, false] rfl rfl (any_of HT_.out (by kernel_rfl)) (fun _ _ _ h => h) (Or.inl ⟨by rfl, ?_⟩) ?_ ?_
                      rotate_left
                      · intro w'
                        go_simp
                        with_reducible rfl
                      rotate_left
                      · simp only [Act.put, List.setIfInBounds_toArray, List.set_cons_zero, List.set_cons_succ, i64_w, i32_w]
                        rfl
                      refine pure_ (i := 6) (N := some 42) (v := ?_) (a' := ?_) #[true, true, true, true, true, true, true, false, false, false, false, false] rfl rfl (any_of HT_.out (by kernel_rfl)) (fun _ _ _ h => h) (Or.inl ⟨by rfl, ?_⟩) ?_ ?_
                      rotate_left
                      · intro w'
                        go_simp
                        with_reducible rfl
                      rotate_left
                      · simp only [Act.put, List.setIfInBounds_toArray, List.set_cons_zero, List.set_cons_succ, i64_w, i32_w]
                        rfl
                      refine pure_ (i := 7) (N := some 43) (v := ?_) (a' := ?_) #[true, true, true, true, true, true, true, true, false, false, false, false] rfl rfl (any_of HT_.out (by kernel_rfl)) (fun _ _ _ h => h) (Or.inl ⟨by rfl, ?_⟩) ?_ ?_
                      rotate_left
                      · intro w'
                        go_simp
                        with_reducible rfl
                      rotate_left
                      · simp only [Act.put, List.setIfInBounds_toArray, List.set_cons_zero, List.set_cons_succ, i64_w, i32_w]
                        rfl
                      refine pure_ (i := 8) (N := some 44) (v := ?_) (a' := ?_) #[true, true, true, true, true, true, true, true, true, false, false, false] rfl rfl (any_of HT_.out (by kernel_rfl)) (fun _ _ _ h => h) (Or.inl ⟨by rfl, ?_⟩) ?_ ?_
                      rotate_left
                      · intro w'
                        go_simp
                        with_reducible rfl
                      rotate_left
                      · simp only [Act.put, List.setIfInBounds_toArray, List.set_cons_zero, List.set_cons_succ, i64_w, i32_w]
                        rfl
                      refine pure_ (i := 9) (N := some 45) (v := ?_) (a' := ?_) #[true, true, true, true, true, true, true, true, true, true, false, false] rfl rfl (any_of HT_.out (by kernel_rfl)) (fun _ _ _ h => h) (Or.inl ⟨by rfl, ?_⟩) ?_ ?_
                      rotate_left
                      · intro w'
                        go_simp
                        with_reducible rfl
                      rotate_left
                      · simp only [Act.put, List.setIfInBounds_toArray, List.set_cons_zero, List.set_cons_succ, i64_w, i32_w]
                        rfl
                      refine one_ (i := 10) (N := some 9) #[true, true, true, true, true, true, true, true, true, true, true, false] rfl rfl (one_of HT_.out (by kernel_rfl)) (by decide) (fun K hK => ?_)
                      refine box_step ?hg (N := 9) ?hd (cs := #[.string (⟨#[]⟩ : ByteArray), .string (⟨#[]⟩ : ByteArray), .string (⟨#[]⟩ : ByteArray), .int .i64 0, .int .i64 0]) (t := 24) ?hr ?_; (case hd => rfl); (case hg => rfl); (case hr => first | (go_simp; done) | (go_simp; rfl))
                      intro gb110 hg w24 hbox hb
                      have n0_ := Aside0.mk (blk_below (g := gb106) (o := .cells #[.string (⟨#[]⟩ : ByteArray), .string (⟨#[]⟩ : ByteArray), .string (⟨#[]⟩ : ByteArray), .int .i64 0, .int .i64 0] 24 (0, 0)) (by (with_reducible repeat (first | refine blk_drewN ?_ _ | refine blk_drew ?_ | refine blk_alloc ?_ _)); exact BK106.out) hb)
                      have n1_ := Aside0.mk (below_step (by repeat (first | (with_reducible first | exact HB.out | apply below_alloc | apply pw_below_drewN | apply below_drew1 | refine below_set ?_ GE106.out) | exact HB.out)) hb)
                      have n2_ := Aside0.mk (hbox)
                      have n3_ := Aside0.mk ((by rw [hg]; exact (below_size (by repeat (first | (with_reducible first | exact HB.out | apply below_alloc | apply pw_below_drewN | apply below_drew1 | refine below_set ?_ GE106.out) | exact HB.out))) : w.heap.size ≤ gb110))
                      have n4_ := Aside0.mk ((by rw [hg]; exact (below_size (by repeat (first | (with_reducible first | exact HB.out | apply below_alloc | apply pw_below_drewN | apply below_drew1 | refine below_set ?_ GE106.out) | exact HB.out))) : w.heap.size ≤ gb110))
                      have n5_ := Aside0.mk ((by rw [hg]; exact Nat.ne_of_lt (blk_lt (g := gb106) (o := .cells #[.string (⟨#[]⟩ : ByteArray), .string (⟨#[]⟩ : ByteArray), .string (⟨#[]⟩ : ByteArray), .int .i64 0, .int .i64 0] 24 (0, 0)) (by (with_reducible repeat (first | refine blk_drewN ?_ _ | refine blk_drew ?_ | refine blk_alloc ?_ _)); exact BK106.out)) : gb106 ≠ gb110))
                      have n6_ := Aside0.mk ((by rw [hg]; exact Nat.ne_of_gt (blk_lt (g := gb106) (o := .cells #[.string (⟨#[]⟩ : ByteArray), .string (⟨#[]⟩ : ByteArray), .string (⟨#[]⟩ : ByteArray), .int .i64 0, .int .i64 0] 24 (0, 0)) (by (with_reducible repeat (first | refine blk_drewN ?_ _ | refine blk_drew ?_ | refine blk_alloc ?_ _)); exact BK106.out)) : gb110 ≠ gb106))
                      clear BK106
                      clear HB
                      have BK106 := n0_
                      have HB := n1_
                      have BK110 := n2_
                      have GW110 := n3_
                      have GE110 := n4_
                      have NB106_110 := n5_
                      have NB110_106 := n6_
                      clear n0_ n1_ n2_ n3_ n4_ n5_ n6_
                      clear hb hbox hg
                      refine hK.out _ _ trivial (fun hHeld => ?_)
                      clear hK K
                      refine norm_ (a' := ?_) ?_ ?_
                      rotate_left
                      · show Act.put _ (some 9) _ = _
                        simp only [Act.put, List.setIfInBounds_toArray, List.set_cons_zero, List.set_cons_succ, i64_w, i32_w]
                        rfl
                      refine one_ (i := 11) (N := none) #[true, true, true, true, true, true, true, true, true, true, true, true] rfl rfl (one_of HT_.out (by kernel_rfl)) (by decide) (fun K hK => ?_)
                      have hs25 : w24.cell? ⟨gb110, 0, none⟩ = some (.string (⟨#[]⟩ : ByteArray)) := (blk_cell BK110.out 0).trans rfl
                      have hfs25 := blk_frozen BK110.out 0
                      have hns25_0 := NB106_110.out
                      have hms25_0 := NB110_106.out
                      have hs26 : w24.cell? ⟨gb110, 1, none⟩ = some (.string (⟨#[]⟩ : ByteArray)) := (blk_cell BK110.out 1).trans rfl
                      have hfs26 := blk_frozen BK110.out 1
                      have hns26_0 := NB106_110.out
                      have hms26_0 := NB110_106.out
                      have hs27 : w24.cell? ⟨gb110, 2, none⟩ = some (.string (⟨#[]⟩ : ByteArray)) := (blk_cell BK110.out 2).trans rfl
                      have hfs27 := blk_frozen BK110.out 2
                      have hns27_0 := NB106_110.out
                      have hms27_0 := NB110_106.out
                      have hs28 : w24.cell? ⟨gb110, 3, none⟩ = some (.int .i64 0) := (blk_cell BK110.out 3).trans rfl
                      have hfs28 := blk_frozen BK110.out 3
                      have hns28_0 := NB106_110.out
                      have hms28_0 := NB110_106.out
                      have hs29 : w24.cell? ⟨gb110, 4, none⟩ = some (.int .i64 0) := (blk_cell BK110.out 4).trans rfl
                      have hfs29 := blk_frozen BK110.out 4
                      have hns29_0 := NB106_110.out
                      have hms29_0 := NB110_106.out
                      refine skip_ (w1 := ?_) (by rfl) rfl ?_ ?_
                      rotate_left
                      · go_simp
                        rfl
                      refine hK.out _ _ trivial (fun hHeld => ?_)
                      clear hK K
                      refine done_ (done_of HT_.out (by kernel_rfl)) ?_
                      try go_wp2
                      go_loopg [8] kj9 (fun kq v8 w' => ∃ (x8_2 : Int), v8 = .int .i64 x8_2 ∧ Aside0 (spec_Directive.l1 kq a0 rs x8_2 (rs.extract 0 (t108 : Int).toNat) (rs.extract ((ji19) : Int).toNat (x8_9 : Int).toNat) (⟨#[]⟩ : ByteArray) a0 0 = some (r1, r2, r3, r4, r5, r6)) ∧ Aside0 (kq ≤ kj9) ∧ Aside0 (w'.heap[gb106]? = some (.cells #[.string (⟨#[]⟩ : ByteArray), .string (⟨#[]⟩ : ByteArray), .string (⟨#[]⟩ : ByteArray), .int .i64 0, .int .i64 0] 24 (0, 0))) ∧ Aside0 (w'.heap[gb110]? = some (.cells #[.string (rs.extract 0 (t108 : Int).toNat), .string (rs.extract ((ji19) : Int).toNat (x8_9 : Int).toNat), .string (⟨#[]⟩ : ByteArray), .int .i64 a0, .int .i64 0] 24 (0, 0))) ∧ Aside0 (Below w.heap.size w w'))
                      case atStart => exact ⟨(x8_9), (by first | rfl | (simp; done) | (simp [*]; done)), H', ⟨Nat.le_refl _⟩, ⟨by (with_reducible repeat (first | refine blk_drewN ?_ _ | refine blk_drew ?_ | refine blk_alloc ?_ _)); refine blk_far ?_ NB106_110.out _; (with_reducible repeat (first | refine blk_drewN ?_ _ | refine blk_drew ?_ | refine blk_alloc ?_ _)); refine blk_far ?_ NB106_110.out _; (with_reducible repeat (first | refine blk_drewN ?_ _ | refine blk_drew ?_ | refine blk_alloc ?_ _)); refine blk_far ?_ NB106_110.out _; (with_reducible repeat (first | refine blk_drewN ?_ _ | refine blk_drew ?_ | refine blk_alloc ?_ _)); refine blk_far ?_ NB106_110.out _; (with_reducible repeat (first | refine blk_drewN ?_ _ | refine blk_drew ?_ | refine blk_alloc ?_ _)); refine blk_far ?_ NB106_110.out _; (with_reducible repeat (first | refine blk_drewN ?_ _ | refine blk_drew ?_ | refine blk_alloc ?_ _)); exact BK106.out⟩, ⟨by (with_reducible repeat (first | refine blk_drewN ?_ _ | refine blk_drew ?_ | refine blk_alloc ?_ _)); refine blk_put (cs := #[.string (rs.extract 0 (t108 : Int).toNat), .string (rs.extract ((ji19) : Int).toNat (x8_9 : Int).toNat), .string (⟨#[]⟩ : ByteArray), .int .i64 a0, .int .i64 0]) ?_ 4 _ rfl; (with_reducible repeat (first | refine blk_drewN ?_ _ | refine blk_drew ?_ | refine blk_alloc ?_ _)); refine blk_put (cs := #[.string (rs.extract 0 (t108 : Int).toNat), .string (rs.extract ((ji19) : Int).toNat (x8_9 : Int).toNat), .string (⟨#[]⟩ : ByteArray), .int .i64 0, .int .i64 0]) ?_ 3 _ rfl; (with_reducible repeat (first | refine blk_drewN ?_ _ | refine blk_drew ?_ | refine blk_alloc ?_ _)); refine blk_put (cs := #[.string (rs.extract 0 (t108 : Int).toNat), .string (rs.extract ((ji19) : Int).toNat (x8_9 : Int).toNat), .string (⟨#[]⟩ : ByteArray), .int .i64 0, .int .i64 0]) ?_ 2 _ rfl; (with_reducible repeat (first | refine blk_drewN ?_ _ | refine blk_drew ?_ | refine blk_alloc ?_ _)); refine blk_put (cs := #[.string (rs.extract 0 (t108 : Int).toNat), .string (⟨#[]⟩ : ByteArray), .string (⟨#[]⟩ : ByteArray), .int .i64 0, .int .i64 0]) ?_ 1 _ rfl; (with_reducible repeat (first | refine blk_drewN ?_ _ | refine blk_drew ?_ | refine blk_alloc ?_ _)); refine blk_put (cs := #[.string (⟨#[]⟩ : ByteArray), .string (⟨#[]⟩ : ByteArray), .string (⟨#[]⟩ : ByteArray), .int .i64 0, .int .i64 0]) ?_ 0 _ rfl; (with_reducible repeat (first | refine blk_drewN ?_ _ | refine blk_drew ?_ | refine blk_alloc ?_ _)); exact BK110.out⟩, ⟨by repeat (first | (with_reducible first | exact HB.out | apply below_alloc | apply pw_below_drewN | apply below_drew1 | refine below_set ?_ GE106.out | refine below_set ?_ GE110.out) | exact HB.out)⟩⟩
                      case round =>
                        clear H'
                        try clear hji19w
                        try clear hji19
                        try clear c1
                        try clear p1
                        try clear q1
                        try clear hx1
                        try clear c2
                        try clear p2
                        try clear c4
                        try clear c5
                        try clear c5b0
                        try clear c5b1
                        try clear c6
                        try clear p6
                        try clear c7
                        try clear c7b0
                        try clear c12
                        try clear c12b0
                        try clear c13
                        try clear c13b0
                        try clear p14
                        try clear q14
                        try clear hx14
                        try clear c16
                        try clear c17
                        try clear c17b0
                        try clear c17b1
                        try clear c18
                        try clear c18b0
                        try clear c18b1
                        try clear c20
                        try clear c20b0
                        try clear c20b1
                        try clear c21
                        try clear c21b0
                        try clear c21b1
                        try clear c22
                        try clear c22b0
                        try clear c22b1
                        try clear hcz9_0
                        try clear hcz9_1
                        try clear hcz9_2
                        try clear hcz9_3
                        try clear hcz9_4
                        try clear hfz9_0
                        try clear hfz9_1
                        try clear hfz9_2
                        try clear hfz9_3
                        try clear hfz9_4
                        try clear p1
                        try clear p14
                        try clear p2
                        try clear p6
                        try clear q1
                        try clear q14
                        obtain ⟨x8_2, rfl, HA, HK2, BK106, BK110, HB⟩ := hrel
                        cases gk with
                        | zero => exact absurd HA.out (by simp [spec_Directive.l1])
                        | succ k2 =>
                          have H := HA.out
                          clear HA
                          simp only [spec_Directive.l1] at H
                          by_cases c30 : x8_2 < (rs.size : Int)
                          · rw [if_pos c30] at H
                            have c30b0 : decide (x8_2 < (rs.size : Int)) = true := decide_eq_true c30
                            clear c30
                            by_cases c31 : 0 ≤ x8_2
                            · rw [if_pos c31] at H
                              have c31b0 : decide (0 ≤ x8_2) = true := decide_eq_true c31
                              clear c31
                              replace H := Option.bind_eq_some_iff.mp H
                              obtain ⟨t111, A330, H⟩ := H
                              replace H : (if t111 = true then (spec_Directive.l1 k2 a0 rs (wrap64 (x8_2 + 1)) (rs.extract 0 (t108 : Int).toNat) (rs.extract ((ji19) : Int).toNat (x8_9 : Int).toNat) (⟨#[]⟩ : ByteArray) a0 0) else (if x8_2 ≤ (rs.size : Int) then ((spec_trimEnd.f k2 (rs.extract (x8_2 : Int).toNat rs.size)).bind fun t112 => (some ((rs.extract 0 (t108 : Int).toNat), (rs.extract ((ji19) : Int).toNat (x8_9 : Int).toNat), t112, a0, wrap64 ((wrap64 (a0 + x8_2)) + 2), true))) else (none))) = some (r1, r2, r3, r4, r5, r6) := H
                              have A33 := Aside0.mk A330
                              clear A330
                              by_cases c34 : t111 = true
                              · subst c34
                                have H1 : (spec_Directive.l1 k2 a0 rs (wrap64 (x8_2 + 1)) (rs.extract 0 (t108 : Int).toNat) (rs.extract ((ji19) : Int).toNat (x8_9 : Int).toNat) (⟨#[]⟩ : ByteArray) a0 0) = some (r1, r2, r3, r4, r5, r6) := by rw [if_pos rfl] at H; exact H
                                clear H
                                have H := H1
                                clear H1
                                have H' := Aside0.mk H
                                clear H
                                have p32 : 0 ≤ (x8_2 : Int) := of_decide_eq_true (by first | (with_reducible assumption) | assumption)
                                have q32 : x8_2 < (rs.size : Int) := of_decide_eq_true (by first | (with_reducible assumption) | assumption)
                                have hx32 := bt_at rs x8_2
                                replace p32 := eq_true p32
                                replace q32 := eq_true q32
                                go_wp2_with (first | (go_at_call 14; (with_reducible refine (spec_isBlank.calls (bt rs x8_2) true _ A33.out).mono ?_); rintro e w' ⟨rfl, ⟨nd, rfl⟩⟩))
                                go_roundg k2
                                case measure => have := HJ9.out; have := HK2.out; omega
                                case rel => exact ⟨(wrap64 (x8_2 + 1)), (by first | rfl | (simp; done) | (simp [*]; done)), H', ⟨by have := HJ9.out; have := HK2.out; omega⟩, ⟨by (with_reducible repeat (first | refine blk_drewN ?_ _ | refine blk_drew ?_ | refine blk_alloc ?_ _)); exact BK106.out⟩, ⟨by (with_reducible repeat (first | refine blk_drewN ?_ _ | refine blk_drew ?_ | refine blk_alloc ?_ _)); exact BK110.out⟩, ⟨by repeat (first | (with_reducible first | exact HB.out | apply below_alloc | apply pw_below_drewN | apply below_drew1 | refine below_set ?_ GE106.out | refine below_set ?_ GE110.out) | exact HB.out)⟩⟩
                              · replace c34 := Bool.eq_false_iff.mpr c34
                                subst c34
                                have H1 : (if x8_2 ≤ (rs.size : Int) then ((spec_trimEnd.f k2 (rs.extract (x8_2 : Int).toNat rs.size)).bind fun t112 => (some ((rs.extract 0 (t108 : Int).toNat), (rs.extract ((ji19) : Int).toNat (x8_9 : Int).toNat), t112, a0, wrap64 ((wrap64 (a0 + x8_2)) + 2), true))) else (none)) = some (r1, r2, r3, r4, r5, r6) := by rw [if_neg (show ¬ (false = true) by decide)] at H; exact H
                                clear H
                                have H := H1
                                clear H1
                                have c35b0 := eq_true (of_decide_eq_true (by first | (with_reducible assumption) | assumption) : 0 ≤ x8_2)
                                by_cases c36 : x8_2 ≤ (rs.size : Int)
                                · rw [if_pos c36] at H
                                  have c36b0 := eq_true c36
                                  have c36b1 : decide (x8_2 ≤ (rs.size : Int)) = true := decide_eq_true c36
                                  clear c36
                                  replace H := Option.bind_eq_some_iff.mp H
                                  obtain ⟨t112, A370, H⟩ := H
                                  replace H : (some ((rs.extract 0 (t108 : Int).toNat), (rs.extract ((ji19) : Int).toNat (x8_9 : Int).toNat), t112, a0, wrap64 ((wrap64 (a0 + x8_2)) + 2), true)) = some (r1, r2, r3, r4, r5, r6) := H
                                  have A37 := Aside0.mk A370
                                  clear A370
                                  simp only [Option.some.injEq, Prod.mk.injEq] at H
                                  obtain ⟨rfl, rfl, rfl, rfl, rfl, rfl⟩ := H
                                  have p32 : 0 ≤ (x8_2 : Int) := of_decide_eq_true (by first | (with_reducible assumption) | assumption)
                                  have q32 : x8_2 < (rs.size : Int) := of_decide_eq_true (by first | (with_reducible assumption) | assumption)
                                  have hx32 := bt_at rs x8_2
                                  replace p32 := eq_true p32
                                  replace q32 := eq_true q32
                                  go_wp2_with (first | (go_at_call 14; (with_reducible refine (spec_isBlank.calls (bt rs x8_2) false _ A33.out).mono ?_); rintro e w' ⟨rfl, ⟨nd, rfl⟩⟩; (try (rw [drewN_self wr]; generalize hq_ : World.drewN wr _ = wr; have n0_ : Aside0 (wr.heap[gb106]? = some (.cells #[.string (⟨#[]⟩ : ByteArray), .string (⟨#[]⟩ : ByteArray), .string (⟨#[]⟩ : ByteArray), .int .i64 0, .int .i64 0] 24 (0, 0))) := ⟨by rw [← hq_]; exact (by (with_reducible repeat (first | refine blk_drewN ?_ _ | refine blk_drew ?_ | refine blk_alloc ?_ _)); exact BK106.out)⟩; have n1_ : Aside0 (wr.heap[gb110]? = some (.cells #[.string (rs.extract 0 (t108 : Int).toNat), .string (rs.extract ((ji19) : Int).toNat (x8_9 : Int).toNat), .string (⟨#[]⟩ : ByteArray), .int .i64 a0, .int .i64 0] 24 (0, 0))) := ⟨by rw [← hq_]; exact (by (with_reducible repeat (first | refine blk_drewN ?_ _ | refine blk_drew ?_ | refine blk_alloc ?_ _)); exact BK110.out)⟩; have n2_ : Aside0 (Below w.heap.size w wr) := ⟨by rw [← hq_]; exact (by repeat (first | (with_reducible first | exact HB.out | apply below_alloc | apply pw_below_drewN | apply below_drew1 | refine below_set ?_ GE106.out | refine below_set ?_ GE110.out) | exact HB.out))⟩; clear BK106 BK110 HB hq_; have BK106 := n0_; have BK110 := n1_; have HB := n2_; clear n0_ n1_ n2_))) | ((with_reducible refine gate_callee (f := 15) rfl ?_); refine goesL_ (some 61) rfl rfl Tryd.func15 (by kernel_rfl) rfl #[.string (rs.extract (x8_2 : Int).toNat rs.size)] rfl (by (try simp only [List.map_toArray, List.map_cons, List.map_nil]); first | done | rfl | (simp only [List.length_drop, List.length_take]; rfl)) ?_; (with_reducible refine (spec_trimEnd.calls k2 (rs.extract (x8_2 : Int).toNat rs.size) t112 _ A37.out).mono ?_); rintro e w' ⟨rfl, ⟨nd, rfl⟩⟩; refine ⟨_, rfl, ?_⟩; (try (rw [drewN_self wr]; generalize hq_ : World.drewN wr _ = wr; have n0_ : Aside0 (wr.heap[gb106]? = some (.cells #[.string (⟨#[]⟩ : ByteArray), .string (⟨#[]⟩ : ByteArray), .string (⟨#[]⟩ : ByteArray), .int .i64 0, .int .i64 0] 24 (0, 0))) := ⟨by rw [← hq_]; exact (by (with_reducible repeat (first | refine blk_drewN ?_ _ | refine blk_drew ?_ | refine blk_alloc ?_ _)); exact BK106.out)⟩; have n1_ : Aside0 (wr.heap[gb110]? = some (.cells #[.string (rs.extract 0 (t108 : Int).toNat), .string (rs.extract ((ji19) : Int).toNat (x8_9 : Int).toNat), .string (⟨#[]⟩ : ByteArray), .int .i64 a0, .int .i64 0] 24 (0, 0))) := ⟨by rw [← hq_]; exact (by (with_reducible repeat (first | refine blk_drewN ?_ _ | refine blk_drew ?_ | refine blk_alloc ?_ _)); exact BK110.out)⟩; have n2_ : Aside0 (Below w.heap.size w wr) := ⟨by rw [← hq_]; exact (by repeat (first | (with_reducible first | exact HB.out | apply below_alloc | apply pw_below_drewN | apply below_drew1 | refine below_set ?_ GE106.out | refine below_set ?_ GE110.out) | exact HB.out))⟩; clear BK106 BK110 HB hq_; have BK106 := n0_; have BK110 := n1_; have HB := n2_; clear n0_ n1_ n2_)); have hnb38 := NB110_106.out; have hnc38 := NB106_110.out; have hcz39_0 : wr.cell? ⟨gb110, 0, none⟩ = some (.string (rs.extract 0 (t108 : Int).toNat)) := (blk_cell BK110.out 0).trans rfl; have hcz39_1 : wr.cell? ⟨gb110, 1, none⟩ = some (.string (rs.extract ((ji19) : Int).toNat (x8_9 : Int).toNat)) := (blk_cell BK110.out 1).trans rfl; have hcz39_2 : wr.cell? ⟨gb110, 2, none⟩ = some (.string (⟨#[]⟩ : ByteArray)) := (blk_cell BK110.out 2).trans rfl; have hcz39_3 : wr.cell? ⟨gb110, 3, none⟩ = some (.int .i64 a0) := (blk_cell BK110.out 3).trans rfl; have hcz39_4 : wr.cell? ⟨gb110, 4, none⟩ = some (.int .i64 0) := (blk_cell BK110.out 4).trans rfl; have hfz39_0 := blk_frozen BK110.out 0; have hfz39_1 := blk_frozen BK110.out 1; have hfz39_2 := blk_frozen BK110.out 2; have hfz39_3 := blk_frozen BK110.out 3; have hfz39_4 := blk_frozen BK110.out 4; have hcz40_0 : wr.cell? ⟨gb106, 0, none⟩ = some (.string (⟨#[]⟩ : ByteArray)) := (blk_cell BK106.out 0).trans rfl; have hcz40_1 : wr.cell? ⟨gb106, 1, none⟩ = some (.string (⟨#[]⟩ : ByteArray)) := (blk_cell BK106.out 1).trans rfl; have hcz40_2 : wr.cell? ⟨gb106, 2, none⟩ = some (.string (⟨#[]⟩ : ByteArray)) := (blk_cell BK106.out 2).trans rfl; have hcz40_3 : wr.cell? ⟨gb106, 3, none⟩ = some (.int .i64 0) := (blk_cell BK106.out 3).trans rfl; have hcz40_4 : wr.cell? ⟨gb106, 4, none⟩ = some (.int .i64 0) := (blk_cell BK106.out 4).trans rfl; have hfz40_0 := blk_frozen BK106.out 0; have hfz40_1 := blk_frozen BK106.out 1; have hfz40_2 := blk_frozen BK106.out 2; have hfz40_3 := blk_frozen BK106.out 3; have hfz40_4 := blk_frozen BK106.out 4))
                                  refine bodyPost_ret (results_ct rfl _ _ gb106 24 #[.string (rs.extract 0 (t108 : Int).toNat), .string (rs.extract ((ji19) : Int).toNat (x8_9 : Int).toNat), .string t112, .int .i64 a0, .int .i64 (wrap64 ((wrap64 (a0 + x8_2)) + 2))] (0, 0) _ rfl (by (with_reducible repeat (first | refine blk_drewN ?_ _ | refine blk_drew ?_ | refine blk_alloc ?_ _)); refine blk_put (cs := #[.string (rs.extract 0 (t108 : Int).toNat), .string (rs.extract ((ji19) : Int).toNat (x8_9 : Int).toNat), .string t112, .int .i64 a0, .int .i64 0]) ?_ 4 _ rfl; (with_reducible repeat (first | refine blk_drewN ?_ _ | refine blk_drew ?_ | refine blk_alloc ?_ _)); refine blk_put (cs := #[.string (rs.extract 0 (t108 : Int).toNat), .string (rs.extract ((ji19) : Int).toNat (x8_9 : Int).toNat), .string t112, .int .i64 0, .int .i64 0]) ?_ 3 _ rfl; (with_reducible repeat (first | refine blk_drewN ?_ _ | refine blk_drew ?_ | refine blk_alloc ?_ _)); refine blk_put (cs := #[.string (rs.extract 0 (t108 : Int).toNat), .string (rs.extract ((ji19) : Int).toNat (x8_9 : Int).toNat), .string (⟨#[]⟩ : ByteArray), .int .i64 0, .int .i64 0]) ?_ 2 _ rfl; (with_reducible repeat (first | refine blk_drewN ?_ _ | refine blk_drew ?_ | refine blk_alloc ?_ _)); refine blk_put (cs := #[.string (rs.extract 0 (t108 : Int).toNat), .string (⟨#[]⟩ : ByteArray), .string (⟨#[]⟩ : ByteArray), .int .i64 0, .int .i64 0]) ?_ 1 _ rfl; (with_reducible repeat (first | refine blk_drewN ?_ _ | refine blk_drew ?_ | refine blk_alloc ?_ _)); refine blk_put (cs := #[.string (⟨#[]⟩ : ByteArray), .string (⟨#[]⟩ : ByteArray), .string (⟨#[]⟩ : ByteArray), .int .i64 0, .int .i64 0]) ?_ 0 _ rfl; (with_reducible repeat (first | refine blk_drewN ?_ _ | refine blk_drew ?_ | refine blk_alloc ?_ _)); refine blk_far ?_ NB106_110.out _; (with_reducible repeat (first | refine blk_drewN ?_ _ | refine blk_drew ?_ | refine blk_alloc ?_ _)); refine blk_far ?_ NB106_110.out _; (with_reducible repeat (first | refine blk_drewN ?_ _ | refine blk_drew ?_ | refine blk_alloc ?_ _)); exact BK106.out) Tryd.underlying24 rfl (by kernel_rfl)) rfl ?_
                                  exact ⟨by first | rfl | (simp [errW_none, errW_some] <;> rfl) | (simp only [← hji19]; first | rfl | (simp [errW_none, errW_some] <;> rfl)) | (simp [*, errW_none, errW_some] <;> rfl), by repeat (first | (with_reducible first | exact HB.out | apply below_alloc | apply pw_below_drewN | apply below_drew1 | refine below_set ?_ GE106.out | refine below_set ?_ GE110.out) | exact HB.out)⟩
                                · rw [if_neg c36] at H
                                  exact absurd H (by simp)
                            · rw [if_neg c31] at H
                              exact absurd H (by simp)
                          · rw [if_neg c30] at H
                            have c30b0 : decide (x8_2 < (rs.size : Int)) = false := decide_eq_false c30
                            clear c30
                            by_cases c41 : 0 ≤ x8_2
                            · rw [if_pos c41] at H
                              have c41b0 := eq_true c41
                              have c41b1 : decide (0 ≤ x8_2) = true := decide_eq_true c41
                              clear c41
                              by_cases c42 : x8_2 ≤ (rs.size : Int)
                              · rw [if_pos c42] at H
                                have c42b0 := eq_true c42
                                have c42b1 : decide (x8_2 ≤ (rs.size : Int)) = true := decide_eq_true c42
                                clear c42
                                replace H := Option.bind_eq_some_iff.mp H
                                obtain ⟨t113, A430, H⟩ := H
                                replace H : (some ((rs.extract 0 (t108 : Int).toNat), (rs.extract ((ji19) : Int).toNat (x8_9 : Int).toNat), t113, a0, wrap64 ((wrap64 (a0 + x8_2)) + 2), true)) = some (r1, r2, r3, r4, r5, r6) := H
                                have A43 := Aside0.mk A430
                                clear A430
                                simp only [Option.some.injEq, Prod.mk.injEq] at H
                                obtain ⟨rfl, rfl, rfl, rfl, rfl, rfl⟩ := H
                                go_wp2_with (first | ((with_reducible refine gate_callee (f := 15) rfl ?_); refine goesL_ (some 61) rfl rfl Tryd.func15 (by kernel_rfl) rfl #[.string (rs.extract (x8_2 : Int).toNat rs.size)] rfl (by (try simp only [List.map_toArray, List.map_cons, List.map_nil]); first | done | rfl | (simp only [List.length_drop, List.length_take]; rfl)) ?_; (with_reducible refine (spec_trimEnd.calls k2 (rs.extract (x8_2 : Int).toNat rs.size) t113 _ A43.out).mono ?_); rintro e w' ⟨rfl, ⟨nd, rfl⟩⟩; refine ⟨_, rfl, ?_⟩; (try (rw [drewN_self wr]; generalize hq_ : World.drewN wr _ = wr; have n0_ : Aside0 (wr.heap[gb106]? = some (.cells #[.string (⟨#[]⟩ : ByteArray), .string (⟨#[]⟩ : ByteArray), .string (⟨#[]⟩ : ByteArray), .int .i64 0, .int .i64 0] 24 (0, 0))) := ⟨by rw [← hq_]; exact (by (with_reducible repeat (first | refine blk_drewN ?_ _ | refine blk_drew ?_ | refine blk_alloc ?_ _)); exact BK106.out)⟩; have n1_ : Aside0 (wr.heap[gb110]? = some (.cells #[.string (rs.extract 0 (t108 : Int).toNat), .string (rs.extract ((ji19) : Int).toNat (x8_9 : Int).toNat), .string (⟨#[]⟩ : ByteArray), .int .i64 a0, .int .i64 0] 24 (0, 0))) := ⟨by rw [← hq_]; exact (by (with_reducible repeat (first | refine blk_drewN ?_ _ | refine blk_drew ?_ | refine blk_alloc ?_ _)); exact BK110.out)⟩; have n2_ : Aside0 (Below w.heap.size w wr) := ⟨by rw [← hq_]; exact (by repeat (first | (with_reducible first | exact HB.out | apply below_alloc | apply pw_below_drewN | apply below_drew1 | refine below_set ?_ GE106.out | refine below_set ?_ GE110.out) | exact HB.out))⟩; clear BK106 BK110 HB hq_; have BK106 := n0_; have BK110 := n1_; have HB := n2_; clear n0_ n1_ n2_)); have hnb44 := NB110_106.out; have hnc44 := NB106_110.out; have hcz45_0 : wr.cell? ⟨gb110, 0, none⟩ = some (.string (rs.extract 0 (t108 : Int).toNat)) := (blk_cell BK110.out 0).trans rfl; have hcz45_1 : wr.cell? ⟨gb110, 1, none⟩ = some (.string (rs.extract ((ji19) : Int).toNat (x8_9 : Int).toNat)) := (blk_cell BK110.out 1).trans rfl; have hcz45_2 : wr.cell? ⟨gb110, 2, none⟩ = some (.string (⟨#[]⟩ : ByteArray)) := (blk_cell BK110.out 2).trans rfl; have hcz45_3 : wr.cell? ⟨gb110, 3, none⟩ = some (.int .i64 a0) := (blk_cell BK110.out 3).trans rfl; have hcz45_4 : wr.cell? ⟨gb110, 4, none⟩ = some (.int .i64 0) := (blk_cell BK110.out 4).trans rfl; have hfz45_0 := blk_frozen BK110.out 0; have hfz45_1 := blk_frozen BK110.out 1; have hfz45_2 := blk_frozen BK110.out 2; have hfz45_3 := blk_frozen BK110.out 3; have hfz45_4 := blk_frozen BK110.out 4; have hcz46_0 : wr.cell? ⟨gb106, 0, none⟩ = some (.string (⟨#[]⟩ : ByteArray)) := (blk_cell BK106.out 0).trans rfl; have hcz46_1 : wr.cell? ⟨gb106, 1, none⟩ = some (.string (⟨#[]⟩ : ByteArray)) := (blk_cell BK106.out 1).trans rfl; have hcz46_2 : wr.cell? ⟨gb106, 2, none⟩ = some (.string (⟨#[]⟩ : ByteArray)) := (blk_cell BK106.out 2).trans rfl; have hcz46_3 : wr.cell? ⟨gb106, 3, none⟩ = some (.int .i64 0) := (blk_cell BK106.out 3).trans rfl; have hcz46_4 : wr.cell? ⟨gb106, 4, none⟩ = some (.int .i64 0) := (blk_cell BK106.out 4).trans rfl; have hfz46_0 := blk_frozen BK106.out 0; have hfz46_1 := blk_frozen BK106.out 1; have hfz46_2 := blk_frozen BK106.out 2; have hfz46_3 := blk_frozen BK106.out 3; have hfz46_4 := blk_frozen BK106.out 4))
                                refine bodyPost_ret (results_ct rfl _ _ gb106 24 #[.string (rs.extract 0 (t108 : Int).toNat), .string (rs.extract ((ji19) : Int).toNat (x8_9 : Int).toNat), .string t113, .int .i64 a0, .int .i64 (wrap64 ((wrap64 (a0 + x8_2)) + 2))] (0, 0) _ rfl (by (with_reducible repeat (first | refine blk_drewN ?_ _ | refine blk_drew ?_ | refine blk_alloc ?_ _)); refine blk_put (cs := #[.string (rs.extract 0 (t108 : Int).toNat), .string (rs.extract ((ji19) : Int).toNat (x8_9 : Int).toNat), .string t113, .int .i64 a0, .int .i64 0]) ?_ 4 _ rfl; (with_reducible repeat (first | refine blk_drewN ?_ _ | refine blk_drew ?_ | refine blk_alloc ?_ _)); refine blk_put (cs := #[.string (rs.extract 0 (t108 : Int).toNat), .string (rs.extract ((ji19) : Int).toNat (x8_9 : Int).toNat), .string t113, .int .i64 0, .int .i64 0]) ?_ 3 _ rfl; (with_reducible repeat (first | refine blk_drewN ?_ _ | refine blk_drew ?_ | refine blk_alloc ?_ _)); refine blk_put (cs := #[.string (rs.extract 0 (t108 : Int).toNat), .string (rs.extract ((ji19) : Int).toNat (x8_9 : Int).toNat), .string (⟨#[]⟩ : ByteArray), .int .i64 0, .int .i64 0]) ?_ 2 _ rfl; (with_reducible repeat (first | refine blk_drewN ?_ _ | refine blk_drew ?_ | refine blk_alloc ?_ _)); refine blk_put (cs := #[.string (rs.extract 0 (t108 : Int).toNat), .string (⟨#[]⟩ : ByteArray), .string (⟨#[]⟩ : ByteArray), .int .i64 0, .int .i64 0]) ?_ 1 _ rfl; (with_reducible repeat (first | refine blk_drewN ?_ _ | refine blk_drew ?_ | refine blk_alloc ?_ _)); refine blk_put (cs := #[.string (⟨#[]⟩ : ByteArray), .string (⟨#[]⟩ : ByteArray), .string (⟨#[]⟩ : ByteArray), .int .i64 0, .int .i64 0]) ?_ 0 _ rfl; (with_reducible repeat (first | refine blk_drewN ?_ _ | refine blk_drew ?_ | refine blk_alloc ?_ _)); refine blk_far ?_ NB106_110.out _; (with_reducible repeat (first | refine blk_drewN ?_ _ | refine blk_drew ?_ | refine blk_alloc ?_ _)); refine blk_far ?_ NB106_110.out _; (with_reducible repeat (first | refine blk_drewN ?_ _ | refine blk_drew ?_ | refine blk_alloc ?_ _)); exact BK106.out) Tryd.underlying24 rfl (by kernel_rfl)) rfl ?_
                                exact ⟨by first | rfl | (simp [errW_none, errW_some] <;> rfl) | (simp only [← hji19]; first | rfl | (simp [errW_none, errW_some] <;> rfl)) | (simp [*, errW_none, errW_some] <;> rfl), by repeat (first | (with_reducible first | exact HB.out | apply below_alloc | apply pw_below_drewN | apply below_drew1 | refine below_set ?_ GE106.out | refine below_set ?_ GE110.out) | exact HB.out)⟩
                              · rw [if_neg c42] at H
                                exact absurd H (by simp)
                            · rw [if_neg c41] at H
                              exact absurd H (by simp)
                    · rw [if_neg c22] at H
                      exact absurd H (by simp)
                  · rw [if_neg c21] at H
                    exact absurd H (by simp)
                · rw [if_neg c20] at H
                  exact absurd H (by simp)
              · rw [if_neg c18] at H
                exact absurd H (by simp)
            · rw [if_neg c17] at H
              exact absurd H (by simp)
    · rw [if_neg c5] at H
      exact absurd H (by simp)
  · replace c4 := Bool.eq_false_iff.mpr c4
    subst c4
    have H1 : (some ((⟨#[]⟩ : ByteArray), (⟨#[]⟩ : ByteArray), (⟨#[]⟩ : ByteArray), 0, 0, false)) = some (r1, r2, r3, r4, r5, r6) := by rw [if_neg (show ¬ (false = true) by decide)] at H; exact H
    clear H
    have H := H1
    clear H1
    simp only [Option.some.injEq, Prod.mk.injEq] at H
    obtain ⟨rfl, rfl, rfl, rfl, rfl, rfl⟩ := H
    go_enter Tryd.func6, Tryd.ntmps6
    go_wp2_with (first | ((with_reducible refine gate_dst (N := 4) rfl ?_); refine box_event ?hg (N := 4) ?hd (cs := #[.string (⟨#[]⟩ : ByteArray), .string (⟨#[]⟩ : ByteArray), .string (⟨#[]⟩ : ByteArray), .int .i64 0, .int .i64 0]) (t := 24) ?hr ?_; (case hd => rfl); (case hg => rfl); (case hr => first | (go_simp; done) | (go_simp; rfl)); intro gb106 hg w47 hbox hb; have n0_ := Aside0.mk (below_step (by repeat (first | (with_reducible first | exact HB.out | apply below_alloc | apply pw_below_drewN | apply below_drew1) | exact HB.out)) hb); have n1_ := Aside0.mk (hbox); have n2_ := Aside0.mk ((by rw [hg]; exact (below_size (by repeat (first | (with_reducible first | exact HB.out | apply below_alloc | apply pw_below_drewN | apply below_drew1) | exact HB.out))) : w.heap.size ≤ gb106)); have n3_ := Aside0.mk ((by rw [hg]; exact (below_size (by repeat (first | (with_reducible first | exact HB.out | apply below_alloc | apply pw_below_drewN | apply below_drew1) | exact HB.out))) : w.heap.size ≤ gb106)); clear HB; have HB := n0_; have BK106 := n1_; have GW106 := n2_; have GE106 := n3_; clear n0_ n1_ n2_ n3_; clear hb hbox hg) | ((with_reducible refine gate_callee (f := 12) rfl ?_); refine goesL_ (some 11) rfl rfl Tryd.func12 (by kernel_rfl) rfl #[.string a1, .string (⟨#[47, 47]⟩ : ByteArray)] rfl (by (try simp only [List.map_toArray, List.map_cons, List.map_nil]); first | done | rfl | (simp only [List.length_drop, List.length_take]; rfl)) ?_; (with_reducible refine (spec_begins.calls a1 (⟨#[47, 47]⟩ : ByteArray) false _ A3.out).mono ?_); rintro e w' ⟨rfl, ⟨nd, rfl⟩⟩; refine ⟨_, rfl, ?_⟩; (try (rw [drewN_self w47]; generalize hq_ : World.drewN w47 _ = w47; have n0_ : Aside0 (w47.heap[gb106]? = some (.cells #[.string (⟨#[]⟩ : ByteArray), .string (⟨#[]⟩ : ByteArray), .string (⟨#[]⟩ : ByteArray), .int .i64 0, .int .i64 0] 24 (0, 0))) := ⟨by rw [← hq_]; exact (by (with_reducible repeat (first | refine blk_drewN ?_ _ | refine blk_drew ?_ | refine blk_alloc ?_ _)); exact BK106.out)⟩; have n1_ : Aside0 (Below w.heap.size w w47) := ⟨by rw [← hq_]; exact (by repeat (first | (with_reducible first | exact HB.out | apply below_alloc | apply pw_below_drewN | apply below_drew1 | refine below_set ?_ GE106.out) | exact HB.out))⟩; clear BK106 HB hq_; have BK106 := n0_; have HB := n1_; clear n0_ n1_)); have hcz48_0 : w47.cell? ⟨gb106, 0, none⟩ = some (.string (⟨#[]⟩ : ByteArray)) := (blk_cell BK106.out 0).trans rfl; have hcz48_1 : w47.cell? ⟨gb106, 1, none⟩ = some (.string (⟨#[]⟩ : ByteArray)) := (blk_cell BK106.out 1).trans rfl; have hcz48_2 : w47.cell? ⟨gb106, 2, none⟩ = some (.string (⟨#[]⟩ : ByteArray)) := (blk_cell BK106.out 2).trans rfl; have hcz48_3 : w47.cell? ⟨gb106, 3, none⟩ = some (.int .i64 0) := (blk_cell BK106.out 3).trans rfl; have hcz48_4 : w47.cell? ⟨gb106, 4, none⟩ = some (.int .i64 0) := (blk_cell BK106.out 4).trans rfl; have hfz48_0 := blk_frozen BK106.out 0; have hfz48_1 := blk_frozen BK106.out 1; have hfz48_2 := blk_frozen BK106.out 2; have hfz48_3 := blk_frozen BK106.out 3; have hfz48_4 := blk_frozen BK106.out 4))
    refine bodyPost_ret (results_ct rfl _ _ gb106 24 #[.string (⟨#[]⟩ : ByteArray), .string (⟨#[]⟩ : ByteArray), .string (⟨#[]⟩ : ByteArray), .int .i64 0, .int .i64 0] (0, 0) _ rfl (by (with_reducible repeat (first | refine blk_drewN ?_ _ | refine blk_drew ?_ | refine blk_alloc ?_ _)); refine blk_put (cs := #[.string (⟨#[]⟩ : ByteArray), .string (⟨#[]⟩ : ByteArray), .string (⟨#[]⟩ : ByteArray), .int .i64 0, .int .i64 0]) ?_ 4 _ rfl; (with_reducible repeat (first | refine blk_drewN ?_ _ | refine blk_drew ?_ | refine blk_alloc ?_ _)); refine blk_put (cs := #[.string (⟨#[]⟩ : ByteArray), .string (⟨#[]⟩ : ByteArray), .string (⟨#[]⟩ : ByteArray), .int .i64 0, .int .i64 0]) ?_ 3 _ rfl; (with_reducible repeat (first | refine blk_drewN ?_ _ | refine blk_drew ?_ | refine blk_alloc ?_ _)); refine blk_put (cs := #[.string (⟨#[]⟩ : ByteArray), .string (⟨#[]⟩ : ByteArray), .string (⟨#[]⟩ : ByteArray), .int .i64 0, .int .i64 0]) ?_ 2 _ rfl; (with_reducible repeat (first | refine blk_drewN ?_ _ | refine blk_drew ?_ | refine blk_alloc ?_ _)); refine blk_put (cs := #[.string (⟨#[]⟩ : ByteArray), .string (⟨#[]⟩ : ByteArray), .string (⟨#[]⟩ : ByteArray), .int .i64 0, .int .i64 0]) ?_ 1 _ rfl; (with_reducible repeat (first | refine blk_drewN ?_ _ | refine blk_drew ?_ | refine blk_alloc ?_ _)); refine blk_put (cs := #[.string (⟨#[]⟩ : ByteArray), .string (⟨#[]⟩ : ByteArray), .string (⟨#[]⟩ : ByteArray), .int .i64 0, .int .i64 0]) ?_ 0 _ rfl; (with_reducible repeat (first | refine blk_drewN ?_ _ | refine blk_drew ?_ | refine blk_alloc ?_ _)); exact BK106.out) Tryd.underlying24 rfl (by kernel_rfl)) rfl ?_
    exact ⟨by first | rfl | (simp [errW_none, errW_some] <;> rfl) | (simp [*, errW_none, errW_some] <;> rfl), by repeat (first | (with_reducible first | exact HB.out | apply below_alloc | apply pw_below_drewN | apply below_drew1 | refine below_set ?_ GE106.out) | exact HB.out)⟩

end Go.Proofs.YtcjiafjahfmdoaaDoor.A
