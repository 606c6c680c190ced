/- spec.isExprTree and spec.areExprTrees, which call each other: what they compute, and that they compute it (the printed walks, joined by mktree.py). -/
import Derived.Test.YtdcaabjkklppjaaGreatFmtA3
namespace Go.Proofs.YtdcaabjkklppjaaGreatFmt.A
open Go.RowKit Go.Proofs.YtdcaabjkklppjaaGreatFmtW.PrintWords Go.Proofs.YtdcaabjkklppjaaGreatFmtW.PrintLast Go.Proofs.YtdcaabjkklppjaaGreatFmtW.PrintMore
attribute [local go_sem] max2_int min2_int max_two min_two max_three min_three max_four min_four
set_option linter.unusedVariables false
set_option linter.unusedSimpArgs false
mutual
def spec_areExprTrees.l0 : Nat → List (S24) → Int → Int → Int → List (S24) → Int → Int → Option (Bool)
  | 0, _, _, _, _, _, _, _ => none
  | k + 1, x0, x1, x2, x3, x11, x12, x13 => if x13 < x12 then (if 0 ≤ x13 then (if x13 < (x11.length : Int) then ((spec_isExprTree.f k ((rd_T24 x11 x13).f0) ((rd_T24 x11 x13).f1) ((rd_T24 x11 x13).f2) x3).bind fun t104 => (if t104 = true then (spec_areExprTrees.l0 k x0 x1 x2 x3 x11 x12 (wrap64 (x13 + 1))) else (some false))) else (none)) else (none)) else (if (x0.length : Int) ≥ x1 then (some (decide ((x0.length : Int) ≤ x2))) else (some false))
def spec_isExprTree.j0 : Nat → Int → ByteArray → Bool → ByteArray → ByteArray → List (S24) → Option (Bool)
  | 0, _, _, _, _, _, _ => none
  | k + 1, x1, x8, x9, x103000, x103001, x103002 => if x9 = true then (if x103001.toList = ([] : List UInt8) then (some false) else (some ((x103002.length : Int) == 0))) else (if x8.toList = ([112, 97, 114, 101, 110] : List UInt8) then (spec_isExprTree.j1 k x1 x8 (x8.toList == ([112, 97, 114, 101, 110] : List UInt8)) x103000 x103001 x103002) else (spec_isExprTree.j1 k x1 x8 (x8.toList == ([115, 101, 108, 101, 99, 116, 111, 114] : List UInt8)) x103000 x103001 x103002))
def spec_isExprTree.j1 : Nat → Int → ByteArray → Bool → ByteArray → ByteArray → List (S24) → Option (Bool)
  | 0, _, _, _, _, _, _ => none
  | k + 1, x1, x8, x21, x103000, x103001, x103002 => if x21 = true then ((spec_areExprTrees.l0 k x103002 1 1 (wrap64 (x1 - 1)) x103002 (x103002.length : Int) 0).bind fun t103 => (some t103)) else (if x8.toList = ([117, 110, 97, 114, 121] : List UInt8) then ((spec_has.f k (⟨#[42, 32, 45, 32, 43, 32, 33, 32, 94, 32, 38]⟩ : ByteArray) x103001).bind fun t104 => (if t104 = true then (if (x103001.size : Int) = 1 then (if x103001.toList = ([32] : List UInt8) then (some false) else ((spec_areExprTrees.l0 k x103002 1 1 (wrap64 (x1 - 1)) x103002 (x103002.length : Int) 0).bind fun t105 => (some t105))) else (some false)) else (some false))) else (if x8.toList = ([98, 105, 110, 97, 114, 121] : List UInt8) then ((spec_has.f k (⟨#[43, 32, 45, 32, 42, 32, 47, 32, 37, 32, 38, 32, 124, 32, 94, 32, 60, 32, 62]⟩ : ByteArray) x103001).bind fun t106 => (if t106 = true then (if (x103001.size : Int) = 1 then (if x103001.toList = ([32] : List UInt8) then (some false) else ((spec_areExprTrees.l0 k x103002 2 2 (wrap64 (x1 - 1)) x103002 (x103002.length : Int) 0).bind fun t107 => (some t107))) else (some false)) else (some false))) else (if x8.toList = ([105, 110, 100, 101, 120] : List UInt8) then ((spec_areExprTrees.l0 k x103002 2 2 (wrap64 (x1 - 1)) x103002 (x103002.length : Int) 0).bind fun t108 => (some t108)) else (if x8.toList = ([99, 97, 108, 108] : List UInt8) then ((spec_areExprTrees.l0 k x103002 1 20 (wrap64 (x1 - 1)) x103002 (x103002.length : Int) 0).bind fun t109 => (some t109)) else (some false)))))
def spec_isExprTree.f : Nat → ByteArray → ByteArray → List (S24) → Int → Option (Bool)
  | 0, _, _, _, _ => none
  | k + 1, a0_0, a0_1, l0_2, a1 => if a1 < 1 then (some false) else (if a0_0.toList = ([110, 97, 109, 101] : List UInt8) then (spec_isExprTree.j0 k a1 a0_0 (a0_0.toList == ([110, 97, 109, 101] : List UInt8)) a0_0 a0_1 l0_2) else (spec_isExprTree.j0 k a1 a0_0 (a0_0.toList == ([105, 110, 116] : List UInt8)) a0_0 a0_1 l0_2))
end
theorem spec_tree.mono_l : ∀ k, (∀ y0 y1 y2 y3 y4 y5 y6, LeO (spec_areExprTrees.l0 k y0 y1 y2 y3 y4 y5 y6) (spec_areExprTrees.l0 (k + 1) y0 y1 y2 y3 y4 y5 y6)) ∧ (∀ y0 y1 y2 y3 y4 y5, LeO (spec_isExprTree.j0 k y0 y1 y2 y3 y4 y5) (spec_isExprTree.j0 (k + 1) y0 y1 y2 y3 y4 y5)) ∧ (∀ y0 y1 y2 y3 y4 y5, LeO (spec_isExprTree.j1 k y0 y1 y2 y3 y4 y5) (spec_isExprTree.j1 (k + 1) y0 y1 y2 y3 y4 y5)) ∧ (∀ y0 y1 y2 y3, LeO (spec_isExprTree.f k y0 y1 y2 y3) (spec_isExprTree.f (k + 1) y0 y1 y2 y3))
  | 0 => ⟨fun _ _ _ _ _ _ _ r h => by simp [spec_areExprTrees.l0] at h, fun _ _ _ _ _ _ r h => by simp [spec_isExprTree.j0] at h, fun _ _ _ _ _ _ r h => by simp [spec_isExprTree.j1] at h, fun _ _ _ _ r h => by simp [spec_isExprTree.f] at h⟩
  | k + 1 => by
    obtain ⟨ih0, ih1, ih2, ih3⟩ := spec_tree.mono_l k
    refine ⟨?_, ?_, ?_, ?_⟩
    · intro y0 y1 y2 y3 y4 y5 y6
      unfold spec_areExprTrees.l0
      repeat' first
      | (with_reducible exact ih0 _ _ _ _ _ _ _)
      | (with_reducible exact ih1 _ _ _ _ _ _)
      | (with_reducible exact ih2 _ _ _ _ _ _)
      | (with_reducible exact ih3 _ _ _ _)
      | (with_reducible exact spec_has.mono _ _ _)
      | (with_reducible exact LeO.refl _)
      | (with_reducible exact LeO.none _)
      | (with_reducible refine LeO.ite ?_ ?_)
      | (with_reducible refine LeO.bind ?_ (fun _ => ?_))
      | exact ih0 _ _ _ _ _ _ _
      | exact ih1 _ _ _ _ _ _
      | exact ih2 _ _ _ _ _ _
      | exact ih3 _ _ _ _
      | exact spec_has.mono _ _ _
      | exact LeO.none _
      | refine LeO.ite ?_ ?_
      | refine LeO.bind ?_ (fun _ => ?_)
    · intro y0 y1 y2 y3 y4 y5
      unfold spec_isExprTree.j0
      repeat' first
      | (with_reducible exact ih0 _ _ _ _ _ _ _)
      | (with_reducible exact ih1 _ _ _ _ _ _)
      | (with_reducible exact ih2 _ _ _ _ _ _)
      | (with_reducible exact ih3 _ _ _ _)
      | (with_reducible exact spec_has.mono _ _ _)
      | (with_reducible exact LeO.refl _)
      | (with_reducible exact LeO.none _)
      | (with_reducible refine LeO.ite ?_ ?_)
      | (with_reducible refine LeO.bind ?_ (fun _ => ?_))
      | exact ih0 _ _ _ _ _ _ _
      | exact ih1 _ _ _ _ _ _
      | exact ih2 _ _ _ _ _ _
      | exact ih3 _ _ _ _
      | exact spec_has.mono _ _ _
      | exact LeO.none _
      | refine LeO.ite ?_ ?_
      | refine LeO.bind ?_ (fun _ => ?_)
    · intro y0 y1 y2 y3 y4 y5
      unfold spec_isExprTree.j1
      repeat' first
      | (with_reducible exact ih0 _ _ _ _ _ _ _)
      | (with_reducible exact ih1 _ _ _ _ _ _)
      | (with_reducible exact ih2 _ _ _ _ _ _)
      | (with_reducible exact ih3 _ _ _ _)
      | (with_reducible exact spec_has.mono _ _ _)
      | (with_reducible exact LeO.refl _)
      | (with_reducible exact LeO.none _)
      | (with_reducible refine LeO.ite ?_ ?_)
      | (with_reducible refine LeO.bind ?_ (fun _ => ?_))
      | exact ih0 _ _ _ _ _ _ _
      | exact ih1 _ _ _ _ _ _
      | exact ih2 _ _ _ _ _ _
      | exact ih3 _ _ _ _
      | exact spec_has.mono _ _ _
      | exact LeO.none _
      | refine LeO.ite ?_ ?_
      | refine LeO.bind ?_ (fun _ => ?_)
    · intro y0 y1 y2 y3
      unfold spec_isExprTree.f
      repeat' first
      | (with_reducible exact ih0 _ _ _ _ _ _ _)
      | (with_reducible exact ih1 _ _ _ _ _ _)
      | (with_reducible exact ih2 _ _ _ _ _ _)
      | (with_reducible exact ih3 _ _ _ _)
      | (with_reducible exact spec_has.mono _ _ _)
      | (with_reducible exact LeO.refl _)
      | (with_reducible exact LeO.none _)
      | (with_reducible refine LeO.ite ?_ ?_)
      | (with_reducible refine LeO.bind ?_ (fun _ => ?_))
      | exact ih0 _ _ _ _ _ _ _
      | exact ih1 _ _ _ _ _ _
      | exact ih2 _ _ _ _ _ _
      | exact ih3 _ _ _ _
      | exact spec_has.mono _ _ _
      | exact LeO.none _
      | refine LeO.ite ?_ ?_
      | refine LeO.bind ?_ (fun _ => ?_)
theorem spec_isExprTree.mono : ∀ a0 a1 a2 a3 k, LeO (spec_isExprTree.f k a0 a1 a2 a3) (spec_isExprTree.f (k + 1) a0 a1 a2 a3) := fun a0 a1 a2 a3 k => (spec_tree.mono_l k).2.2.2 a0 a1 a2 a3
abbrev IsC (k : Nat) : Prop := ∀ (a0_0 : ByteArray) (a0_1 : ByteArray) (A0_2 : Option Addr) (c0_2 : Nat) (l0_2 : List (S24)) (a1 : Int) (r : Bool) (w : World) (hr0_2 : Kd.C k24 w A0_2 l0_2.length l0_2) (hc0_2 : l0_2.length ≤ c0_2) (h : spec_isExprTree.f k a0_0 a0_1 l0_2 a1 = some r),
    Calls Tryz.prog 20 #[.agg #[.string a0_0, .string a0_1, .slice A0_2 l0_2.length c0_2], .int .i64 a1] w fun e w' => e = .returned (.bool r) ∧ Below w.heap.size w w'
abbrev AreC (k : Nat) : Prop := ∀ (A0 : Option Addr) (c0 : Nat) (l0 : List (S24)) (a1 : Int) (a2 : Int) (a3 : Int) (r : Bool) (w : World) (hr0 : Kd.C k24 w A0 l0.length l0) (hc0 : l0.length ≤ c0) (h : spec_areExprTrees.l0 k l0 a1 a2 a3 l0 (l0.length : Int) 0 = some r),
    Calls Tryz.prog 31 #[.slice A0 l0.length c0, .int .i64 a1, .int .i64 a2, .int .i64 a3] w fun e w' => e = .returned (.bool r) ∧ Below w.heap.size w w'
set_option maxHeartbeats 8000000 in
set_option maxRecDepth 100000 in
theorem spec_areExprTrees.step (k : Nat) (IH : ∀ m, m < k → IsC m) : AreC k := by
  intro A0 c0 l0 a1 a2 a3 r w hr0 hc0 h
  have hu24 := Tryz.underlying24
  have HR0 := Aside0.mk hr0
  have HC0 := Aside0.mk hc0
  clear hr0 hc0
  have HB := Aside0.mk (Below.refl w.heap.size w)
  have H : (spec_areExprTrees.l0 k l0 a1 a2 a3 l0 (l0.length : Int) 0) = some r := h
  clear h
  have H' := Aside0.mk H
  clear H
  go_enter Tryz.func31, Tryz.ntmps31
  go_wp2
  go_loopg [13] k (fun kq v13 w' => ∃ (x13_1 : Int), v13 = .int .i64 x13_1 ∧ Aside0 (spec_areExprTrees.l0 kq l0 a1 a2 a3 l0 (l0.length : Int) x13_1 = some r) ∧ Aside0 (kq ≤ k) ∧ Aside0 (Below w.heap.size w w'))
  case atStart => exact ⟨(0), (by first | rfl | (simp; done) | (simp [*]; done)), H', ⟨Nat.le_refl _⟩, ⟨by repeat (first | (with_reducible first | exact HB.out | apply below_alloc | apply pw_below_drewN | apply below_drew1) | exact HB.out)⟩⟩
  case round =>
    clear H'
    try clear c1
    try clear p2
    obtain ⟨x13_1, rfl, HA, HK1, HB⟩ := hrel
    cases gk with
    | zero => exact absurd HA.out (by simp [spec_areExprTrees.l0])
    | succ k1 =>
      have H := HA.out
      clear HA
      simp only [spec_areExprTrees.l0] at H
      by_cases c5 : x13_1 < (l0.length : Int)
      · rw [if_pos c5] at H
        have c5b0 : decide (x13_1 < (l0.length : Int)) = true := decide_eq_true c5
        clear c5
        by_cases c6 : 0 ≤ x13_1
        · rw [if_pos c6] at H
          have c6b0 : decide (0 ≤ x13_1) = true := decide_eq_true c6
          clear c6
          by_cases c7 : x13_1 < (l0.length : Int)
          · rw [if_pos c7] at H
            have c7b0 : decide (x13_1 < (l0.length : Int)) = true := decide_eq_true c7
            clear c7
            replace H := Option.bind_eq_some_iff.mp H
            obtain ⟨t104, A80, H⟩ := H
            replace H : (if t104 = true then (spec_areExprTrees.l0 k1 l0 a1 a2 a3 l0 (l0.length : Int) (wrap64 (x13_1 + 1))) else (some false)) = some r := H
            have A8 := Aside0.mk A80
            clear A80
            by_cases c9 : t104 = true
            · subst c9
              have H1 : (spec_areExprTrees.l0 k1 l0 a1 a2 a3 l0 (l0.length : Int) (wrap64 (x13_1 + 1))) = some r := by rw [if_pos rfl] at H; exact H
              clear H
              have H := H1
              clear H1
              have H' := Aside0.mk H
              clear H
              have p102 : 0 ≤ (x13_1 : Int) := of_decide_eq_true (by first | (with_reducible assumption) | assumption)
              have q102 : x13_1 < (l0.length : Int) := of_decide_eq_true (by first | (with_reducible assumption) | assumption)
              obtain ⟨ad102, A102_2, c102_2, e102, hx102_0, hx102_1, hx102_2, hl102_2, hi102_2⟩ := at_T24 HR0.out x13_1 p102 q102
              cases e102
              replace hx102_0 := (HB.out.cell (World.block_lt_of_cell? w _ hx102_0)).trans hx102_0
              replace hx102_1 := (HB.out.cell (World.block_lt_of_cell? w _ hx102_1)).trans hx102_1
              replace hx102_2 := (HB.out.cell (World.block_lt_of_cell? w _ hx102_2)).trans hx102_2
              have HR102_2 := Aside0.mk hi102_2
              have HC102_2 := Aside0.mk hl102_2
              clear hi102_2 hl102_2
              replace p102 := eq_true p102
              replace q102 := eq_true q102
              go_wp2_with (first | ((with_reducible refine gate_dst (N := 10) rfl ?_); (try (refine gate_guard (by rfl) ?_; dsimp only)); refine box_event ?hg (N := 10) ?hd (cs := #[.string (⟨#[]⟩ : ByteArray), .string (⟨#[]⟩ : ByteArray), .slice none 0 0]) (t := 24) ?hr ?_; (case hd => rfl); (case hg => rfl); (case hr => first | (go_simp; done) | (go_simp; rfl)); intro gb103 hg w10 hbox hb; have n0_ := Aside0.mk (below_step (by repeat (first | (with_reducible first | exact HB.out | apply below_alloc | apply pw_below_drewN | apply below_drew1) | exact HB.out)) hb); have n1_ := Aside0.mk (hbox); have n2_ := Aside0.mk ((by rw [hg]; exact (below_size (by repeat (first | (with_reducible first | exact HB.out | apply below_alloc | apply pw_below_drewN | apply below_drew1) | exact HB.out))) : w.heap.size ≤ gb103)); have n3_ := Aside0.mk ((by rw [hg]; exact (below_size (by repeat (first | (with_reducible first | exact HB.out | apply below_alloc | apply pw_below_drewN | apply below_drew1) | exact HB.out))) : w.heap.size ≤ gb103)); clear HB; have HB := n0_; have BK103 := n1_; have GW103 := n2_; have GE103 := n3_; clear n0_ n1_ n2_ n3_; clear hb hbox hg; have hcz11_0 : w10.cell? ⟨gb103, 0, none⟩ = some (.string (⟨#[]⟩ : ByteArray)) := (blk_cell BK103.out 0).trans rfl; have hcz11_1 : w10.cell? ⟨gb103, 1, none⟩ = some (.string (⟨#[]⟩ : ByteArray)) := (blk_cell BK103.out 1).trans rfl; have hcz11_2 : w10.cell? ⟨gb103, 2, none⟩ = some (.slice none 0 0) := (blk_cell BK103.out 2).trans rfl; have hfz11_0 := blk_frozen BK103.out 0; have hfz11_1 := blk_frozen BK103.out 1; have hfz11_2 := blk_frozen BK103.out 2) | ((with_reducible refine gate_callee (f := 20) rfl ?_); refine goesL_ (some 19) rfl rfl Tryz.func20 (by kernel_rfl) rfl #[.agg #[.string ((rd_T24 l0 x13_1).f0), .string ((rd_T24 l0 x13_1).f1), .slice A102_2 ((rd_T24 l0 x13_1).f2).length c102_2], .int .i64 a3] rfl (by (try simp only [List.map_toArray, List.map_cons, List.map_nil]); first | done | rfl | (simp only [List.length_drop, List.length_take]; rfl)) ?_; (with_reducible refine (IH k1 (by have := HK1.out; omega) ((rd_T24 l0 x13_1).f0) ((rd_T24 l0 x13_1).f1) _ _ ((rd_T24 l0 x13_1).f2) a3 true _ ?side1 ?side2 A8.out).mono ?_); (case side1 => exact Kd.C_below HR102_2.out (by repeat (first | (with_reducible first | exact HB.out | apply below_alloc | apply pw_below_drewN | apply below_drew1 | refine below_set ?_ GE103.out) | exact HB.out))); (case side2 => exact HC102_2.out); rintro e w12 ⟨rfl, hb⟩; refine ⟨_, rfl, ?_⟩; have n0_ := Aside0.mk (blk_below (g := gb103) (o := .cells #[.string ((rd_T24 l0 x13_1).f0), .string ((rd_T24 l0 x13_1).f1), .slice A102_2 ((rd_T24 l0 x13_1).f2).length c102_2] 24 (0, 0)) (by (with_reducible repeat (first | refine blk_drewN ?_ _ | refine blk_drew ?_ | refine blk_alloc ?_ _)); refine blk_put (cs := #[.string ((rd_T24 l0 x13_1).f0), .string ((rd_T24 l0 x13_1).f1), .slice none 0 0]) ?_ 2 _ rfl; (with_reducible repeat (first | refine blk_drewN ?_ _ | refine blk_drew ?_ | refine blk_alloc ?_ _)); refine blk_put (cs := #[.string ((rd_T24 l0 x13_1).f0), .string (⟨#[]⟩ : ByteArray), .slice none 0 0]) ?_ 1 _ rfl; (with_reducible repeat (first | refine blk_drewN ?_ _ | refine blk_drew ?_ | refine blk_alloc ?_ _)); refine blk_put (cs := #[.string (⟨#[]⟩ : ByteArray), .string (⟨#[]⟩ : ByteArray), .slice none 0 0]) ?_ 0 _ rfl; (with_reducible repeat (first | refine blk_drewN ?_ _ | refine blk_drew ?_ | refine blk_alloc ?_ _)); exact BK103.out) hb); have n1_ := Aside0.mk (below_step (by repeat (first | (with_reducible first | exact HB.out | apply below_alloc | apply pw_below_drewN | apply below_drew1 | refine below_set ?_ GE103.out) | exact HB.out)) hb); clear BK103; clear HB; have BK103 := n0_; have HB := n1_; clear n0_ n1_; (try clear hb); (try clear hb2); (try clear hk); (try clear hi)))
              go_roundg k1
              case measure => have := HK1.out; omega
              case rel => exact ⟨(wrap64 (x13_1 + 1)), (by first | rfl | (simp; done) | (simp [*]; done)), H', ⟨by have := HK1.out; omega⟩, ⟨by repeat (first | (with_reducible first | exact HB.out | apply below_alloc | apply pw_below_drewN | apply below_drew1 | refine below_set ?_ GE103.out) | exact HB.out)⟩⟩
            · replace c9 := Bool.eq_false_iff.mpr c9
              subst c9
              have H1 : (some false) = some r := by rw [if_neg (show ¬ (false = true) by decide)] at H; exact H
              clear H
              have H := H1
              clear H1
              obtain rfl := Option.some.inj H
              have p102 : 0 ≤ (x13_1 : Int) := of_decide_eq_true (by first | (with_reducible assumption) | assumption)
              have q102 : x13_1 < (l0.length : Int) := of_decide_eq_true (by first | (with_reducible assumption) | assumption)
              obtain ⟨ad102, A102_2, c102_2, e102, hx102_0, hx102_1, hx102_2, hl102_2, hi102_2⟩ := at_T24 HR0.out x13_1 p102 q102
              cases e102
              replace hx102_0 := (HB.out.cell (World.block_lt_of_cell? w _ hx102_0)).trans hx102_0
              replace hx102_1 := (HB.out.cell (World.block_lt_of_cell? w _ hx102_1)).trans hx102_1
              replace hx102_2 := (HB.out.cell (World.block_lt_of_cell? w _ hx102_2)).trans hx102_2
              have HR102_2 := Aside0.mk hi102_2
              have HC102_2 := Aside0.mk hl102_2
              clear hi102_2 hl102_2
              replace p102 := eq_true p102
              replace q102 := eq_true q102
              go_wp2_with (first | ((with_reducible refine gate_dst (N := 10) rfl ?_); (try (refine gate_guard (by rfl) ?_; dsimp only)); refine box_event ?hg (N := 10) ?hd (cs := #[.string (⟨#[]⟩ : ByteArray), .string (⟨#[]⟩ : ByteArray), .slice none 0 0]) (t := 24) ?hr ?_; (case hd => rfl); (case hg => rfl); (case hr => first | (go_simp; done) | (go_simp; rfl)); intro gb103 hg w13 hbox hb; have n0_ := Aside0.mk (below_step (by repeat (first | (with_reducible first | exact HB.out | apply below_alloc | apply pw_below_drewN | apply below_drew1) | exact HB.out)) hb); have n1_ := Aside0.mk (hbox); have n2_ := Aside0.mk ((by rw [hg]; exact (below_size (by repeat (first | (with_reducible first | exact HB.out | apply below_alloc | apply pw_below_drewN | apply below_drew1) | exact HB.out))) : w.heap.size ≤ gb103)); have n3_ := Aside0.mk ((by rw [hg]; exact (below_size (by repeat (first | (with_reducible first | exact HB.out | apply below_alloc | apply pw_below_drewN | apply below_drew1) | exact HB.out))) : w.heap.size ≤ gb103)); clear HB; have HB := n0_; have BK103 := n1_; have GW103 := n2_; have GE103 := n3_; clear n0_ n1_ n2_ n3_; clear hb hbox hg; have hcz14_0 : w13.cell? ⟨gb103, 0, none⟩ = some (.string (⟨#[]⟩ : ByteArray)) := (blk_cell BK103.out 0).trans rfl; have hcz14_1 : w13.cell? ⟨gb103, 1, none⟩ = some (.string (⟨#[]⟩ : ByteArray)) := (blk_cell BK103.out 1).trans rfl; have hcz14_2 : w13.cell? ⟨gb103, 2, none⟩ = some (.slice none 0 0) := (blk_cell BK103.out 2).trans rfl; have hfz14_0 := blk_frozen BK103.out 0; have hfz14_1 := blk_frozen BK103.out 1; have hfz14_2 := blk_frozen BK103.out 2) | ((with_reducible refine gate_callee (f := 20) rfl ?_); refine goesL_ (some 19) rfl rfl Tryz.func20 (by kernel_rfl) rfl #[.agg #[.string ((rd_T24 l0 x13_1).f0), .string ((rd_T24 l0 x13_1).f1), .slice A102_2 ((rd_T24 l0 x13_1).f2).length c102_2], .int .i64 a3] rfl (by (try simp only [List.map_toArray, List.map_cons, List.map_nil]); first | done | rfl | (simp only [List.length_drop, List.length_take]; rfl)) ?_; (with_reducible refine (IH k1 (by have := HK1.out; omega) ((rd_T24 l0 x13_1).f0) ((rd_T24 l0 x13_1).f1) _ _ ((rd_T24 l0 x13_1).f2) a3 false _ ?side1 ?side2 A8.out).mono ?_); (case side1 => exact Kd.C_below HR102_2.out (by repeat (first | (with_reducible first | exact HB.out | apply below_alloc | apply pw_below_drewN | apply below_drew1 | refine below_set ?_ GE103.out) | exact HB.out))); (case side2 => exact HC102_2.out); rintro e w15 ⟨rfl, hb⟩; refine ⟨_, rfl, ?_⟩; have n0_ := Aside0.mk (blk_below (g := gb103) (o := .cells #[.string ((rd_T24 l0 x13_1).f0), .string ((rd_T24 l0 x13_1).f1), .slice A102_2 ((rd_T24 l0 x13_1).f2).length c102_2] 24 (0, 0)) (by (with_reducible repeat (first | refine blk_drewN ?_ _ | refine blk_drew ?_ | refine blk_alloc ?_ _)); refine blk_put (cs := #[.string ((rd_T24 l0 x13_1).f0), .string ((rd_T24 l0 x13_1).f1), .slice none 0 0]) ?_ 2 _ rfl; (with_reducible repeat (first | refine blk_drewN ?_ _ | refine blk_drew ?_ | refine blk_alloc ?_ _)); refine blk_put (cs := #[.string ((rd_T24 l0 x13_1).f0), .string (⟨#[]⟩ : ByteArray), .slice none 0 0]) ?_ 1 _ rfl; (with_reducible repeat (first | refine blk_drewN ?_ _ | refine blk_drew ?_ | refine blk_alloc ?_ _)); refine blk_put (cs := #[.string (⟨#[]⟩ : ByteArray), .string (⟨#[]⟩ : ByteArray), .slice none 0 0]) ?_ 0 _ rfl; (with_reducible repeat (first | refine blk_drewN ?_ _ | refine blk_drew ?_ | refine blk_alloc ?_ _)); exact BK103.out) hb); have n1_ := Aside0.mk (below_step (by repeat (first | (with_reducible first | exact HB.out | apply below_alloc | apply pw_below_drewN | apply below_drew1 | refine below_set ?_ GE103.out) | exact HB.out)) hb); clear BK103; clear HB; have BK103 := n0_; have HB := n1_; clear n0_ n1_; (try clear hb); (try clear hb2); (try clear hk); (try clear hi)))
              go_ret
              exact ⟨by first | rfl | (simp [errW_none, errW_some] <;> rfl) | (simp [*, errW_none, errW_some] <;> rfl), by repeat (first | (with_reducible first | exact HB.out | apply below_alloc | apply pw_below_drewN | apply below_drew1 | refine below_set ?_ GE103.out) | exact HB.out)⟩
          · rw [if_neg c7] at H
            exact absurd H (by simp)
        · rw [if_neg c6] at H
          exact absurd H (by simp)
      · rw [if_neg c5] at H
        have c5b0 : decide (x13_1 < (l0.length : Int)) = false := decide_eq_false c5
        clear c5
        by_cases c16 : (l0.length : Int) ≥ a1
        · rw [if_pos c16] at H
          have c16b0 : decide (a1 ≤ (l0.length : Int)) = true := decide_eq_true c16
          clear c16
          obtain rfl := Option.some.inj H
          go_wp2
          go_ret
          exact ⟨by first | rfl | (simp [errW_none, errW_some] <;> rfl) | (simp [*, errW_none, errW_some] <;> rfl), by repeat (first | (with_reducible first | exact HB.out | apply below_alloc | apply pw_below_drewN | apply below_drew1) | exact HB.out)⟩
        · rw [if_neg c16] at H
          have c16b0 : decide (a1 ≤ (l0.length : Int)) = false := decide_eq_false c16
          clear c16
          obtain rfl := Option.some.inj H
          go_wp2
          go_ret
          exact ⟨by first | rfl | (simp [errW_none, errW_some] <;> rfl) | (simp [*, errW_none, errW_some] <;> rfl), by repeat (first | (with_reducible first | exact HB.out | apply below_alloc | apply pw_below_drewN | apply below_drew1) | exact HB.out)⟩
set_option maxHeartbeats 8000000 in
set_option maxRecDepth 100000 in
theorem spec_isExprTree.step (k : Nat) (IH : ∀ m, m < k → AreC m) : IsC k := by
  intro a0_0 a0_1 A0_2 c0_2 l0_2 a1 r w hr0_2 hc0_2 h
  cases k with
  | zero => exact absurd h (by simp [spec_isExprTree.f])
  | succ k =>
  simp only [spec_isExprTree.f] at h
  have hu24 := Tryz.underlying24
  have HR0_2 := Aside0.mk hr0_2
  have HC0_2 := Aside0.mk hc0_2
  clear hr0_2 hc0_2
  have HB := Aside0.mk (Below.refl w.heap.size w)
  have H : (if a1 < 1 then (some false) else (if a0_0.toList = ([110, 97, 109, 101] : List UInt8) then (spec_isExprTree.j0 k a1 a0_0 (a0_0.toList == ([110, 97, 109, 101] : List UInt8)) a0_0 a0_1 l0_2) else (spec_isExprTree.j0 k a1 a0_0 (a0_0.toList == ([105, 110, 116] : List UInt8)) a0_0 a0_1 l0_2))) = some r := h
  clear h
  by_cases c3 : a1 < 1
  · rw [if_pos c3] at H
    have c3b0 : decide (a1 < 1) = true := decide_eq_true c3
    clear c3
    obtain rfl := Option.some.inj H
    go_enter Tryz.func20, Tryz.ntmps20
    go_wp2_with (first | ((with_reducible refine gate_dst (N := 2) rfl ?_); (try (refine gate_guard (by rfl) ?_; dsimp only)); refine box_event ?hg (N := 2) ?hd (cs := #[.string a0_0, .string a0_1, .slice A0_2 l0_2.length c0_2]) (t := 24) ?hr ?_; (case hd => rfl); (case hg => rfl); (case hr => first | (go_simp; done) | (go_simp; rfl)); intro gb102 hg w4 hbox hb; have n0_ := Aside0.mk (below_step (by repeat (first | (with_reducible first | exact HB.out | apply below_alloc | apply pw_below_drewN | apply below_drew1) | exact HB.out)) hb); have n1_ := Aside0.mk (hbox); have n2_ := Aside0.mk ((by rw [hg]; exact (below_size (by repeat (first | (with_reducible first | exact HB.out | apply below_alloc | apply pw_below_drewN | apply below_drew1) | exact HB.out))) : w.heap.size ≤ gb102)); have n3_ := Aside0.mk ((by rw [hg]; exact (below_size (by repeat (first | (with_reducible first | exact HB.out | apply below_alloc | apply pw_below_drewN | apply below_drew1) | exact HB.out))) : w.heap.size ≤ gb102)); clear HB; have HB := n0_; have BK102 := n1_; have GW102 := n2_; have GE102 := n3_; clear n0_ n1_ n2_ n3_; clear hb hbox hg))
    go_ret
    exact ⟨by first | rfl | (simp [errW_none, errW_some] <;> rfl) | (simp [*, errW_none, errW_some] <;> rfl), by repeat (first | (with_reducible first | exact HB.out | apply below_alloc | apply pw_below_drewN | apply below_drew1 | refine below_set ?_ GE102.out) | exact HB.out)⟩
  · rw [if_neg c3] at H
    have c3b0 : decide (a1 < 1) = false := decide_eq_false c3
    clear c3
    have HC5 := Aside0.mk H
    clear H
    go_enter Tryz.func20, Tryz.ntmps20
    go_upto_if 9 with (first | ((with_reducible refine gate_dst (N := 2) rfl ?_); (try (refine gate_guard (by rfl) ?_; dsimp only)); refine box_event ?hg (N := 2) ?hd (cs := #[.string a0_0, .string a0_1, .slice A0_2 l0_2.length c0_2]) (t := 24) ?hr ?_; (case hd => rfl); (case hg => rfl); (case hr => first | (go_simp; done) | (go_simp; rfl)); intro gb102 hg w6 hbox hb; have n0_ := Aside0.mk (below_step (by repeat (first | (with_reducible first | exact HB.out | apply below_alloc | apply pw_below_drewN | apply below_drew1) | exact HB.out)) hb); have n1_ := Aside0.mk (hbox); have n2_ := Aside0.mk ((by rw [hg]; exact (below_size (by repeat (first | (with_reducible first | exact HB.out | apply below_alloc | apply pw_below_drewN | apply below_drew1) | exact HB.out))) : w.heap.size ≤ gb102)); have n3_ := Aside0.mk ((by rw [hg]; exact (below_size (by repeat (first | (with_reducible first | exact HB.out | apply below_alloc | apply pw_below_drewN | apply below_drew1) | exact HB.out))) : w.heap.size ≤ gb102)); clear HB; have HB := n0_; have BK102 := n1_; have GW102 := n2_; have GE102 := n3_; clear n0_ n1_ n2_ n3_; clear hb hbox hg; have hcz7_0 : w6.cell? ⟨gb102, 0, none⟩ = some (.string a0_0) := (blk_cell BK102.out 0).trans rfl; have hcz7_1 : w6.cell? ⟨gb102, 1, none⟩ = some (.string a0_1) := (blk_cell BK102.out 1).trans rfl; have hcz7_2 : w6.cell? ⟨gb102, 2, none⟩ = some (.slice A0_2 l0_2.length c0_2) := (blk_cell BK102.out 2).trans rfl; have hfz7_0 := blk_frozen BK102.out 0; have hfz7_1 := blk_frozen BK102.out 1; have hfz7_2 := blk_frozen BK102.out 2))
    (try simp only [Act.put, List.setIfInBounds_toArray, List.set_cons_zero, List.set_cons_succ])
    go_cut [9] (fun v9 wc => ∃ (kq : Nat) (x9_4 : Bool), v9 = .bool x9_4 ∧ Aside0 (spec_isExprTree.j0 kq a1 a0_0 x9_4 a0_0 a0_1 l0_2 = some r) ∧ Aside0 (kq ≤ k) ∧ Aside0 (wc.heap[gb102]? = some (.cells #[.string a0_0, .string a0_1, (.slice A0_2 l0_2.length c0_2)] 24 (0, 0))) ∧ Aside0 (Below w.heap.size w wc))
    case first =>
      have H := HC5.out
      clear HC5
      by_cases c8 : a0_0.toList = ([110, 97, 109, 101] : List UInt8)
      · rw [if_pos c8] at H
        have c8b0 : (a0_0.toList == ([110, 97, 109, 101] : List UInt8)) = true := beq_iff_eq.mpr c8
        have c8b1 : (a0_0.toList != ([110, 97, 109, 101] : List UInt8)) = false := bne_eq_false_iff_eq.mpr c8
        clear c8
        (first | rw [c8b0] | (simp only [i64_w, i32_w]; rw [c8b0]) | skip)
        have H' := Aside0.mk H
        clear H
        go_wp2
        go_meet
        case rel => exact ⟨_, ((a0_0.toList == ([110, 97, 109, 101] : List UInt8))), (by first | rfl | (simp; done) | (simp [*]; done)), H', ⟨by first | omega | exact Nat.le_refl _⟩, ⟨by (with_reducible repeat (first | refine blk_drewN ?_ _ | refine blk_drew ?_ | refine blk_alloc ?_ _)); exact BK102.out⟩, ⟨by repeat (first | (with_reducible first | exact HB.out | apply below_alloc | apply pw_below_drewN | apply below_drew1 | refine below_set ?_ GE102.out) | exact HB.out)⟩⟩
      · rw [if_neg c8] at H
        have c8b0 : (a0_0.toList == ([110, 97, 109, 101] : List UInt8)) = false := beq_eq_false_iff_ne.mpr c8
        have c8b1 : (a0_0.toList != ([110, 97, 109, 101] : List UInt8)) = true := bne_iff_ne.mpr c8
        (first | rw [c8b0] | (simp only [i64_w, i32_w]; rw [c8b0]) | skip)
        have H' := Aside0.mk H
        clear H
        go_wp2
        go_meet
        case rel => exact ⟨_, ((a0_0.toList == ([105, 110, 116] : List UInt8))), (by first | rfl | (simp; done) | (simp [*]; done)), H', ⟨by first | omega | exact Nat.le_refl _⟩, ⟨by (with_reducible repeat (first | refine blk_drewN ?_ _ | refine blk_drew ?_ | refine blk_alloc ?_ _)); exact BK102.out⟩, ⟨by repeat (first | (with_reducible first | exact HB.out | apply below_alloc | apply pw_below_drewN | apply below_drew1 | refine below_set ?_ GE102.out) | exact HB.out)⟩⟩
    case rest =>
      clear HC5
      try clear p2
      try clear c3
      try clear c3b0
      try clear c8
      try clear c8b0
      try clear c8b1
      try clear hcz7_0
      try clear hcz7_1
      try clear hcz7_2
      try clear hfz7_0
      try clear hfz7_1
      try clear hfz7_2
      obtain ⟨kq, x9_4, rfl, HA, HJ4, BK102, HB⟩ := hcut
      cases kq with
      | zero => exact absurd HA.out (by simp [spec_isExprTree.j0])
      | succ kj4 =>
        have H := HA.out
        clear HA
        simp only [spec_isExprTree.j0] at H
        by_cases c9 : x9_4 = true
        · subst c9
          have H1 : (if a0_1.toList = ([] : List UInt8) then (some false) else (some ((l0_2.length : Int) == 0))) = some r := by rw [if_pos rfl] at H; exact H
          clear H
          have H := H1
          clear H1
          by_cases c10 : a0_1.toList = ([] : List UInt8)
          · rw [if_pos c10] at H
            have c10b0 : (a0_1.toList == ([] : List UInt8)) = true := beq_iff_eq.mpr c10
            have c10b1 : (a0_1.toList != ([] : List UInt8)) = false := bne_eq_false_iff_eq.mpr c10
            clear c10
            obtain rfl := Option.some.inj H
            have hcz11_0 : wc.cell? ⟨gb102, 0, none⟩ = some (.string a0_0) := (blk_cell BK102.out 0).trans rfl
            have hcz11_1 : wc.cell? ⟨gb102, 1, none⟩ = some (.string a0_1) := (blk_cell BK102.out 1).trans rfl
            have hcz11_2 : wc.cell? ⟨gb102, 2, none⟩ = some (.slice A0_2 l0_2.length c0_2) := (blk_cell BK102.out 2).trans rfl
            have hfz11_0 := blk_frozen BK102.out 0
            have hfz11_1 := blk_frozen BK102.out 1
            have hfz11_2 := blk_frozen BK102.out 2
            go_wp2
            go_ret
            exact ⟨by first | rfl | (simp [errW_none, errW_some] <;> rfl) | (simp [*, errW_none, errW_some] <;> rfl), by repeat (first | (with_reducible first | exact HB.out | apply below_alloc | apply pw_below_drewN | apply below_drew1 | refine below_set ?_ GE102.out) | exact HB.out)⟩
          · rw [if_neg c10] at H
            have c10b0 : (a0_1.toList == ([] : List UInt8)) = false := beq_eq_false_iff_ne.mpr c10
            have c10b1 : (a0_1.toList != ([] : List UInt8)) = true := bne_iff_ne.mpr c10
            obtain rfl := Option.some.inj H
            have hcz12_0 : wc.cell? ⟨gb102, 0, none⟩ = some (.string a0_0) := (blk_cell BK102.out 0).trans rfl
            have hcz12_1 : wc.cell? ⟨gb102, 1, none⟩ = some (.string a0_1) := (blk_cell BK102.out 1).trans rfl
            have hcz12_2 : wc.cell? ⟨gb102, 2, none⟩ = some (.slice A0_2 l0_2.length c0_2) := (blk_cell BK102.out 2).trans rfl
            have hfz12_0 := blk_frozen BK102.out 0
            have hfz12_1 := blk_frozen BK102.out 1
            have hfz12_2 := blk_frozen BK102.out 2
            go_wp2
            go_ret
            exact ⟨by first | rfl | (simp [errW_none, errW_some] <;> rfl) | (simp [*, errW_none, errW_some] <;> rfl), by repeat (first | (with_reducible first | exact HB.out | apply below_alloc | apply pw_below_drewN | apply below_drew1 | refine below_set ?_ GE102.out) | exact HB.out)⟩
        · replace c9 := Bool.eq_false_iff.mpr c9
          subst c9
          have H1 : (if a0_0.toList = ([112, 97, 114, 101, 110] : List UInt8) then (spec_isExprTree.j1 kj4 a1 a0_0 (a0_0.toList == ([112, 97, 114, 101, 110] : List UInt8)) a0_0 a0_1 l0_2) else (spec_isExprTree.j1 kj4 a1 a0_0 (a0_0.toList == ([115, 101, 108, 101, 99, 116, 111, 114] : List UInt8)) a0_0 a0_1 l0_2)) = some r := by rw [if_neg (show ¬ (false = true) by decide)] at H; exact H
          clear H
          have H := H1
          clear H1
          have HC13 := Aside0.mk H
          clear H
          go_upto_if 21 with (fail)
          go_cut [21] (fun v21 wc => ∃ (kq : Nat) (x21_12 : Bool), v21 = .bool x21_12 ∧ Aside0 (spec_isExprTree.j1 kq a1 a0_0 x21_12 a0_0 a0_1 l0_2 = some r) ∧ Aside0 (kq ≤ kj4) ∧ Aside0 (wc.heap[gb102]? = some (.cells #[.string a0_0, .string a0_1, (.slice A0_2 l0_2.length c0_2)] 24 (0, 0))) ∧ Aside0 (Below w.heap.size w wc))
          case first =>
            have H := HC13.out
            clear HC13
            by_cases c14 : a0_0.toList = ([112, 97, 114, 101, 110] : List UInt8)
            · rw [if_pos c14] at H
              have c14b0 : (a0_0.toList == ([112, 97, 114, 101, 110] : List UInt8)) = true := beq_iff_eq.mpr c14
              have c14b1 : (a0_0.toList != ([112, 97, 114, 101, 110] : List UInt8)) = false := bne_eq_false_iff_eq.mpr c14
              clear c14
              (first | rw [c14b0] | (simp only [i64_w, i32_w]; rw [c14b0]) | skip)
              have H' := Aside0.mk H
              clear H
              go_wp2
              go_meet
              case rel => exact ⟨_, ((a0_0.toList == ([112, 97, 114, 101, 110] : List UInt8))), (by first | rfl | (simp; done) | (simp [*]; done)), H', ⟨by have := HJ4.out; first | omega | exact Nat.le_refl _⟩, ⟨by (with_reducible repeat (first | refine blk_drewN ?_ _ | refine blk_drew ?_ | refine blk_alloc ?_ _)); exact BK102.out⟩, ⟨by repeat (first | (with_reducible first | exact HB.out | apply below_alloc | apply pw_below_drewN | apply below_drew1 | refine below_set ?_ GE102.out) | exact HB.out)⟩⟩
            · rw [if_neg c14] at H
              have c14b0 : (a0_0.toList == ([112, 97, 114, 101, 110] : List UInt8)) = false := beq_eq_false_iff_ne.mpr c14
              have c14b1 : (a0_0.toList != ([112, 97, 114, 101, 110] : List UInt8)) = true := bne_iff_ne.mpr c14
              (first | rw [c14b0] | (simp only [i64_w, i32_w]; rw [c14b0]) | skip)
              have H' := Aside0.mk H
              clear H
              go_wp2
              go_meet
              case rel => exact ⟨_, ((a0_0.toList == ([115, 101, 108, 101, 99, 116, 111, 114] : List UInt8))), (by first | rfl | (simp; done) | (simp [*]; done)), H', ⟨by have := HJ4.out; first | omega | exact Nat.le_refl _⟩, ⟨by (with_reducible repeat (first | refine blk_drewN ?_ _ | refine blk_drew ?_ | refine blk_alloc ?_ _)); exact BK102.out⟩, ⟨by repeat (first | (with_reducible first | exact HB.out | apply below_alloc | apply pw_below_drewN | apply below_drew1 | refine below_set ?_ GE102.out) | exact HB.out)⟩⟩
          case rest =>
            clear HC13
            try clear c1
            try clear p2
            try clear c3
            try clear c3b0
            try clear c8
            try clear c8b0
            try clear c8b1
            try clear c9
            try clear c10
            try clear c10b0
            try clear c10b1
            try clear c14
            try clear c14b0
            try clear c14b1
            try clear hcz11_0
            try clear hcz11_1
            try clear hcz11_2
            try clear hcz12_0
            try clear hcz12_1
            try clear hcz12_2
            try clear hcz7_0
            try clear hcz7_1
            try clear hcz7_2
            try clear hfz11_0
            try clear hfz11_1
            try clear hfz11_2
            try clear hfz12_0
            try clear hfz12_1
            try clear hfz12_2
            try clear hfz7_0
            try clear hfz7_1
            try clear hfz7_2
            try clear p2
            obtain ⟨kq, x21_12, rfl, HA, HJ12, BK102, HB⟩ := hcut
            cases kq with
            | zero => exact absurd HA.out (by simp [spec_isExprTree.j1])
            | succ kj12 =>
              have H := HA.out
              clear HA
              simp only [spec_isExprTree.j1] at H
              by_cases c15 : x21_12 = true
              · subst c15
                have H1 : ((spec_areExprTrees.l0 kj12 l0_2 1 1 (wrap64 (a1 - 1)) l0_2 (l0_2.length : Int) 0).bind fun t103 => (some t103)) = some r := by rw [if_pos rfl] at H; exact H
                clear H
                have H := H1
                clear H1
                replace H := Option.bind_eq_some_iff.mp H
                obtain ⟨t103, A160, H⟩ := H
                replace H : (some t103) = some r := H
                have A16 := Aside0.mk A160
                clear A160
                obtain rfl := Option.some.inj H
                have hcz17_0 : wc.cell? ⟨gb102, 0, none⟩ = some (.string a0_0) := (blk_cell BK102.out 0).trans rfl
                have hcz17_1 : wc.cell? ⟨gb102, 1, none⟩ = some (.string a0_1) := (blk_cell BK102.out 1).trans rfl
                have hcz17_2 : wc.cell? ⟨gb102, 2, none⟩ = some (.slice A0_2 l0_2.length c0_2) := (blk_cell BK102.out 2).trans rfl
                have hfz17_0 := blk_frozen BK102.out 0
                have hfz17_1 := blk_frozen BK102.out 1
                have hfz17_2 := blk_frozen BK102.out 2
                go_wp2_with (first | ((with_reducible refine gate_callee (f := 31) rfl ?_); refine goesL_ (some 28) rfl rfl Tryz.func31 (by kernel_rfl) rfl #[.slice A0_2 l0_2.length c0_2, .int .i64 1, .int .i64 1, .int .i64 (wrap64 (a1 - 1))] rfl (by (try simp only [List.map_toArray, List.map_cons, List.map_nil]); first | done | rfl | (simp only [List.length_drop, List.length_take]; rfl)) ?_; (with_reducible refine (IH kj12 (by have := HJ4.out; have := HJ12.out; omega) _ _ l0_2 1 1 (wrap64 (a1 - 1)) t103 _ ?side1 ?side2 A16.out).mono ?_); (case side1 => repeat (first | exact (Kd.C_below HR0_2.out HB.out) | (with_reducible refine Kd.C_alloc ?_ _) | (with_reducible refine Kd.C_drewN ?_ _) | (with_reducible refine Kd.C_drew ?_))); (case side2 => exact HC0_2.out); rintro e w18 ⟨rfl, hb⟩; refine ⟨_, rfl, ?_⟩; have n0_ := Aside0.mk (blk_below (g := gb102) (o := .cells #[.string a0_0, .string a0_1, .slice A0_2 l0_2.length c0_2] 24 (0, 0)) (by (with_reducible repeat (first | refine blk_drewN ?_ _ | refine blk_drew ?_ | refine blk_alloc ?_ _)); exact BK102.out) hb); have n1_ := Aside0.mk (below_step (by repeat (first | (with_reducible first | exact HB.out | apply below_alloc | apply pw_below_drewN | apply below_drew1 | refine below_set ?_ GE102.out) | exact HB.out)) hb); clear BK102; clear HB; have BK102 := n0_; have HB := n1_; clear n0_ n1_; (try clear hb); (try clear hb2); (try clear hk); (try clear hi)))
                go_ret
                exact ⟨by first | rfl | (simp [errW_none, errW_some] <;> rfl) | (simp [*, errW_none, errW_some] <;> rfl), by repeat (first | (with_reducible first | exact HB.out | apply below_alloc | apply pw_below_drewN | apply below_drew1 | refine below_set ?_ GE102.out) | exact HB.out)⟩
              · replace c15 := Bool.eq_false_iff.mpr c15
                subst c15
                have H1 : (if a0_0.toList = ([117, 110, 97, 114, 121] : List UInt8) then ((spec_has.f kj12 (⟨#[42, 32, 45, 32, 43, 32, 33, 32, 94, 32, 38]⟩ : ByteArray) a0_1).bind fun t104 => (if t104 = true then (if (a0_1.size : Int) = 1 then (if a0_1.toList = ([32] : List UInt8) then (some false) else ((spec_areExprTrees.l0 kj12 l0_2 1 1 (wrap64 (a1 - 1)) l0_2 (l0_2.length : Int) 0).bind fun t105 => (some t105))) else (some false)) else (some false))) else (if a0_0.toList = ([98, 105, 110, 97, 114, 121] : List UInt8) then ((spec_has.f kj12 (⟨#[43, 32, 45, 32, 42, 32, 47, 32, 37, 32, 38, 32, 124, 32, 94, 32, 60, 32, 62]⟩ : ByteArray) a0_1).bind fun t106 => (if t106 = true then (if (a0_1.size : Int) = 1 then (if a0_1.toList = ([32] : List UInt8) then (some false) else ((spec_areExprTrees.l0 kj12 l0_2 2 2 (wrap64 (a1 - 1)) l0_2 (l0_2.length : Int) 0).bind fun t107 => (some t107))) else (some false)) else (some false))) else (if a0_0.toList = ([105, 110, 100, 101, 120] : List UInt8) then ((spec_areExprTrees.l0 kj12 l0_2 2 2 (wrap64 (a1 - 1)) l0_2 (l0_2.length : Int) 0).bind fun t108 => (some t108)) else (if a0_0.toList = ([99, 97, 108, 108] : List UInt8) then ((spec_areExprTrees.l0 kj12 l0_2 1 20 (wrap64 (a1 - 1)) l0_2 (l0_2.length : Int) 0).bind fun t109 => (some t109)) else (some false))))) = some r := by rw [if_neg (show ¬ (false = true) by decide)] at H; exact H
                clear H
                have H := H1
                clear H1
                by_cases c19 : a0_0.toList = ([117, 110, 97, 114, 121] : List UInt8)
                · rw [if_pos c19] at H
                  have c19b0 : (a0_0.toList == ([117, 110, 97, 114, 121] : List UInt8)) = true := beq_iff_eq.mpr c19
                  have c19b1 : (a0_0.toList != ([117, 110, 97, 114, 121] : List UInt8)) = false := bne_eq_false_iff_eq.mpr c19
                  clear c19
                  replace H := Option.bind_eq_some_iff.mp H
                  obtain ⟨t104, A200, H⟩ := H
                  replace H : (if t104 = true then (if (a0_1.size : Int) = 1 then (if a0_1.toList = ([32] : List UInt8) then (some false) else ((spec_areExprTrees.l0 kj12 l0_2 1 1 (wrap64 (a1 - 1)) l0_2 (l0_2.length : Int) 0).bind fun t105 => (some t105))) else (some false)) else (some false)) = some r := H
                  have A20 := Aside0.mk A200
                  clear A200
                  by_cases c21 : t104 = true
                  · subst c21
                    have H1 : (if (a0_1.size : Int) = 1 then (if a0_1.toList = ([32] : List UInt8) then (some false) else ((spec_areExprTrees.l0 kj12 l0_2 1 1 (wrap64 (a1 - 1)) l0_2 (l0_2.length : Int) 0).bind fun t105 => (some t105))) else (some false)) = some r := by rw [if_pos rfl] at H; exact H
                    clear H
                    have H := H1
                    clear H1
                    by_cases c22 : (a0_1.size : Int) = 1
                    · rw [if_pos c22] at H
                      have c22b0 : ((a0_1.size : Int) == 1) = true := beq_iff_eq.mpr c22
                      have c22b1 : ((a0_1.size : Int) != 1) = false := bne_eq_false_iff_eq.mpr c22
                      clear c22
                      by_cases c23 : a0_1.toList = ([32] : List UInt8)
                      · rw [if_pos c23] at H
                        have c23b0 : (a0_1.toList == ([32] : List UInt8)) = true := beq_iff_eq.mpr c23
                        have c23b1 : (a0_1.toList != ([32] : List UInt8)) = false := bne_eq_false_iff_eq.mpr c23
                        clear c23
                        obtain rfl := Option.some.inj H
                        have hcz24_0 : wc.cell? ⟨gb102, 0, none⟩ = some (.string a0_0) := (blk_cell BK102.out 0).trans rfl
                        have hcz24_1 : wc.cell? ⟨gb102, 1, none⟩ = some (.string a0_1) := (blk_cell BK102.out 1).trans rfl
                        have hcz24_2 : wc.cell? ⟨gb102, 2, none⟩ = some (.slice A0_2 l0_2.length c0_2) := (blk_cell BK102.out 2).trans rfl
                        have hfz24_0 := blk_frozen BK102.out 0
                        have hfz24_1 := blk_frozen BK102.out 1
                        have hfz24_2 := blk_frozen BK102.out 2
                        go_wp2_with (first | ((with_reducible refine gate_callee (f := 32) rfl ?_); refine goesL_ (some 33) rfl rfl Tryz.func32 (by kernel_rfl) rfl #[.string (⟨#[42, 32, 45, 32, 43, 32, 33, 32, 94, 32, 38]⟩ : ByteArray), .string a0_1] rfl (by (try simp only [List.map_toArray, List.map_cons, List.map_nil]); first | done | rfl | (simp only [List.length_drop, List.length_take]; rfl)) ?_; (with_reducible refine (spec_has.calls kj12 (⟨#[42, 32, 45, 32, 43, 32, 33, 32, 94, 32, 38]⟩ : ByteArray) a0_1 true _ A20.out).mono ?_); rintro e w' ⟨rfl, ⟨nd, rfl⟩⟩; refine ⟨_, rfl, ?_⟩))
                        go_ret
                        exact ⟨by first | rfl | (simp [errW_none, errW_some] <;> rfl) | (simp [*, errW_none, errW_some] <;> rfl), by repeat (first | (with_reducible first | exact HB.out | apply below_alloc | apply pw_below_drewN | apply below_drew1 | refine below_set ?_ GE102.out) | exact HB.out)⟩
                      · rw [if_neg c23] at H
                        have c23b0 : (a0_1.toList == ([32] : List UInt8)) = false := beq_eq_false_iff_ne.mpr c23
                        have c23b1 : (a0_1.toList != ([32] : List UInt8)) = true := bne_iff_ne.mpr c23
                        replace H := Option.bind_eq_some_iff.mp H
                        obtain ⟨t105, A250, H⟩ := H
                        replace H : (some t105) = some r := H
                        have A25 := Aside0.mk A250
                        clear A250
                        obtain rfl := Option.some.inj H
                        have hcz26_0 : wc.cell? ⟨gb102, 0, none⟩ = some (.string a0_0) := (blk_cell BK102.out 0).trans rfl
                        have hcz26_1 : wc.cell? ⟨gb102, 1, none⟩ = some (.string a0_1) := (blk_cell BK102.out 1).trans rfl
                        have hcz26_2 : wc.cell? ⟨gb102, 2, none⟩ = some (.slice A0_2 l0_2.length c0_2) := (blk_cell BK102.out 2).trans rfl
                        have hfz26_0 := blk_frozen BK102.out 0
                        have hfz26_1 := blk_frozen BK102.out 1
                        have hfz26_2 := blk_frozen BK102.out 2
                        go_wp2_with (first | ((with_reducible refine gate_callee (f := 32) rfl ?_); refine goesL_ (some 33) rfl rfl Tryz.func32 (by kernel_rfl) rfl #[.string (⟨#[42, 32, 45, 32, 43, 32, 33, 32, 94, 32, 38]⟩ : ByteArray), .string a0_1] rfl (by (try simp only [List.map_toArray, List.map_cons, List.map_nil]); first | done | rfl | (simp only [List.length_drop, List.length_take]; rfl)) ?_; (with_reducible refine (spec_has.calls kj12 (⟨#[42, 32, 45, 32, 43, 32, 33, 32, 94, 32, 38]⟩ : ByteArray) a0_1 true _ A20.out).mono ?_); rintro e w' ⟨rfl, ⟨nd, rfl⟩⟩; refine ⟨_, rfl, ?_⟩) | (go_at_call 31; (with_reducible refine (IH kj12 (by have := HJ4.out; have := HJ12.out; omega) _ _ l0_2 1 1 (wrap64 (a1 - 1)) t105 _ ?side1 ?side2 A25.out).mono ?_); (case side1 => repeat (first | exact (Kd.C_below HR0_2.out (by repeat (first | (with_reducible first | exact HB.out | apply below_alloc | apply pw_below_drewN | apply below_drew1 | refine below_set ?_ GE102.out) | exact HB.out))) | (with_reducible refine Kd.C_alloc ?_ _) | (with_reducible refine Kd.C_drewN ?_ _) | (with_reducible refine Kd.C_drew ?_))); (case side2 => exact HC0_2.out); rintro e w27 ⟨rfl, hb⟩; have n0_ := Aside0.mk (blk_below (g := gb102) (o := .cells #[.string a0_0, .string a0_1, .slice A0_2 l0_2.length c0_2] 24 (0, 0)) (by (with_reducible repeat (first | refine blk_drewN ?_ _ | refine blk_drew ?_ | refine blk_alloc ?_ _)); exact BK102.out) hb); have n1_ := Aside0.mk (below_step (by repeat (first | (with_reducible first | exact HB.out | apply below_alloc | apply pw_below_drewN | apply below_drew1 | refine below_set ?_ GE102.out) | exact HB.out)) hb); clear BK102; clear HB; have BK102 := n0_; have HB := n1_; clear n0_ n1_; (try clear hb); (try clear hb2); (try clear hk); (try clear hi)))
                        go_ret
                        exact ⟨by first | rfl | (simp [errW_none, errW_some] <;> rfl) | (simp [*, errW_none, errW_some] <;> rfl), by repeat (first | (with_reducible first | exact HB.out | apply below_alloc | apply pw_below_drewN | apply below_drew1 | refine below_set ?_ GE102.out) | exact HB.out)⟩
                    · rw [if_neg c22] at H
                      have c22b0 : ((a0_1.size : Int) == 1) = false := beq_eq_false_iff_ne.mpr c22
                      have c22b1 : ((a0_1.size : Int) != 1) = true := bne_iff_ne.mpr c22
                      obtain rfl := Option.some.inj H
                      have hcz28_0 : wc.cell? ⟨gb102, 0, none⟩ = some (.string a0_0) := (blk_cell BK102.out 0).trans rfl
                      have hcz28_1 : wc.cell? ⟨gb102, 1, none⟩ = some (.string a0_1) := (blk_cell BK102.out 1).trans rfl
                      have hcz28_2 : wc.cell? ⟨gb102, 2, none⟩ = some (.slice A0_2 l0_2.length c0_2) := (blk_cell BK102.out 2).trans rfl
                      have hfz28_0 := blk_frozen BK102.out 0
                      have hfz28_1 := blk_frozen BK102.out 1
                      have hfz28_2 := blk_frozen BK102.out 2
                      go_wp2_with (first | ((with_reducible refine gate_callee (f := 32) rfl ?_); refine goesL_ (some 33) rfl rfl Tryz.func32 (by kernel_rfl) rfl #[.string (⟨#[42, 32, 45, 32, 43, 32, 33, 32, 94, 32, 38]⟩ : ByteArray), .string a0_1] rfl (by (try simp only [List.map_toArray, List.map_cons, List.map_nil]); first | done | rfl | (simp only [List.length_drop, List.length_take]; rfl)) ?_; (with_reducible refine (spec_has.calls kj12 (⟨#[42, 32, 45, 32, 43, 32, 33, 32, 94, 32, 38]⟩ : ByteArray) a0_1 true _ A20.out).mono ?_); rintro e w' ⟨rfl, ⟨nd, rfl⟩⟩; refine ⟨_, rfl, ?_⟩))
                      go_ret
                      exact ⟨by first | rfl | (simp [errW_none, errW_some] <;> rfl) | (simp [*, errW_none, errW_some] <;> rfl), by repeat (first | (with_reducible first | exact HB.out | apply below_alloc | apply pw_below_drewN | apply below_drew1 | refine below_set ?_ GE102.out) | exact HB.out)⟩
                  · replace c21 := Bool.eq_false_iff.mpr c21
                    subst c21
                    have H1 : (some false) = some r := by rw [if_neg (show ¬ (false = true) by decide)] at H; exact H
                    clear H
                    have H := H1
                    clear H1
                    obtain rfl := Option.some.inj H
                    have hcz29_0 : wc.cell? ⟨gb102, 0, none⟩ = some (.string a0_0) := (blk_cell BK102.out 0).trans rfl
                    have hcz29_1 : wc.cell? ⟨gb102, 1, none⟩ = some (.string a0_1) := (blk_cell BK102.out 1).trans rfl
                    have hcz29_2 : wc.cell? ⟨gb102, 2, none⟩ = some (.slice A0_2 l0_2.length c0_2) := (blk_cell BK102.out 2).trans rfl
                    have hfz29_0 := blk_frozen BK102.out 0
                    have hfz29_1 := blk_frozen BK102.out 1
                    have hfz29_2 := blk_frozen BK102.out 2
                    go_wp2_with (first | ((with_reducible refine gate_callee (f := 32) rfl ?_); refine goesL_ (some 33) rfl rfl Tryz.func32 (by kernel_rfl) rfl #[.string (⟨#[42, 32, 45, 32, 43, 32, 33, 32, 94, 32, 38]⟩ : ByteArray), .string a0_1] rfl (by (try simp only [List.map_toArray, List.map_cons, List.map_nil]); first | done | rfl | (simp only [List.length_drop, List.length_take]; rfl)) ?_; (with_reducible refine (spec_has.calls kj12 (⟨#[42, 32, 45, 32, 43, 32, 33, 32, 94, 32, 38]⟩ : ByteArray) a0_1 false _ A20.out).mono ?_); rintro e w' ⟨rfl, ⟨nd, rfl⟩⟩; refine ⟨_, rfl, ?_⟩))
                    go_ret
                    exact ⟨by first | rfl | (simp [errW_none, errW_some] <;> rfl) | (simp [*, errW_none, errW_some] <;> rfl), by repeat (first | (with_reducible first | exact HB.out | apply below_alloc | apply pw_below_drewN | apply below_drew1 | refine below_set ?_ GE102.out) | exact HB.out)⟩
                · rw [if_neg c19] at H
                  have c19b0 : (a0_0.toList == ([117, 110, 97, 114, 121] : List UInt8)) = false := beq_eq_false_iff_ne.mpr c19
                  have c19b1 : (a0_0.toList != ([117, 110, 97, 114, 121] : List UInt8)) = true := bne_iff_ne.mpr c19
                  by_cases c30 : a0_0.toList = ([98, 105, 110, 97, 114, 121] : List UInt8)
                  · rw [if_pos c30] at H
                    have c30b0 : (a0_0.toList == ([98, 105, 110, 97, 114, 121] : List UInt8)) = true := beq_iff_eq.mpr c30
                    have c30b1 : (a0_0.toList != ([98, 105, 110, 97, 114, 121] : List UInt8)) = false := bne_eq_false_iff_eq.mpr c30
                    clear c30
                    replace H := Option.bind_eq_some_iff.mp H
                    obtain ⟨t106, A310, H⟩ := H
                    replace H : (if t106 = true then (if (a0_1.size : Int) = 1 then (if a0_1.toList = ([32] : List UInt8) then (some false) else ((spec_areExprTrees.l0 kj12 l0_2 2 2 (wrap64 (a1 - 1)) l0_2 (l0_2.length : Int) 0).bind fun t107 => (some t107))) else (some false)) else (some false)) = some r := H
                    have A31 := Aside0.mk A310
                    clear A310
                    by_cases c32 : t106 = true
                    · subst c32
                      have H1 : (if (a0_1.size : Int) = 1 then (if a0_1.toList = ([32] : List UInt8) then (some false) else ((spec_areExprTrees.l0 kj12 l0_2 2 2 (wrap64 (a1 - 1)) l0_2 (l0_2.length : Int) 0).bind fun t107 => (some t107))) else (some false)) = some r := by rw [if_pos rfl] at H; exact H
                      clear H
                      have H := H1
                      clear H1
                      by_cases c33 : (a0_1.size : Int) = 1
                      · rw [if_pos c33] at H
                        have c33b0 : ((a0_1.size : Int) == 1) = true := beq_iff_eq.mpr c33
                        have c33b1 : ((a0_1.size : Int) != 1) = false := bne_eq_false_iff_eq.mpr c33
                        clear c33
                        by_cases c34 : a0_1.toList = ([32] : List UInt8)
                        · rw [if_pos c34] at H
                          have c34b0 : (a0_1.toList == ([32] : List UInt8)) = true := beq_iff_eq.mpr c34
                          have c34b1 : (a0_1.toList != ([32] : List UInt8)) = false := bne_eq_false_iff_eq.mpr c34
                          clear c34
                          obtain rfl := Option.some.inj H
                          have hcz35_0 : wc.cell? ⟨gb102, 0, none⟩ = some (.string a0_0) := (blk_cell BK102.out 0).trans rfl
                          have hcz35_1 : wc.cell? ⟨gb102, 1, none⟩ = some (.string a0_1) := (blk_cell BK102.out 1).trans rfl
                          have hcz35_2 : wc.cell? ⟨gb102, 2, none⟩ = some (.slice A0_2 l0_2.length c0_2) := (blk_cell BK102.out 2).trans rfl
                          have hfz35_0 := blk_frozen BK102.out 0
                          have hfz35_1 := blk_frozen BK102.out 1
                          have hfz35_2 := blk_frozen BK102.out 2
                          go_wp2_with (first | ((with_reducible refine gate_callee (f := 32) rfl ?_); refine goesL_ (some 56) rfl rfl Tryz.func32 (by kernel_rfl) rfl #[.string (⟨#[43, 32, 45, 32, 42, 32, 47, 32, 37, 32, 38, 32, 124, 32, 94, 32, 60, 32, 62]⟩ : ByteArray), .string a0_1] rfl (by (try simp only [List.map_toArray, List.map_cons, List.map_nil]); first | done | rfl | (simp only [List.length_drop, List.length_take]; rfl)) ?_; (with_reducible refine (spec_has.calls kj12 (⟨#[43, 32, 45, 32, 42, 32, 47, 32, 37, 32, 38, 32, 124, 32, 94, 32, 60, 32, 62]⟩ : ByteArray) a0_1 true _ A31.out).mono ?_); rintro e w' ⟨rfl, ⟨nd, rfl⟩⟩; refine ⟨_, rfl, ?_⟩))
                          go_ret
                          exact ⟨by first | rfl | (simp [errW_none, errW_some] <;> rfl) | (simp [*, errW_none, errW_some] <;> rfl), by repeat (first | (with_reducible first | exact HB.out | apply below_alloc | apply pw_below_drewN | apply below_drew1 | refine below_set ?_ GE102.out) | exact HB.out)⟩
                        · rw [if_neg c34] at H
                          have c34b0 : (a0_1.toList == ([32] : List UInt8)) = false := beq_eq_false_iff_ne.mpr c34
                          have c34b1 : (a0_1.toList != ([32] : List UInt8)) = true := bne_iff_ne.mpr c34
                          replace H := Option.bind_eq_some_iff.mp H
                          obtain ⟨t107, A360, H⟩ := H
                          replace H : (some t107) = some r := H
                          have A36 := Aside0.mk A360
                          clear A360
                          obtain rfl := Option.some.inj H
                          have hcz37_0 : wc.cell? ⟨gb102, 0, none⟩ = some (.string a0_0) := (blk_cell BK102.out 0).trans rfl
                          have hcz37_1 : wc.cell? ⟨gb102, 1, none⟩ = some (.string a0_1) := (blk_cell BK102.out 1).trans rfl
                          have hcz37_2 : wc.cell? ⟨gb102, 2, none⟩ = some (.slice A0_2 l0_2.length c0_2) := (blk_cell BK102.out 2).trans rfl
                          have hfz37_0 := blk_frozen BK102.out 0
                          have hfz37_1 := blk_frozen BK102.out 1
                          have hfz37_2 := blk_frozen BK102.out 2
                          go_wp2_with (first | ((with_reducible refine gate_callee (f := 32) rfl ?_); refine goesL_ (some 56) rfl rfl Tryz.func32 (by kernel_rfl) rfl #[.string (⟨#[43, 32, 45, 32, 42, 32, 47, 32, 37, 32, 38, 32, 124, 32, 94, 32, 60, 32, 62]⟩ : ByteArray), .string a0_1] rfl (by (try simp only [List.map_toArray, List.map_cons, List.map_nil]); first | done | rfl | (simp only [List.length_drop, List.length_take]; rfl)) ?_; (with_reducible refine (spec_has.calls kj12 (⟨#[43, 32, 45, 32, 42, 32, 47, 32, 37, 32, 38, 32, 124, 32, 94, 32, 60, 32, 62]⟩ : ByteArray) a0_1 true _ A31.out).mono ?_); rintro e w' ⟨rfl, ⟨nd, rfl⟩⟩; refine ⟨_, rfl, ?_⟩) | (go_at_call 31; (with_reducible refine (IH kj12 (by have := HJ4.out; have := HJ12.out; omega) _ _ l0_2 2 2 (wrap64 (a1 - 1)) t107 _ ?side1 ?side2 A36.out).mono ?_); (case side1 => repeat (first | exact (Kd.C_below HR0_2.out (by repeat (first | (with_reducible first | exact HB.out | apply below_alloc | apply pw_below_drewN | apply below_drew1 | refine below_set ?_ GE102.out) | exact HB.out))) | (with_reducible refine Kd.C_alloc ?_ _) | (with_reducible refine Kd.C_drewN ?_ _) | (with_reducible refine Kd.C_drew ?_))); (case side2 => exact HC0_2.out); rintro e w38 ⟨rfl, hb⟩; have n0_ := Aside0.mk (blk_below (g := gb102) (o := .cells #[.string a0_0, .string a0_1, .slice A0_2 l0_2.length c0_2] 24 (0, 0)) (by (with_reducible repeat (first | refine blk_drewN ?_ _ | refine blk_drew ?_ | refine blk_alloc ?_ _)); exact BK102.out) hb); have n1_ := Aside0.mk (below_step (by repeat (first | (with_reducible first | exact HB.out | apply below_alloc | apply pw_below_drewN | apply below_drew1 | refine below_set ?_ GE102.out) | exact HB.out)) hb); clear BK102; clear HB; have BK102 := n0_; have HB := n1_; clear n0_ n1_; (try clear hb); (try clear hb2); (try clear hk); (try clear hi)))
                          go_ret
                          exact ⟨by first | rfl | (simp [errW_none, errW_some] <;> rfl) | (simp [*, errW_none, errW_some] <;> rfl), by repeat (first | (with_reducible first | exact HB.out | apply below_alloc | apply pw_below_drewN | apply below_drew1 | refine below_set ?_ GE102.out) | exact HB.out)⟩
                      · rw [if_neg c33] at H
                        have c33b0 : ((a0_1.size : Int) == 1) = false := beq_eq_false_iff_ne.mpr c33
                        have c33b1 : ((a0_1.size : Int) != 1) = true := bne_iff_ne.mpr c33
                        obtain rfl := Option.some.inj H
                        have hcz39_0 : wc.cell? ⟨gb102, 0, none⟩ = some (.string a0_0) := (blk_cell BK102.out 0).trans rfl
                        have hcz39_1 : wc.cell? ⟨gb102, 1, none⟩ = some (.string a0_1) := (blk_cell BK102.out 1).trans rfl
                        have hcz39_2 : wc.cell? ⟨gb102, 2, none⟩ = some (.slice A0_2 l0_2.length c0_2) := (blk_cell BK102.out 2).trans rfl
                        have hfz39_0 := blk_frozen BK102.out 0
                        have hfz39_1 := blk_frozen BK102.out 1
                        have hfz39_2 := blk_frozen BK102.out 2
                        go_wp2_with (first | ((with_reducible refine gate_callee (f := 32) rfl ?_); refine goesL_ (some 56) rfl rfl Tryz.func32 (by kernel_rfl) rfl #[.string (⟨#[43, 32, 45, 32, 42, 32, 47, 32, 37, 32, 38, 32, 124, 32, 94, 32, 60, 32, 62]⟩ : ByteArray), .string a0_1] rfl (by (try simp only [List.map_toArray, List.map_cons, List.map_nil]); first | done | rfl | (simp only [List.length_drop, List.length_take]; rfl)) ?_; (with_reducible refine (spec_has.calls kj12 (⟨#[43, 32, 45, 32, 42, 32, 47, 32, 37, 32, 38, 32, 124, 32, 94, 32, 60, 32, 62]⟩ : ByteArray) a0_1 true _ A31.out).mono ?_); rintro e w' ⟨rfl, ⟨nd, rfl⟩⟩; refine ⟨_, rfl, ?_⟩))
                        go_ret
                        exact ⟨by first | rfl | (simp [errW_none, errW_some] <;> rfl) | (simp [*, errW_none, errW_some] <;> rfl), by repeat (first | (with_reducible first | exact HB.out | apply below_alloc | apply pw_below_drewN | apply below_drew1 | refine below_set ?_ GE102.out) | exact HB.out)⟩
                    · replace c32 := Bool.eq_false_iff.mpr c32
                      subst c32
                      have H1 : (some false) = some r := by rw [if_neg (show ¬ (false = true) by decide)] at H; exact H
                      clear H
                      have H := H1
                      clear H1
                      obtain rfl := Option.some.inj H
                      have hcz40_0 : wc.cell? ⟨gb102, 0, none⟩ = some (.string a0_0) := (blk_cell BK102.out 0).trans rfl
                      have hcz40_1 : wc.cell? ⟨gb102, 1, none⟩ = some (.string a0_1) := (blk_cell BK102.out 1).trans rfl
                      have hcz40_2 : wc.cell? ⟨gb102, 2, none⟩ = some (.slice A0_2 l0_2.length c0_2) := (blk_cell BK102.out 2).trans rfl
                      have hfz40_0 := blk_frozen BK102.out 0
                      have hfz40_1 := blk_frozen BK102.out 1
                      have hfz40_2 := blk_frozen BK102.out 2
                      go_wp2_with (first | ((with_reducible refine gate_callee (f := 32) rfl ?_); refine goesL_ (some 56) rfl rfl Tryz.func32 (by kernel_rfl) rfl #[.string (⟨#[43, 32, 45, 32, 42, 32, 47, 32, 37, 32, 38, 32, 124, 32, 94, 32, 60, 32, 62]⟩ : ByteArray), .string a0_1] rfl (by (try simp only [List.map_toArray, List.map_cons, List.map_nil]); first | done | rfl | (simp only [List.length_drop, List.length_take]; rfl)) ?_; (with_reducible refine (spec_has.calls kj12 (⟨#[43, 32, 45, 32, 42, 32, 47, 32, 37, 32, 38, 32, 124, 32, 94, 32, 60, 32, 62]⟩ : ByteArray) a0_1 false _ A31.out).mono ?_); rintro e w' ⟨rfl, ⟨nd, rfl⟩⟩; refine ⟨_, rfl, ?_⟩))
                      go_ret
                      exact ⟨by first | rfl | (simp [errW_none, errW_some] <;> rfl) | (simp [*, errW_none, errW_some] <;> rfl), by repeat (first | (with_reducible first | exact HB.out | apply below_alloc | apply pw_below_drewN | apply below_drew1 | refine below_set ?_ GE102.out) | exact HB.out)⟩
                  · rw [if_neg c30] at H
                    have c30b0 : (a0_0.toList == ([98, 105, 110, 97, 114, 121] : List UInt8)) = false := beq_eq_false_iff_ne.mpr c30
                    have c30b1 : (a0_0.toList != ([98, 105, 110, 97, 114, 121] : List UInt8)) = true := bne_iff_ne.mpr c30
                    by_cases c41 : a0_0.toList = ([105, 110, 100, 101, 120] : List UInt8)
                    · rw [if_pos c41] at H
                      have c41b0 : (a0_0.toList == ([105, 110, 100, 101, 120] : List UInt8)) = true := beq_iff_eq.mpr c41
                      have c41b1 : (a0_0.toList != ([105, 110, 100, 101, 120] : List UInt8)) = false := bne_eq_false_iff_eq.mpr c41
                      clear c41
                      replace H := Option.bind_eq_some_iff.mp H
                      obtain ⟨t108, A420, H⟩ := H
                      replace H : (some t108) = some r := H
                      have A42 := Aside0.mk A420
                      clear A420
                      obtain rfl := Option.some.inj H
                      have hcz43_0 : wc.cell? ⟨gb102, 0, none⟩ = some (.string a0_0) := (blk_cell BK102.out 0).trans rfl
                      have hcz43_1 : wc.cell? ⟨gb102, 1, none⟩ = some (.string a0_1) := (blk_cell BK102.out 1).trans rfl
                      have hcz43_2 : wc.cell? ⟨gb102, 2, none⟩ = some (.slice A0_2 l0_2.length c0_2) := (blk_cell BK102.out 2).trans rfl
                      have hfz43_0 := blk_frozen BK102.out 0
                      have hfz43_1 := blk_frozen BK102.out 1
                      have hfz43_2 := blk_frozen BK102.out 2
                      go_wp2_with (first | ((with_reducible refine gate_callee (f := 31) rfl ?_); refine goesL_ (some 81) rfl rfl Tryz.func31 (by kernel_rfl) rfl #[.slice A0_2 l0_2.length c0_2, .int .i64 2, .int .i64 2, .int .i64 (wrap64 (a1 - 1))] rfl (by (try simp only [List.map_toArray, List.map_cons, List.map_nil]); first | done | rfl | (simp only [List.length_drop, List.length_take]; rfl)) ?_; (with_reducible refine (IH kj12 (by have := HJ4.out; have := HJ12.out; omega) _ _ l0_2 2 2 (wrap64 (a1 - 1)) t108 _ ?side1 ?side2 A42.out).mono ?_); (case side1 => repeat (first | exact (Kd.C_below HR0_2.out HB.out) | (with_reducible refine Kd.C_alloc ?_ _) | (with_reducible refine Kd.C_drewN ?_ _) | (with_reducible refine Kd.C_drew ?_))); (case side2 => exact HC0_2.out); rintro e w44 ⟨rfl, hb⟩; refine ⟨_, rfl, ?_⟩; have n0_ := Aside0.mk (blk_below (g := gb102) (o := .cells #[.string a0_0, .string a0_1, .slice A0_2 l0_2.length c0_2] 24 (0, 0)) (by (with_reducible repeat (first | refine blk_drewN ?_ _ | refine blk_drew ?_ | refine blk_alloc ?_ _)); exact BK102.out) hb); have n1_ := Aside0.mk (below_step (by repeat (first | (with_reducible first | exact HB.out | apply below_alloc | apply pw_below_drewN | apply below_drew1 | refine below_set ?_ GE102.out) | exact HB.out)) hb); clear BK102; clear HB; have BK102 := n0_; have HB := n1_; clear n0_ n1_; (try clear hb); (try clear hb2); (try clear hk); (try clear hi)))
                      go_ret
                      exact ⟨by first | rfl | (simp [errW_none, errW_some] <;> rfl) | (simp [*, errW_none, errW_some] <;> rfl), by repeat (first | (with_reducible first | exact HB.out | apply below_alloc | apply pw_below_drewN | apply below_drew1 | refine below_set ?_ GE102.out) | exact HB.out)⟩
                    · rw [if_neg c41] at H
                      have c41b0 : (a0_0.toList == ([105, 110, 100, 101, 120] : List UInt8)) = false := beq_eq_false_iff_ne.mpr c41
                      have c41b1 : (a0_0.toList != ([105, 110, 100, 101, 120] : List UInt8)) = true := bne_iff_ne.mpr c41
                      by_cases c45 : a0_0.toList = ([99, 97, 108, 108] : List UInt8)
                      · rw [if_pos c45] at H
                        have c45b0 : (a0_0.toList == ([99, 97, 108, 108] : List UInt8)) = true := beq_iff_eq.mpr c45
                        have c45b1 : (a0_0.toList != ([99, 97, 108, 108] : List UInt8)) = false := bne_eq_false_iff_eq.mpr c45
                        clear c45
                        replace H := Option.bind_eq_some_iff.mp H
                        obtain ⟨t109, A460, H⟩ := H
                        replace H : (some t109) = some r := H
                        have A46 := Aside0.mk A460
                        clear A460
                        obtain rfl := Option.some.inj H
                        have hcz47_0 : wc.cell? ⟨gb102, 0, none⟩ = some (.string a0_0) := (blk_cell BK102.out 0).trans rfl
                        have hcz47_1 : wc.cell? ⟨gb102, 1, none⟩ = some (.string a0_1) := (blk_cell BK102.out 1).trans rfl
                        have hcz47_2 : wc.cell? ⟨gb102, 2, none⟩ = some (.slice A0_2 l0_2.length c0_2) := (blk_cell BK102.out 2).trans rfl
                        have hfz47_0 := blk_frozen BK102.out 0
                        have hfz47_1 := blk_frozen BK102.out 1
                        have hfz47_2 := blk_frozen BK102.out 2
                        go_wp2_with (first | ((with_reducible refine gate_callee (f := 31) rfl ?_); refine goesL_ (some 88) rfl rfl Tryz.func31 (by kernel_rfl) rfl #[.slice A0_2 l0_2.length c0_2, .int .i64 1, .int .i64 20, .int .i64 (wrap64 (a1 - 1))] rfl (by (try simp only [List.map_toArray, List.map_cons, List.map_nil]); first | done | rfl | (simp only [List.length_drop, List.length_take]; rfl)) ?_; (with_reducible refine (IH kj12 (by have := HJ4.out; have := HJ12.out; omega) _ _ l0_2 1 20 (wrap64 (a1 - 1)) t109 _ ?side1 ?side2 A46.out).mono ?_); (case side1 => repeat (first | exact (Kd.C_below HR0_2.out HB.out) | (with_reducible refine Kd.C_alloc ?_ _) | (with_reducible refine Kd.C_drewN ?_ _) | (with_reducible refine Kd.C_drew ?_))); (case side2 => exact HC0_2.out); rintro e w48 ⟨rfl, hb⟩; refine ⟨_, rfl, ?_⟩; have n0_ := Aside0.mk (blk_below (g := gb102) (o := .cells #[.string a0_0, .string a0_1, .slice A0_2 l0_2.length c0_2] 24 (0, 0)) (by (with_reducible repeat (first | refine blk_drewN ?_ _ | refine blk_drew ?_ | refine blk_alloc ?_ _)); exact BK102.out) hb); have n1_ := Aside0.mk (below_step (by repeat (first | (with_reducible first | exact HB.out | apply below_alloc | apply pw_below_drewN | apply below_drew1 | refine below_set ?_ GE102.out) | exact HB.out)) hb); clear BK102; clear HB; have BK102 := n0_; have HB := n1_; clear n0_ n1_; (try clear hb); (try clear hb2); (try clear hk); (try clear hi)))
                        go_ret
                        exact ⟨by first | rfl | (simp [errW_none, errW_some] <;> rfl) | (simp [*, errW_none, errW_some] <;> rfl), by repeat (first | (with_reducible first | exact HB.out | apply below_alloc | apply pw_below_drewN | apply below_drew1 | refine below_set ?_ GE102.out) | exact HB.out)⟩
                      · rw [if_neg c45] at H
                        have c45b0 : (a0_0.toList == ([99, 97, 108, 108] : List UInt8)) = false := beq_eq_false_iff_ne.mpr c45
                        have c45b1 : (a0_0.toList != ([99, 97, 108, 108] : List UInt8)) = true := bne_iff_ne.mpr c45
                        obtain rfl := Option.some.inj H
                        go_wp2
                        go_ret
                        exact ⟨by first | rfl | (simp [errW_none, errW_some] <;> rfl) | (simp [*, errW_none, errW_some] <;> rfl), by repeat (first | (with_reducible first | exact HB.out | apply below_alloc | apply pw_below_drewN | apply below_drew1 | refine below_set ?_ GE102.out) | exact HB.out)⟩
theorem spec_tree.calls (k : Nat) : IsC k ∧ AreC k := by
  induction k using Nat.strongRecOn with
  | _ k ih => exact ⟨spec_isExprTree.step k fun m hm => (ih m hm).2, spec_areExprTrees.step k fun m hm => (ih m hm).1⟩
theorem spec_isExprTree.calls (k : Nat) (a0_0 : ByteArray) (a0_1 : ByteArray) (A0_2 : Option Addr) (c0_2 : Nat) (l0_2 : List (S24)) (a1 : Int) (r : Bool) (w : World) (hr0_2 : Kd.C k24 w A0_2 l0_2.length l0_2) (hc0_2 : l0_2.length ≤ c0_2) (h : spec_isExprTree.f k a0_0 a0_1 l0_2 a1 = some r) :
    Calls Tryz.prog 20 #[.agg #[.string a0_0, .string a0_1, .slice A0_2 l0_2.length c0_2], .int .i64 a1] w fun e w' => e = .returned (.bool r) ∧ Below w.heap.size w w' :=
  (spec_tree.calls k).1 a0_0 a0_1 A0_2 c0_2 l0_2 a1 r w hr0_2 hc0_2 h
end Go.Proofs.YtdcaabjkklppjaaGreatFmt.A
