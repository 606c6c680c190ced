-- Written by a program of this session (gprint.py) out of the kit's print of the translation. Not trusted: Lean checks it.
import Derived.Test.YtdcaabjkklppjaaGreatDoorA0
namespace Go.Proofs.YtdcaabjkklppjaaGreatDoor.A
open Go.RowKit Go.Proofs.YtdcaabjkklppjaaGreatDoorW.PrintWords Go.Proofs.YtdcaabjkklppjaaGreatDoorW.PrintLast Go.Proofs.YtdcaabjkklppjaaGreatDoorW.PrintMore
attribute [local go_sem] max2_int min2_int max_two min_two max_three min_three max_four min_four   -- for this text's walks alone
set_option linter.unusedVariables false
set_option linter.unusedSimpArgs false

-- NOT PRINTED: function 49 (bits_TrailingZeros)

-- NOT PRINTED: function 44 (strconv_formatBits)

-- NOT PRINTED: function 40 (strconv_FormatInt)

-- NOT PRINTED: function 34 (strconv_Itoa_34)

-- NOT PRINTED: function 27 (strconv_Itoa_27)

-- NOT PRINTED: function 24 (goprinter_go_token_Token_String)

-- NOT PRINTED: function 19 (impl_tokenOf)

-- NOT PRINTED: function 32 (impl_assignOf)

-- NOT PRINTED: function 38 (impl_rangeOf)

-- NOT PRINTED: function 39 (impl_switchOf)

-- NOT PRINTED: function 33 (impl_headedOf)

-- NOT PRINTED: function 26 (impl_stmtOf)

-- NOT PRINTED: function 23 (impl_stmtsOf)

-- NOT PRINTED: function 18 (impl_blockOf)

-- NOT PRINTED: function 20 (impl_typeOf)

-- NOT PRINTED: function 10 (impl_exprOf)

-- NOT PRINTED: function 11 (goprinter_go_ast_Unparen)

-- NOT PRINTED: function 6 (impl_Unparened)

/-! ### spec_Parens: function 7 -/
def spec_Parens.l0 : Nat → Int → ByteArray → ByteArray → List (S24) → Option (Int)
  | 0, _, _, _, _ => none
  | k + 1, x3, x137000, x137001, x137002 => if x137000.toList = ([112, 97, 114, 101, 110] : List UInt8) then (if (x137002.length : Int) = 1 then (if 0 < (x137002.length : Int) then (spec_Parens.l0 k (wrap64 (x3 + 1)) ((rd_T24 x137002 0).f0) ((rd_T24 x137002 0).f1) ((rd_T24 x137002 0).f2)) else (none)) else (some x3)) else (some x3)
def spec_Parens.f (k : Nat) (a0_0 : ByteArray) (a0_1 : ByteArray) (l0_2 : List (S24)) : Option (Int) := spec_Parens.l0 k 0 a0_0 a0_1 l0_2
theorem spec_Parens.mono_l : ∀ k, (∀ y0 y1 y2 y3, LeO (spec_Parens.l0 k y0 y1 y2 y3) (spec_Parens.l0 (k + 1) y0 y1 y2 y3))
  | 0 => fun _ _ _ _ r h => by simp [spec_Parens.l0] at h
  | k + 1 => by
    have ih0 := spec_Parens.mono_l k
    · intro y0 y1 y2 y3
      unfold spec_Parens.l0
      repeat' first
      | (with_reducible exact ih0 _ _ _ _)
      | (with_reducible exact LeO.refl _)
      | (with_reducible exact LeO.none _)
      | (with_reducible refine LeO.ite ?_ ?_)
      | (with_reducible refine LeO.bind ?_ (fun _ => ?_))
      | exact ih0 _ _ _ _
      | exact LeO.none _
      | refine LeO.ite ?_ ?_
      | refine LeO.bind ?_ (fun _ => ?_)
theorem spec_Parens.mono : ∀ a0 a1 a2 k, LeO (spec_Parens.f k a0 a1 a2) (spec_Parens.f (k + 1) a0 a1 a2) := by
  intro a0 a1 a2 k
  have ih0 := spec_Parens.mono_l k
  unfold spec_Parens.f
  repeat' first
      | (with_reducible exact ih0 _ _ _ _)
      | (with_reducible exact LeO.refl _)
      | (with_reducible exact LeO.none _)
      | (with_reducible refine LeO.ite ?_ ?_)
      | (with_reducible refine LeO.bind ?_ (fun _ => ?_))
      | exact ih0 _ _ _ _
      | exact LeO.none _
      | refine LeO.ite ?_ ?_
      | refine LeO.bind ?_ (fun _ => ?_)
set_option maxHeartbeats 8000000 in
set_option maxRecDepth 100000 in
theorem spec_Parens.calls (k : Nat) (a0_0 : ByteArray) (a0_1 : ByteArray) (P0_2_ : Nat → Prop) (A0_2 : Option Addr) (c0_2 : Nat) (l0_2 : List (S24)) (r : Int) (w : World) (hs0_2 : Kd.V k24 24 w w.heap.size (fun k_ => P0_2_ k_) (.slice A0_2 l0_2.length c0_2) l0_2) (h : spec_Parens.f k a0_0 a0_1 l0_2 = some r) :
    Calls Tryz.prog 7 #[.agg #[.string a0_0, .string a0_1, .slice A0_2 l0_2.length c0_2]] w fun e w' => e = .returned (.int .i64 r) ∧ Below w.heap.size w w' := by
  have hu24 := Tryz.underlying24
  have HO0_2 := Aside0.mk (show Kd.V k24 24 w w.heap.size (fun k_ => (P0_2_ k_ ∨ w.heap.size ≤ k_)) (.slice A0_2 l0_2.length c0_2) l0_2 from Kd.V_mono hs0_2 (fun k_ hk => .inl hk))
  have HB := Aside0.mk (Below.refl w.heap.size w)
  have H : (spec_Parens.l0 k 0 a0_0 a0_1 l0_2) = some r := h
  clear h
  have H' := Aside0.mk H
  clear H
  go_enter Tryz.func7, Tryz.ntmps7
  go_wp2_with (first | ((with_reducible refine gate_dst (N := 1) rfl ?_); (try (refine gate_guard (by rfl) ?_; dsimp only)); refine box_event ?hg (N := 1) ?hd (cs := #[.string a0_0, .string a0_1, .slice A0_2 l0_2.length c0_2]) (t := 24) ?hr ?_; (case hd => rfl); (case hg => rfl); (case hr => first | (go_simp; done) | (go_simp; rfl)); intro gb136 hg w2 hbox hb; have n0_ := Aside0.mk (Kd.V_below (Kd.V_elderB (by (with_reducible repeat (first | apply Kd.V_alloc | apply Kd.V_drewN | apply Kd.V_drew)); exact HO0_2.out) gb136 (Nat.le_of_eq hg.symm)) hb); have n1_ := Aside0.mk (below_step (by repeat (first | (with_reducible first | exact HB.out | apply below_alloc | apply pw_below_drewN | apply below_drew1) | exact HB.out)) hb); have n2_ := Aside0.mk (hbox); have n3_ := Aside0.mk ((by rw [hg]; exact (below_size (by repeat (first | (with_reducible first | exact HB.out | apply below_alloc | apply pw_below_drewN | apply below_drew1) | exact HB.out))) : w.heap.size ≤ gb136)); have n4_ := Aside0.mk ((by rw [hg]; exact (below_size (by repeat (first | (with_reducible first | exact HB.out | apply below_alloc | apply pw_below_drewN | apply below_drew1) | exact HB.out))) : w.heap.size ≤ gb136)); clear HO0_2; clear HB; have HO0_2 := n0_; have HB := n1_; have BK136 := n2_; have GW136 := n3_; have GE136 := n4_; clear n0_ n1_ n2_ n3_ n4_; clear hb hbox hg))
  go_loopg [3] k (fun kq v3 w' => ∃ (x3_1 : Int) (x137000_1 : ByteArray) (x137001_1 : ByteArray) (x137002_1 : List (S24)) (u137002 : Value), v3 = .int .i64 x3_1 ∧ Aside0 (spec_Parens.l0 kq x3_1 x137000_1 x137001_1 x137002_1 = some r) ∧ Aside0 (kq ≤ k) ∧ Aside0 (Kd.V k24 24 w' w.heap.size (fun k_ => (P0_2_ k_ ∨ w.heap.size ≤ k_) ∧ k_ ≠ gb136) u137002 x137002_1) ∧ Aside0 (w'.heap[gb136]? = some (.cells #[.string x137000_1, .string x137001_1, u137002] 24 (0, 0))) ∧ Aside0 (Below w.heap.size w w'))
  case atStart => exact ⟨(0), (a0_0), (a0_1), (l0_2), (.slice A0_2 l0_2.length c0_2), (by first | rfl | (simp; done) | (simp [*]; done)), H', ⟨Nat.le_refl _⟩, ⟨by (with_reducible repeat (first | apply Kd.V_alloc | apply Kd.V_drewN | apply Kd.V_drew)); exact HO0_2.out⟩, ⟨by (with_reducible repeat (first | refine blk_drewN ?_ _ | refine blk_drew ?_ | refine blk_alloc ?_ _)); exact BK136.out⟩, ⟨by repeat (first | (with_reducible first | exact HB.out | apply below_alloc | apply pw_below_drewN | apply below_drew1 | refine below_set ?_ GE136.out) | exact HB.out)⟩⟩
  case round =>
    clear H'
    try clear p2
    obtain ⟨x3_1, x137000_1, x137001_1, x137002_1, u137002, rfl, HA, HK1, HO_137002, BK136, HB⟩ := hrel
    cases gk with
    | zero => exact absurd HA.out (by simp [spec_Parens.l0])
    | succ k1 =>
      have H := HA.out
      clear HA
      simp only [spec_Parens.l0] at H
      by_cases c3 : x137000_1.toList = ([112, 97, 114, 101, 110] : List UInt8)
      · rw [if_pos c3] at H
        have c3b0 : (x137000_1.toList == ([112, 97, 114, 101, 110] : List UInt8)) = true := beq_iff_eq.mpr c3
        have c3b1 : (x137000_1.toList != ([112, 97, 114, 101, 110] : List UInt8)) = false := bne_eq_false_iff_eq.mpr c3
        clear c3
        by_cases c4 : (x137002_1.length : Int) = 1
        · rw [if_pos c4] at H
          have c4b0 : ((x137002_1.length : Int) == 1) = true := beq_iff_eq.mpr c4
          have c4b1 : ((x137002_1.length : Int) != 1) = false := bne_eq_false_iff_eq.mpr c4
          clear c4
          by_cases c5 : 0 < (x137002_1.length : Int)
          · rw [if_pos c5] at H
            have c5b0 : decide (0 < (x137002_1.length : Int)) = true := decide_eq_true c5
            have c5b1 : decide (0 < x137002_1.length) = true := decide_eq_true (by omega)
            clear c5
            have H' := Aside0.mk H
            clear H
            have hcz6_0 : wr.cell? ⟨gb136, 0, none⟩ = some (.string x137000_1) := (blk_cell BK136.out 0).trans rfl
            have hcz6_1 : wr.cell? ⟨gb136, 1, none⟩ = some (.string x137001_1) := (blk_cell BK136.out 1).trans rfl
            have hcz6_2 : wr.cell? ⟨gb136, 2, none⟩ = some (u137002) := (blk_cell BK136.out 2).trans rfl
            have hfz6_0 := blk_frozen BK136.out 0
            have hfz6_1 := blk_frozen BK136.out 1
            have hfz6_2 := blk_frozen BK136.out 2
            obtain ⟨Ao7, co7, eo7⟩ := Kd.V_slice HO_137002.out
            subst eo7
            have p137 : 0 ≤ (0 : Int) := (by omega)
            have q137 : 0 < (x137002_1.length : Int) := of_decide_eq_true (by first | (with_reducible assumption) | assumption)
            obtain ⟨ad137, A137_2, c137_2, e137, hx137_0, hx137_1, hx137_2, hl137_2, hi137_2⟩ := at_T24 (Kd.V_reads' HO_137002.out).2.2 0 p137 q137
            cases e137
            obtain ⟨ce137, hce137, hMe137, hcc137⟩ := Kd.V_get HO_137002.out z24 0 p137 (by first | exact q137 | exact of_decide_eq_true (by first | (with_reducible assumption) | assumption) | (have e_ := (Kd.V_reads' HO_137002.out).1; omega))
            obtain ⟨ua137_2, uc137_2, rfl, ul137_2, ge137_2⟩ := k24_openF hMe137
            have hv137_2 := hcc137 2 _ rfl
            rw [add_field _ _ 2 (by omega)] at hv137_2
            replace hv137_2 := Option.some.inj (hv137_2.symm.trans hx137_2)
            injection hv137_2 with hva_ hvn_ hvc_
            rw [hva_] at ge137_2
            rw [hvc_] at ul137_2
            have HL137_2 := Aside0.mk (show Kd.V k24 24 _ w.heap.size _ _ ((rd_T24 x137002_1 0).f2) from Kd.V_mk ul137_2 ge137_2)
            clear hva_ hvn_ hvc_ ge137_2 ul137_2
            clear hcc137 hce137
            have qi137 : (0 < x137002_1.length) = True := eq_true (by omega)
            (try rw [show ((0 : Int)).toNat = 0 from rfl] at hx137_0)
            (try rw [show 0 * 3 = 0 from rfl] at hx137_0)
            (try rw [Addr.add_zero'] at hx137_0)
            (try rw [show ((0 : Int)).toNat = 0 from rfl] at hx137_1)
            (try rw [show 0 * 3 = 0 from rfl] at hx137_1)
            (try rw [Addr.add_zero'] at hx137_1)
            (try rw [show ((0 : Int)).toNat = 0 from rfl] at hx137_2)
            (try rw [show 0 * 3 = 0 from rfl] at hx137_2)
            (try rw [Addr.add_zero'] at hx137_2)
            have HR137_2 := Aside0.mk hi137_2
            have HC137_2 := Aside0.mk hl137_2
            clear hi137_2 hl137_2
            replace p137 := eq_true p137
            replace q137 := eq_true q137
            go_wp2
            go_roundg k1
            case measure => have := HK1.out; omega
            case rel => exact ⟨(wrap64 (x3_1 + 1)), ((rd_T24 x137002_1 0).f0), ((rd_T24 x137002_1 0).f1), ((rd_T24 x137002_1 0).f2), (.slice A137_2 ((rd_T24 x137002_1 0).f2).length c137_2), (by first | rfl | (simp; done) | (simp [*]; done)), H', ⟨by have := HK1.out; omega⟩, ⟨by (with_reducible repeat (first | apply Kd.V_alloc | apply Kd.V_drewN | apply Kd.V_drew)); exact Kd.V_mono (Kd.V_far (p := ⟨gb136, 2, none⟩) (Kd.V_far (p := ⟨gb136, 1, none⟩) (Kd.V_far (p := ⟨gb136, 0, none⟩) (Kd.V_mono HL137_2.out (fun k_ hk => (⟨hk, hk.2⟩ : _ ∧ k_ ≠ gb136))) (fun _ hk => hk.2) (.string ((rd_T24 x137002_1 0).f0))) (fun _ hk => hk.2) (.string ((rd_T24 x137002_1 0).f1))) (fun _ hk => hk.2) (.slice A137_2 ((rd_T24 x137002_1 0).f2).length c137_2)) (fun _ hk => ⟨hk.1.1, hk.1.2⟩)⟩, ⟨by (with_reducible repeat (first | refine blk_drewN ?_ _ | refine blk_drew ?_ | refine blk_alloc ?_ _)); refine blk_put (cs := #[.string ((rd_T24 x137002_1 0).f0), .string ((rd_T24 x137002_1 0).f1), .slice (some ad137) x137002_1.length co7]) ?_ 2 _ rfl; (with_reducible repeat (first | refine blk_drewN ?_ _ | refine blk_drew ?_ | refine blk_alloc ?_ _)); refine blk_put (cs := #[.string ((rd_T24 x137002_1 0).f0), .string x137001_1, .slice (some ad137) x137002_1.length co7]) ?_ 1 _ rfl; (with_reducible repeat (first | refine blk_drewN ?_ _ | refine blk_drew ?_ | refine blk_alloc ?_ _)); refine blk_put (cs := #[.string x137000_1, .string x137001_1, .slice (some ad137) x137002_1.length co7]) ?_ 0 _ rfl; (with_reducible repeat (first | refine blk_drewN ?_ _ | refine blk_drew ?_ | refine blk_alloc ?_ _)); exact BK136.out⟩, ⟨by repeat (first | (with_reducible first | exact HB.out | apply below_alloc | apply pw_below_drewN | apply below_drew1 | refine below_set ?_ GE136.out) | exact HB.out)⟩⟩
          · rw [if_neg c5] at H
            exact absurd H (by simp)
        · rw [if_neg c4] at H
          have c4b0 : ((x137002_1.length : Int) == 1) = false := beq_eq_false_iff_ne.mpr c4
          have c4b1 : ((x137002_1.length : Int) != 1) = true := bne_iff_ne.mpr c4
          obtain rfl := Option.some.inj H
          have hcz8_0 : wr.cell? ⟨gb136, 0, none⟩ = some (.string x137000_1) := (blk_cell BK136.out 0).trans rfl
          have hcz8_1 : wr.cell? ⟨gb136, 1, none⟩ = some (.string x137001_1) := (blk_cell BK136.out 1).trans rfl
          have hcz8_2 : wr.cell? ⟨gb136, 2, none⟩ = some (u137002) := (blk_cell BK136.out 2).trans rfl
          have hfz8_0 := blk_frozen BK136.out 0
          have hfz8_1 := blk_frozen BK136.out 1
          have hfz8_2 := blk_frozen BK136.out 2
          obtain ⟨Ao9, co9, eo9⟩ := Kd.V_slice HO_137002.out
          subst eo9
          go_wp2
          go_ret
          exact ⟨by first | rfl | (simp [errW_none, errW_some] <;> rfl) | (simp [*, errW_none, errW_some] <;> rfl), by repeat (first | (with_reducible first | exact HB.out | apply below_alloc | apply pw_below_drewN | apply below_drew1 | refine below_set ?_ GE136.out) | exact HB.out)⟩
      · rw [if_neg c3] at H
        have c3b0 : (x137000_1.toList == ([112, 97, 114, 101, 110] : List UInt8)) = false := beq_eq_false_iff_ne.mpr c3
        have c3b1 : (x137000_1.toList != ([112, 97, 114, 101, 110] : List UInt8)) = true := bne_iff_ne.mpr c3
        obtain rfl := Option.some.inj H
        have hcz10_0 : wr.cell? ⟨gb136, 0, none⟩ = some (.string x137000_1) := (blk_cell BK136.out 0).trans rfl
        have hcz10_1 : wr.cell? ⟨gb136, 1, none⟩ = some (.string x137001_1) := (blk_cell BK136.out 1).trans rfl
        have hcz10_2 : wr.cell? ⟨gb136, 2, none⟩ = some (u137002) := (blk_cell BK136.out 2).trans rfl
        have hfz10_0 := blk_frozen BK136.out 0
        have hfz10_1 := blk_frozen BK136.out 1
        have hfz10_2 := blk_frozen BK136.out 2
        go_wp2
        go_ret
        exact ⟨by first | rfl | (simp [errW_none, errW_some] <;> rfl) | (simp [*, errW_none, errW_some] <;> rfl), by repeat (first | (with_reducible first | exact HB.out | apply below_alloc | apply pw_below_drewN | apply below_drew1 | refine below_set ?_ GE136.out) | exact HB.out)⟩

-- NOT PRINTED: function 3 (laws_FnUnparen)

end Go.Proofs.YtdcaabjkklppjaaGreatDoor.A
