-- Written by a program of this session (gprint.py) out of the kit's print of the translation. Not trusted: Lean checks it.
import Derived.Test.YteaelkeiocogfaaA0
import Derived.Test.YteaelkeiocogfaaA3
import Derived.Test.YteaelkeiocogfaaA4
import Derived.Test.YteaelkeiocogfaaA5
import Derived.Test.YteaelkeiocogfaaA6
import Derived.Test.YteaelkeiocogfaaGComm
namespace Go.Proofs.Yteaelkeiocogfaa.A
open Go.RowKit Go.Proofs.YteaelkeiocogfaaW.PrintWords Go.Proofs.YteaelkeiocogfaaW.PrintLast Go.Proofs.YteaelkeiocogfaaW.PrintMore
attribute [local go_sem] max2_int min2_int max_two min_two max_three min_three max_four min_four   -- for this text's walks alone
set_option linter.unusedVariables false
set_option linter.unusedSimpArgs false

/-! ### spec_CommentText: function 18 -/
mutual
def spec_CommentText.l0 : Nat → ByteArray → Bool → List ByteArray → Int → Int → Option (ByteArray)
  | 0, _, _, _, _, _ => none
  | k + 1, x3, x4, x9, x10, x11 => if x11 < x10 then (if 0 ≤ x11 then (if x11 < (x9.length : Int) then ((spec_commentLines.f k (rdOf ByteArray.empty x9 x11)).bind fun t188 => (spec_CommentText.l1 k x3 x4 x9 x10 x11 t188 (t188.length : Int) 0)) else (none)) else (none)) else (some x3)
def spec_CommentText.l1 : Nat → ByteArray → Bool → List ByteArray → Int → Int → List ByteArray → Int → Int → Option (ByteArray)
  | 0, _, _, _, _, _, _, _, _ => none
  | k + 1, x3, x4, x9, x10, x11, x16, x17, x18 => if x18 < x17 then (if 0 ≤ x18 then (if x18 < (x16.length : Int) then ((spec_trimEnd.f k (rdOf ByteArray.empty x16 x18)).bind fun t192 => (if t192.toList = ([] : List UInt8) then (spec_CommentText.l1 k x3 true x9 x10 x11 x16 x17 (wrap64 (x18 + 1))) else (if x4 = true then (if x3.toList = ([] : List UInt8) then (if x3.size + t192.size ≤ 9223372036854775807 then (if (x3 ++ t192).size + 1 ≤ 9223372036854775807 then (spec_CommentText.l1 k ((x3 ++ t192) ++ (⟨#[10]⟩ : ByteArray)) false x9 x10 x11 x16 x17 (wrap64 (x18 + 1))) else (none)) else (none)) else (if x3.size + 1 ≤ 9223372036854775807 then (if (x3 ++ (⟨#[10]⟩ : ByteArray)).size + t192.size ≤ 9223372036854775807 then (if ((x3 ++ (⟨#[10]⟩ : ByteArray)) ++ t192).size + 1 ≤ 9223372036854775807 then (spec_CommentText.l1 k (((x3 ++ (⟨#[10]⟩ : ByteArray)) ++ t192) ++ (⟨#[10]⟩ : ByteArray)) false x9 x10 x11 x16 x17 (wrap64 (x18 + 1))) else (none)) else (none)) else (none))) else (if x3.size + t192.size ≤ 9223372036854775807 then (if (x3 ++ t192).size + 1 ≤ 9223372036854775807 then (spec_CommentText.l1 k ((x3 ++ t192) ++ (⟨#[10]⟩ : ByteArray)) false x9 x10 x11 x16 x17 (wrap64 (x18 + 1))) else (none)) else (none))))) else (none)) else (none)) else (spec_CommentText.l0 k x3 x4 x9 x10 (wrap64 (x11 + 1)))
end
def spec_CommentText.f (k : Nat) (l0 : List ByteArray) : Option (ByteArray) := spec_CommentText.l0 k (⟨#[]⟩ : ByteArray) false l0 (l0.length : Int) 0
theorem spec_CommentText.mono_l : ∀ k, (∀ y0 y1 y2 y3 y4, LeO (spec_CommentText.l0 k y0 y1 y2 y3 y4) (spec_CommentText.l0 (k + 1) y0 y1 y2 y3 y4)) ∧ (∀ y0 y1 y2 y3 y4 y5 y6 y7, LeO (spec_CommentText.l1 k y0 y1 y2 y3 y4 y5 y6 y7) (spec_CommentText.l1 (k + 1) y0 y1 y2 y3 y4 y5 y6 y7))
  | 0 => ⟨fun _ _ _ _ _ r h => by simp [spec_CommentText.l0] at h, fun _ _ _ _ _ _ _ _ r h => by simp [spec_CommentText.l1] at h⟩
  | k + 1 => by
    obtain ⟨ih0, ih1⟩ := spec_CommentText.mono_l k
    refine ⟨?_, ?_⟩
    · intro y0 y1 y2 y3 y4
      unfold spec_CommentText.l0
      repeat' first
      | (with_reducible exact ih0 _ _ _ _ _)
      | (with_reducible exact ih1 _ _ _ _ _ _ _ _)
      | (with_reducible exact spec_commentLines.mono _ _)
      | (with_reducible exact spec_trimEnd.mono _ _)
      | (with_reducible exact LeO.refl _)
      | (with_reducible exact LeO.none _)
      | (with_reducible refine LeO.ite ?_ ?_)
      | (with_reducible refine LeO.bind ?_ (fun _ => ?_))
      | exact ih0 _ _ _ _ _
      | exact ih1 _ _ _ _ _ _ _ _
      | exact spec_commentLines.mono _ _
      | exact spec_trimEnd.mono _ _
      | exact LeO.none _
      | refine LeO.ite ?_ ?_
      | refine LeO.bind ?_ (fun _ => ?_)
    · intro y0 y1 y2 y3 y4 y5 y6 y7
      unfold spec_CommentText.l1
      repeat' first
      | (with_reducible exact ih0 _ _ _ _ _)
      | (with_reducible exact ih1 _ _ _ _ _ _ _ _)
      | (with_reducible exact spec_commentLines.mono _ _)
      | (with_reducible exact spec_trimEnd.mono _ _)
      | (with_reducible exact LeO.refl _)
      | (with_reducible exact LeO.none _)
      | (with_reducible refine LeO.ite ?_ ?_)
      | (with_reducible refine LeO.bind ?_ (fun _ => ?_))
      | exact ih0 _ _ _ _ _
      | exact ih1 _ _ _ _ _ _ _ _
      | exact spec_commentLines.mono _ _
      | exact spec_trimEnd.mono _ _
      | exact LeO.none _
      | refine LeO.ite ?_ ?_
      | refine LeO.bind ?_ (fun _ => ?_)
theorem spec_CommentText.mono : ∀ a0 k, LeO (spec_CommentText.f k a0) (spec_CommentText.f (k + 1) a0) := by
  intro a0 k
  obtain ⟨ih0, ih1⟩ := spec_CommentText.mono_l k
  unfold spec_CommentText.f
  repeat' first
      | (with_reducible exact ih0 _ _ _ _ _)
      | (with_reducible exact ih1 _ _ _ _ _ _ _ _)
      | (with_reducible exact spec_commentLines.mono _ _)
      | (with_reducible exact spec_trimEnd.mono _ _)
      | (with_reducible exact LeO.refl _)
      | (with_reducible exact LeO.none _)
      | (with_reducible refine LeO.ite ?_ ?_)
      | (with_reducible refine LeO.bind ?_ (fun _ => ?_))
      | exact ih0 _ _ _ _ _
      | exact ih1 _ _ _ _ _ _ _ _
      | exact spec_commentLines.mono _ _
      | exact spec_trimEnd.mono _ _
      | exact LeO.none _
      | refine LeO.ite ?_ ?_
      | refine LeO.bind ?_ (fun _ => ?_)
set_option maxHeartbeats 8000000 in
set_option maxRecDepth 100000 in
theorem spec_CommentText.calls (k : Nat) (A0 : Option Addr) (c0 : Nat) (l0 : List ByteArray) (r : ByteArray) (w : World) (hr0 : Kd.C Kd.string w A0 l0.length l0) (hc0 : l0.length ≤ c0) (h : spec_CommentText.f k l0 = some r) :
    Calls Try.prog 18 #[.slice A0 l0.length c0] w fun e w' => e = .returned (.string r) ∧ Below w.heap.size w w' := by
  have HR0 := Aside0.mk hr0
  have HC0 := Aside0.mk hc0
  clear hr0 hc0
  have HB := Aside0.mk (Below.refl w.heap.size w)
  have H : (spec_CommentText.l0 k (⟨#[]⟩ : ByteArray) false l0 (l0.length : Int) 0) = some r := h
  clear h
  have H' := Aside0.mk H
  clear H
  go_enter Try.func18, Try.ntmps18
  go_wp2
  go_loopg [3, 4, 11] k (fun kq v3 v4 v11 w' => ∃ (x3_1 : ByteArray) (x4_1 : Bool) (x11_1 : Int), v3 = .string x3_1 ∧ v4 = .bool x4_1 ∧ v11 = .int .i64 x11_1 ∧ Aside0 (spec_CommentText.l0 kq x3_1 x4_1 l0 (l0.length : Int) x11_1 = some r) ∧ Aside0 (kq ≤ k) ∧ Aside0 (Below w.heap.size w w'))
  case atStart => exact ⟨((⟨#[]⟩ : ByteArray)), (false), (0), (by first | rfl | (simp; done) | (simp [*]; done)), (by first | rfl | (simp; done) | (simp [*]; done)), (by first | rfl | (simp; done) | (simp [*]; done)), H', ⟨Nat.le_refl _⟩, ⟨by repeat (first | (with_reducible first | exact HB.out | apply below_alloc | apply pw_below_drewN | apply below_drew1) | exact HB.out)⟩⟩
  case round =>
    clear H'
    try clear c1
    obtain ⟨x3_1, x4_1, x11_1, rfl, rfl, rfl, HA, HK1, HB⟩ := hrel
    cases gk with
    | zero => exact absurd HA.out (by simp [spec_CommentText.l0])
    | succ k1 =>
      have H := HA.out
      clear HA
      simp only [spec_CommentText.l0] at H
      by_cases c2 : x11_1 < (l0.length : Int)
      · rw [if_pos c2] at H
        have c2b0 : decide (x11_1 < (l0.length : Int)) = true := decide_eq_true c2
        clear c2
        by_cases c3 : 0 ≤ x11_1
        · rw [if_pos c3] at H
          have c3b0 : decide (0 ≤ x11_1) = true := decide_eq_true c3
          clear c3
          by_cases c4 : x11_1 < (l0.length : Int)
          · rw [if_pos c4] at H
            have c4b0 : decide (x11_1 < (l0.length : Int)) = true := decide_eq_true c4
            clear c4
            replace H := Option.bind_eq_some_iff.mp H
            obtain ⟨t188, A50, H⟩ := H
            replace H : (spec_CommentText.l1 k1 x3_1 x4_1 l0 (l0.length : Int) x11_1 t188 (t188.length : Int) 0) = some r := H
            have A5 := Aside0.mk A50
            clear A50
            have H' := Aside0.mk H
            clear H
            have p187 : 0 ≤ (x11_1 : Int) := of_decide_eq_true (by first | (with_reducible assumption) | assumption)
            have q187 : x11_1 < (l0.length : Int) := of_decide_eq_true (by first | (with_reducible assumption) | assumption)
            obtain ⟨ad187, e187, hx187_0⟩ := Kd.at_string HR0.out x11_1 p187 q187
            cases e187
            replace hx187_0 := (HB.out.cell (World.block_lt_of_cell? w _ hx187_0)).trans hx187_0
            replace p187 := eq_true p187
            replace q187 := eq_true q187
            go_wp2_with (first | ((with_reducible refine gate_callee (f := 32) rfl ?_); refine goesL_ (some 16) rfl rfl Try.func32 (by kernel_rfl) rfl #[.string (rdOf ByteArray.empty l0 x11_1)] rfl (by (try simp only [List.map_toArray, List.map_cons, List.map_nil]); first | done | rfl | (simp only [List.length_drop, List.length_take]; rfl)) ?_; (with_reducible refine (spec_commentLines.calls k1 (rdOf ByteArray.empty l0 x11_1) t188 _ A5.out).mono ?_); rintro e w6 ⟨v189, rfl, ho0, hb⟩; refine ⟨_, rfl, ?_⟩; have n0_ := Aside0.mk (Kd.R_lower ho0 (below_size (by repeat (first | (with_reducible first | exact HB.out | apply below_alloc | apply pw_below_drewN | apply below_drew1) | exact HB.out)))); have n1_ := Aside0.mk (below_step (by repeat (first | (with_reducible first | exact HB.out | apply below_alloc | apply pw_below_drewN | apply below_drew1) | exact HB.out)) hb); clear HB; have HO190 := n0_; have HB := n1_; clear n0_ n1_; (try clear hb); (try clear hb2); (try clear hk); (try clear hi); (try clear ho0); obtain ⟨Ao7, co7, eo7⟩ := Kd.R_slice HO190.out; subst eo7))
            go_loopg [3, 4, 18] k1 (fun kq v3 v4 v18 w' => ∃ (x3_2 : ByteArray) (x4_2 : Bool) (x18_2 : Int), v3 = .string x3_2 ∧ v4 = .bool x4_2 ∧ v18 = .int .i64 x18_2 ∧ Aside0 (spec_CommentText.l1 kq x3_2 x4_2 l0 (l0.length : Int) x11_1 t188 (t188.length : Int) x18_2 = some r) ∧ Aside0 (kq ≤ k1) ∧ Aside0 (Kd.R Kd.string 9 w' w.heap.size (fun _ => True) (.slice Ao7 t188.length co7) t188) ∧ Aside0 (Below w.heap.size w w'))
            case atStart => exact ⟨(x3_1), (x4_1), (0), (by first | rfl | (simp; done) | (simp [*]; done)), (by first | rfl | (simp; done) | (simp [*]; done)), (by first | rfl | (simp; done) | (simp [*]; done)), H', ⟨Nat.le_refl _⟩, ⟨by (with_reducible repeat (first | apply Kd.R_alloc | apply Kd.R_drewN | apply Kd.R_drew)); exact HO190.out⟩, ⟨by repeat (first | (with_reducible first | exact HB.out | apply below_alloc | apply pw_below_drewN | apply below_drew1) | exact HB.out)⟩⟩
            case round =>
              clear H'
              try clear c1
              try clear p1
              try clear q1
              try clear hx1
              try clear c2
              try clear c2b0
              try clear p2
              try clear c3
              try clear c3b0
              try clear c4
              try clear c4b0
              try clear hx187_0
              try clear p187
              try clear q187
              obtain ⟨x3_2, x4_2, x18_2, rfl, rfl, rfl, HA, HK2, HO_16, HB⟩ := hrel
              cases gk with
              | zero => exact absurd HA.out (by simp [spec_CommentText.l1])
              | succ k2 =>
                have H := HA.out
                clear HA
                simp only [spec_CommentText.l1] at H
                by_cases c8 : x18_2 < (t188.length : Int)
                · rw [if_pos c8] at H
                  have c8b0 : decide (x18_2 < (t188.length : Int)) = true := decide_eq_true c8
                  clear c8
                  by_cases c9 : 0 ≤ x18_2
                  · rw [if_pos c9] at H
                    have c9b0 : decide (0 ≤ x18_2) = true := decide_eq_true c9
                    clear c9
                    by_cases c10 : x18_2 < (t188.length : Int)
                    · rw [if_pos c10] at H
                      have c10b0 : decide (x18_2 < (t188.length : Int)) = true := decide_eq_true c10
                      clear c10
                      replace H := Option.bind_eq_some_iff.mp H
                      obtain ⟨t192, A110, H⟩ := H
                      replace H : (if t192.toList = ([] : List UInt8) then (spec_CommentText.l1 k2 x3_2 true l0 (l0.length : Int) x11_1 t188 (t188.length : Int) (wrap64 (x18_2 + 1))) else (if x4_2 = true then (if x3_2.toList = ([] : List UInt8) then (if x3_2.size + t192.size ≤ 9223372036854775807 then (if (x3_2 ++ t192).size + 1 ≤ 9223372036854775807 then (spec_CommentText.l1 k2 ((x3_2 ++ t192) ++ (⟨#[10]⟩ : ByteArray)) false l0 (l0.length : Int) x11_1 t188 (t188.length : Int) (wrap64 (x18_2 + 1))) else (none)) else (none)) else (if x3_2.size + 1 ≤ 9223372036854775807 then (if (x3_2 ++ (⟨#[10]⟩ : ByteArray)).size + t192.size ≤ 9223372036854775807 then (if ((x3_2 ++ (⟨#[10]⟩ : ByteArray)) ++ t192).size + 1 ≤ 9223372036854775807 then (spec_CommentText.l1 k2 (((x3_2 ++ (⟨#[10]⟩ : ByteArray)) ++ t192) ++ (⟨#[10]⟩ : ByteArray)) false l0 (l0.length : Int) x11_1 t188 (t188.length : Int) (wrap64 (x18_2 + 1))) else (none)) else (none)) else (none))) else (if x3_2.size + t192.size ≤ 9223372036854775807 then (if (x3_2 ++ t192).size + 1 ≤ 9223372036854775807 then (spec_CommentText.l1 k2 ((x3_2 ++ t192) ++ (⟨#[10]⟩ : ByteArray)) false l0 (l0.length : Int) x11_1 t188 (t188.length : Int) (wrap64 (x18_2 + 1))) else (none)) else (none)))) = some r := H
                      have A11 := Aside0.mk A110
                      clear A110
                      by_cases c12 : t192.toList = ([] : List UInt8)
                      · rw [if_pos c12] at H
                        have c12b0 : (t192.toList == ([] : List UInt8)) = true := beq_iff_eq.mpr c12
                        have c12b1 : (t192.toList != ([] : List UInt8)) = false := bne_eq_false_iff_eq.mpr c12
                        clear c12
                        have H' := Aside0.mk H
                        clear H
                        have p191 : 0 ≤ (x18_2 : Int) := of_decide_eq_true (by first | (with_reducible assumption) | assumption)
                        have q191 : x18_2 < (t188.length : Int) := of_decide_eq_true (by first | (with_reducible assumption) | assumption)
                        obtain ⟨ad191, e191, hx191_0⟩ := Kd.at_string (Kd.R_reads' HO_16.out).2.2 x18_2 p191 q191
                        cases e191
                        replace p191 := eq_true p191
                        replace q191 := eq_true q191
                        go_wp2_with (first | ((with_reducible refine gate_callee (f := 33) rfl ?_); refine goesL_ (some 23) rfl rfl Try.func33 (by kernel_rfl) rfl #[.string (rdOf ByteArray.empty t188 x18_2)] rfl (by (try simp only [List.map_toArray, List.map_cons, List.map_nil]); first | done | rfl | (simp only [List.length_drop, List.length_take]; rfl)) ?_; (with_reducible refine (spec_trimEnd.calls k2 (rdOf ByteArray.empty t188 x18_2) t192 _ A11.out).mono ?_); rintro e w' ⟨rfl, ⟨nd, rfl⟩⟩; refine ⟨_, rfl, ?_⟩))
                        go_roundg k2
                        case measure => have := HK1.out; have := HK2.out; omega
                        case rel => exact ⟨(x3_2), (true), (wrap64 (x18_2 + 1)), (by first | rfl | (simp; done) | (simp [*]; done)), (by first | rfl | (simp; done) | (simp [*]; done)), (by first | rfl | (simp; done) | (simp [*]; done)), H', ⟨by have := HK1.out; have := HK2.out; omega⟩, ⟨by (with_reducible repeat (first | apply Kd.R_alloc | apply Kd.R_drewN | apply Kd.R_drew)); exact HO_16.out⟩, ⟨by repeat (first | (with_reducible first | exact HB.out | apply below_alloc | apply pw_below_drewN | apply below_drew1) | exact HB.out)⟩⟩
                      · rw [if_neg c12] at H
                        have c12b0 : (t192.toList == ([] : List UInt8)) = false := beq_eq_false_iff_ne.mpr c12
                        have c12b1 : (t192.toList != ([] : List UInt8)) = true := bne_iff_ne.mpr c12
                        by_cases c13 : x4_2 = true
                        · subst c13
                          have H1 : (if x3_2.toList = ([] : List UInt8) then (if x3_2.size + t192.size ≤ 9223372036854775807 then (if (x3_2 ++ t192).size + 1 ≤ 9223372036854775807 then (spec_CommentText.l1 k2 ((x3_2 ++ t192) ++ (⟨#[10]⟩ : ByteArray)) false l0 (l0.length : Int) x11_1 t188 (t188.length : Int) (wrap64 (x18_2 + 1))) else (none)) else (none)) else (if x3_2.size + 1 ≤ 9223372036854775807 then (if (x3_2 ++ (⟨#[10]⟩ : ByteArray)).size + t192.size ≤ 9223372036854775807 then (if ((x3_2 ++ (⟨#[10]⟩ : ByteArray)) ++ t192).size + 1 ≤ 9223372036854775807 then (spec_CommentText.l1 k2 (((x3_2 ++ (⟨#[10]⟩ : ByteArray)) ++ t192) ++ (⟨#[10]⟩ : ByteArray)) false l0 (l0.length : Int) x11_1 t188 (t188.length : Int) (wrap64 (x18_2 + 1))) else (none)) else (none)) else (none))) = some r := by rw [if_pos rfl] at H; exact H
                          clear H
                          have H := H1
                          clear H1
                          by_cases c14 : x3_2.toList = ([] : List UInt8)
                          · rw [if_pos c14] at H
                            have c14b0 : (x3_2.toList == ([] : List UInt8)) = true := beq_iff_eq.mpr c14
                            have c14b1 : (x3_2.toList != ([] : List UInt8)) = false := bne_eq_false_iff_eq.mpr c14
                            clear c14
                            by_cases c15 : x3_2.size + t192.size ≤ 9223372036854775807
                            · rw [if_pos c15] at H
                              have c15b0 := eq_true c15
                              have c15b1 : decide (x3_2.size + t192.size ≤ 9223372036854775807) = true := decide_eq_true c15
                              try have c15b2 : (9223372036854775807 < x3_2.size + t192.size) = False := eq_false (Nat.not_lt.2 c15)
                              by_cases c16 : (x3_2 ++ t192).size + 1 ≤ 9223372036854775807
                              · rw [if_pos c16] at H
                                have c16b0 := eq_true c16
                                have c16b1 : decide ((x3_2 ++ t192).size + 1 ≤ 9223372036854775807) = true := decide_eq_true c16
                                try have c16b2 : (9223372036854775807 < (x3_2 ++ t192).size + 1) = False := eq_false (Nat.not_lt.2 c16)
                                have c16b3 : (9223372036854775807 < x3_2.size + t192.size + 1) = False := eq_false (by have h := c16; simp only [ByteArray.size_append, show (⟨#[10]⟩ : ByteArray).size = 1 from rfl] at h; omega)
                                have H' := Aside0.mk H
                                clear H
                                have p191 : 0 ≤ (x18_2 : Int) := of_decide_eq_true (by first | (with_reducible assumption) | assumption)
                                have q191 : x18_2 < (t188.length : Int) := of_decide_eq_true (by first | (with_reducible assumption) | assumption)
                                obtain ⟨ad191, e191, hx191_0⟩ := Kd.at_string (Kd.R_reads' HO_16.out).2.2 x18_2 p191 q191
                                cases e191
                                replace p191 := eq_true p191
                                replace q191 := eq_true q191
                                go_wp2_with (first | ((with_reducible refine gate_callee (f := 33) rfl ?_); refine goesL_ (some 23) rfl rfl Try.func33 (by kernel_rfl) rfl #[.string (rdOf ByteArray.empty t188 x18_2)] rfl (by (try simp only [List.map_toArray, List.map_cons, List.map_nil]); first | done | rfl | (simp only [List.length_drop, List.length_take]; rfl)) ?_; (with_reducible refine (spec_trimEnd.calls k2 (rdOf ByteArray.empty t188 x18_2) t192 _ A11.out).mono ?_); rintro e w' ⟨rfl, ⟨nd, rfl⟩⟩; refine ⟨_, rfl, ?_⟩))
                                go_roundg k2
                                case measure => have := HK1.out; have := HK2.out; omega
                                case rel => exact ⟨((x3_2 ++ t192) ++ (⟨#[10]⟩ : ByteArray)), (false), (wrap64 (x18_2 + 1)), (by first | rfl | (simp; done) | (simp [*]; done)), (by first | rfl | (simp; done) | (simp [*]; done)), (by first | rfl | (simp; done) | (simp [*]; done)), H', ⟨by have := HK1.out; have := HK2.out; omega⟩, ⟨by (with_reducible repeat (first | apply Kd.R_alloc | apply Kd.R_drewN | apply Kd.R_drew)); exact HO_16.out⟩, ⟨by repeat (first | (with_reducible first | exact HB.out | apply below_alloc | apply pw_below_drewN | apply below_drew1) | exact HB.out)⟩⟩
                              · rw [if_neg c16] at H
                                exact absurd H (by simp)
                            · rw [if_neg c15] at H
                              exact absurd H (by simp)
                          · rw [if_neg c14] at H
                            have c14b0 : (x3_2.toList == ([] : List UInt8)) = false := beq_eq_false_iff_ne.mpr c14
                            have c14b1 : (x3_2.toList != ([] : List UInt8)) = true := bne_iff_ne.mpr c14
                            by_cases c17 : x3_2.size + 1 ≤ 9223372036854775807
                            · rw [if_pos c17] at H
                              have c17b0 := eq_true c17
                              have c17b1 : decide (x3_2.size + 1 ≤ 9223372036854775807) = true := decide_eq_true c17
                              try have c17b2 : (9223372036854775807 < x3_2.size + 1) = False := eq_false (Nat.not_lt.2 c17)
                              by_cases c18 : (x3_2 ++ (⟨#[10]⟩ : ByteArray)).size + t192.size ≤ 9223372036854775807
                              · rw [if_pos c18] at H
                                have c18b0 := eq_true c18
                                have c18b1 : decide ((x3_2 ++ (⟨#[10]⟩ : ByteArray)).size + t192.size ≤ 9223372036854775807) = true := decide_eq_true c18
                                try have c18b2 : (9223372036854775807 < (x3_2 ++ (⟨#[10]⟩ : ByteArray)).size + t192.size) = False := eq_false (Nat.not_lt.2 c18)
                                have c18b3 : (9223372036854775807 < x3_2.size + 1 + t192.size) = False := eq_false (by have h := c18; simp only [ByteArray.size_append, show (⟨#[10]⟩ : ByteArray).size = 1 from rfl] at h; omega)
                                by_cases c19 : ((x3_2 ++ (⟨#[10]⟩ : ByteArray)) ++ t192).size + 1 ≤ 9223372036854775807
                                · rw [if_pos c19] at H
                                  have c19b0 := eq_true c19
                                  have c19b1 : decide (((x3_2 ++ (⟨#[10]⟩ : ByteArray)) ++ t192).size + 1 ≤ 9223372036854775807) = true := decide_eq_true c19
                                  try have c19b2 : (9223372036854775807 < ((x3_2 ++ (⟨#[10]⟩ : ByteArray)) ++ t192).size + 1) = False := eq_false (Nat.not_lt.2 c19)
                                  have c19b3 : (9223372036854775807 < x3_2.size + 1 + t192.size + 1) = False := eq_false (by have h := c19; simp only [ByteArray.size_append, show (⟨#[10]⟩ : ByteArray).size = 1 from rfl] at h; omega)
                                  have H' := Aside0.mk H
                                  clear H
                                  have p191 : 0 ≤ (x18_2 : Int) := of_decide_eq_true (by first | (with_reducible assumption) | assumption)
                                  have q191 : x18_2 < (t188.length : Int) := of_decide_eq_true (by first | (with_reducible assumption) | assumption)
                                  obtain ⟨ad191, e191, hx191_0⟩ := Kd.at_string (Kd.R_reads' HO_16.out).2.2 x18_2 p191 q191
                                  cases e191
                                  replace p191 := eq_true p191
                                  replace q191 := eq_true q191
                                  go_wp2_with (first | ((with_reducible refine gate_callee (f := 33) rfl ?_); refine goesL_ (some 23) rfl rfl Try.func33 (by kernel_rfl) rfl #[.string (rdOf ByteArray.empty t188 x18_2)] rfl (by (try simp only [List.map_toArray, List.map_cons, List.map_nil]); first | done | rfl | (simp only [List.length_drop, List.length_take]; rfl)) ?_; (with_reducible refine (spec_trimEnd.calls k2 (rdOf ByteArray.empty t188 x18_2) t192 _ A11.out).mono ?_); rintro e w' ⟨rfl, ⟨nd, rfl⟩⟩; refine ⟨_, rfl, ?_⟩))
                                  go_roundg k2
                                  case measure => have := HK1.out; have := HK2.out; omega
                                  case rel => exact ⟨(((x3_2 ++ (⟨#[10]⟩ : ByteArray)) ++ t192) ++ (⟨#[10]⟩ : ByteArray)), (false), (wrap64 (x18_2 + 1)), (by first | rfl | (simp; done) | (simp [*]; done)), (by first | rfl | (simp; done) | (simp [*]; done)), (by first | rfl | (simp; done) | (simp [*]; done)), H', ⟨by have := HK1.out; have := HK2.out; omega⟩, ⟨by (with_reducible repeat (first | apply Kd.R_alloc | apply Kd.R_drewN | apply Kd.R_drew)); exact HO_16.out⟩, ⟨by repeat (first | (with_reducible first | exact HB.out | apply below_alloc | apply pw_below_drewN | apply below_drew1) | exact HB.out)⟩⟩
                                · rw [if_neg c19] at H
                                  exact absurd H (by simp)
                              · rw [if_neg c18] at H
                                exact absurd H (by simp)
                            · rw [if_neg c17] at H
                              exact absurd H (by simp)
                        · replace c13 := Bool.eq_false_iff.mpr c13
                          subst c13
                          have H1 : (if x3_2.size + t192.size ≤ 9223372036854775807 then (if (x3_2 ++ t192).size + 1 ≤ 9223372036854775807 then (spec_CommentText.l1 k2 ((x3_2 ++ t192) ++ (⟨#[10]⟩ : ByteArray)) false l0 (l0.length : Int) x11_1 t188 (t188.length : Int) (wrap64 (x18_2 + 1))) else (none)) else (none)) = some r := by rw [if_neg (show ¬ (false = true) by decide)] at H; exact H
                          clear H
                          have H := H1
                          clear H1
                          by_cases c20 : x3_2.size + t192.size ≤ 9223372036854775807
                          · rw [if_pos c20] at H
                            have c20b0 := eq_true c20
                            have c20b1 : decide (x3_2.size + t192.size ≤ 9223372036854775807) = true := decide_eq_true c20
                            try have c20b2 : (9223372036854775807 < x3_2.size + t192.size) = False := eq_false (Nat.not_lt.2 c20)
                            by_cases c21 : (x3_2 ++ t192).size + 1 ≤ 9223372036854775807
                            · rw [if_pos c21] at H
                              have c21b0 := eq_true c21
                              have c21b1 : decide ((x3_2 ++ t192).size + 1 ≤ 9223372036854775807) = true := decide_eq_true c21
                              try have c21b2 : (9223372036854775807 < (x3_2 ++ t192).size + 1) = False := eq_false (Nat.not_lt.2 c21)
                              have c21b3 : (9223372036854775807 < x3_2.size + t192.size + 1) = False := eq_false (by have h := c21; simp only [ByteArray.size_append, show (⟨#[10]⟩ : ByteArray).size = 1 from rfl] at h; omega)
                              have H' := Aside0.mk H
                              clear H
                              have p191 : 0 ≤ (x18_2 : Int) := of_decide_eq_true (by first | (with_reducible assumption) | assumption)
                              have q191 : x18_2 < (t188.length : Int) := of_decide_eq_true (by first | (with_reducible assumption) | assumption)
                              obtain ⟨ad191, e191, hx191_0⟩ := Kd.at_string (Kd.R_reads' HO_16.out).2.2 x18_2 p191 q191
                              cases e191
                              replace p191 := eq_true p191
                              replace q191 := eq_true q191
                              go_wp2_with (first | ((with_reducible refine gate_callee (f := 33) rfl ?_); refine goesL_ (some 23) rfl rfl Try.func33 (by kernel_rfl) rfl #[.string (rdOf ByteArray.empty t188 x18_2)] rfl (by (try simp only [List.map_toArray, List.map_cons, List.map_nil]); first | done | rfl | (simp only [List.length_drop, List.length_take]; rfl)) ?_; (with_reducible refine (spec_trimEnd.calls k2 (rdOf ByteArray.empty t188 x18_2) t192 _ A11.out).mono ?_); rintro e w' ⟨rfl, ⟨nd, rfl⟩⟩; refine ⟨_, rfl, ?_⟩))
                              go_roundg k2
                              case measure => have := HK1.out; have := HK2.out; omega
                              case rel => exact ⟨((x3_2 ++ t192) ++ (⟨#[10]⟩ : ByteArray)), (false), (wrap64 (x18_2 + 1)), (by first | rfl | (simp; done) | (simp [*]; done)), (by first | rfl | (simp; done) | (simp [*]; done)), (by first | rfl | (simp; done) | (simp [*]; done)), H', ⟨by have := HK1.out; have := HK2.out; omega⟩, ⟨by (with_reducible repeat (first | apply Kd.R_alloc | apply Kd.R_drewN | apply Kd.R_drew)); exact HO_16.out⟩, ⟨by repeat (first | (with_reducible first | exact HB.out | apply below_alloc | apply pw_below_drewN | apply below_drew1) | exact HB.out)⟩⟩
                            · rw [if_neg c21] at H
                              exact absurd H (by simp)
                          · rw [if_neg c20] at H
                            exact absurd H (by simp)
                    · rw [if_neg c10] at H
                      exact absurd H (by simp)
                  · rw [if_neg c9] at H
                    exact absurd H (by simp)
                · rw [if_neg c8] at H
                  have c8b0 : decide (x18_2 < (t188.length : Int)) = false := decide_eq_false c8
                  clear c8
                  have H' := Aside0.mk H
                  clear H
                  go_wp2
                  go_roundg k2
                  case measure => have := HK1.out; have := HK2.out; omega
                  case rel => exact ⟨(x3_2), (x4_2), (wrap64 (x11_1 + 1)), (by first | rfl | (simp; done) | (simp [*]; done)), (by first | rfl | (simp; done) | (simp [*]; done)), (by first | rfl | (simp; done) | (simp [*]; done)), H', ⟨by have := HK1.out; have := HK2.out; omega⟩, ⟨by repeat (first | (with_reducible first | exact HB.out | apply below_alloc | apply pw_below_drewN | apply below_drew1) | exact HB.out)⟩⟩
          · rw [if_neg c4] at H
            exact absurd H (by simp)
        · rw [if_neg c3] at H
          exact absurd H (by simp)
      · rw [if_neg c2] at H
        have c2b0 : decide (x11_1 < (l0.length : Int)) = false := decide_eq_false c2
        clear c2
        obtain rfl := Option.some.inj H
        go_wp2
        go_ret
        exact ⟨by first | rfl | (simp [errW_none, errW_some] <;> rfl) | (simp [*, errW_none, errW_some] <;> rfl), by repeat (first | (with_reducible first | exact HB.out | apply below_alloc | apply pw_below_drewN | apply below_drew1) | exact HB.out)⟩

/-! ### spec_LinesOf: function 34 -/
def spec_LinesOf.f (k : Nat) (a0 : ByteArray) : Option (List ByteArray) := (spec_lines.f k a0).bind fun t193 => (if 0 ≤ (wrap64 ((t193.length : Int) - 1)) then (if (wrap64 ((t193.length : Int) - 1)) ≤ (t193.length : Int) then (some (t193.take ((wrap64 ((t193.length : Int) - 1)) : Int).toNat)) else (none)) else (none))
theorem spec_LinesOf.mono : ∀ a0 k, LeO (spec_LinesOf.f k a0) (spec_LinesOf.f (k + 1) a0) := by
  intro a0 k
  unfold spec_LinesOf.f
  repeat' first
      | (with_reducible exact spec_lines.mono _ _)
      | (with_reducible exact LeO.refl _)
      | (with_reducible exact LeO.none _)
      | (with_reducible refine LeO.ite ?_ ?_)
      | (with_reducible refine LeO.bind ?_ (fun _ => ?_))
      | exact spec_lines.mono _ _
      | exact LeO.none _
      | refine LeO.ite ?_ ?_
      | refine LeO.bind ?_ (fun _ => ?_)
set_option maxHeartbeats 8000000 in
set_option maxRecDepth 100000 in
theorem spec_LinesOf.calls (k : Nat) (a0 : ByteArray) (r : List ByteArray) (w : World) (h : spec_LinesOf.f k a0 = some r) :
    Calls Try.prog 34 #[.string a0] w fun e w' => ∃ v0_ : Value, e = .returned (v0_) ∧ Kd.R Kd.string 9 w' w.heap.size (fun _ => True) v0_ r ∧ Below w.heap.size w w' := by
  have HB := Aside0.mk (Below.refl w.heap.size w)
  have H : ((spec_lines.f k a0).bind fun t193 => (if 0 ≤ (wrap64 ((t193.length : Int) - 1)) then (if (wrap64 ((t193.length : Int) - 1)) ≤ (t193.length : Int) then (some (t193.take ((wrap64 ((t193.length : Int) - 1)) : Int).toNat)) else (none)) else (none))) = some r := h
  clear h
  replace H := Option.bind_eq_some_iff.mp H
  obtain ⟨t193, A20, H⟩ := H
  replace H : (if 0 ≤ (wrap64 ((t193.length : Int) - 1)) then (if (wrap64 ((t193.length : Int) - 1)) ≤ (t193.length : Int) then (some (t193.take ((wrap64 ((t193.length : Int) - 1)) : Int).toNat)) else (none)) else (none)) = some r := H
  have A2 := Aside0.mk A20
  clear A20
  obtain ⟨ji3, hji3⟩ : ∃ j_ : Int, (wrap64 ((t193.length : Int) - 1)) = j_ := ⟨_, rfl⟩
  replace H : (if 0 ≤ (ji3) then (if (ji3) ≤ (t193.length : Int) then (some (t193.take ((ji3) : Int).toNat)) else (none)) else (none)) = some r := by first | (rw [hji3] at H; exact H) | (simp only [hji3] at H ⊢; exact H)
  (try rw [hji3] at A2)
  have hji3w : (IntKind.i64.wrap ((t193.length : Int) - 1)) = ji3 := (i64_w _).trans hji3
  by_cases c4 : 0 ≤ (ji3)
  · rw [if_pos c4] at H
    have c4b0 := eq_true c4
    have c4b1 : decide (0 ≤ (ji3)) = true := decide_eq_true c4
    clear c4
    by_cases c5 : (ji3) ≤ (t193.length : Int)
    · rw [if_pos c5] at H
      have c5b0 := eq_true c5
      have c5b1 : decide ((ji3) ≤ (t193.length : Int)) = true := decide_eq_true c5
      clear c5
      obtain ⟨y196, hy196⟩ : ∃ y_ : List ByteArray, y_ = (t193.take ((ji3) : Int).toNat) := ⟨_, rfl⟩
      replace H : (some y196) = some r := by first | (rw [hy196]; with_reducible exact H) | (have H2_ := (Option.bind_some _ _).symm.trans H; rw [hy196]; with_reducible exact H2_) | (have H2_ := (Option.bind_some _ _).symm.trans H; with_reducible exact H2_) | with_reducible exact H | (rw [hy196]; exact H) | exact H
      have Ny196 := Aside0.mk hy196
      clear hy196
      obtain rfl := Option.some.inj H
      go_enter Try.func34, Try.ntmps34
      go_wp2_with (first | ((with_reducible refine gate_callee (f := 29) rfl ?_); refine goesL_ (some 5) rfl rfl Try.func29 (by kernel_rfl) rfl #[.string a0] rfl (by (try simp only [List.map_toArray, List.map_cons, List.map_nil]); first | done | rfl | (simp only [List.length_drop, List.length_take]; rfl)) ?_; (with_reducible refine (spec_lines.calls k a0 t193 _ A2.out).mono ?_); rintro e w6 ⟨v194, rfl, ho0, hb⟩; refine ⟨_, rfl, ?_⟩; have n0_ := Aside0.mk (Kd.R_lower ho0 (below_size (by repeat (first | (with_reducible first | exact HB.out | apply below_alloc | apply pw_below_drewN | apply below_drew1) | exact HB.out)))); have n1_ := Aside0.mk (below_step (by repeat (first | (with_reducible first | exact HB.out | apply below_alloc | apply pw_below_drewN | apply below_drew1) | exact HB.out)) hb); clear HB; have HO195 := n0_; have HB := n1_; clear n0_ n1_; (try clear hb); (try clear hb2); (try clear hk); (try clear hi); (try clear ho0); obtain ⟨Ao7, co7, eo7⟩ := Kd.R_slice HO195.out; subst eo7; have q8 : ((ji3) : Int) ≤ ((t193.length : Int) : Int) := of_decide_eq_true (by first | (with_reducible assumption) | assumption); obtain ⟨i08, hi08, _, hsz8, _⟩ := info_parts info9; have hcut8 := cut_to (P := Try.prog) 34 9 .i64 Try.underlying34 hi08 Ao7 t193.length co7 (ji3) (of_decide_eq_true (by first | (with_reducible assumption) | assumption)) q8 (Kd.R_reads' HO195.out).2.1; have hr8 := Kd.R_take (m := ((ji3) : Int).toNat) HO195.out (by omega); have hy8 : y196.length = ((ji3) : Int).toNat := (by rw [Ny196.out, List.length_take]; omega); rw [← Ny196.out] at hr8; rw [← hy8] at hr8 hcut8; clear hy8 hi08 hsz8 HO195; have HO198 := Aside0.mk hr8; clear hr8; replace q8 := eq_true q8))
      go_ret
      exact ⟨_, by first | rfl | (simp [errW_none, errW_some] <;> rfl) | (simp only [← hji3]; first | rfl | (simp [errW_none, errW_some] <;> rfl)) | (simp [*, errW_none, errW_some] <;> rfl), by (with_reducible repeat (first | apply Kd.R_alloc | apply Kd.R_drewN | apply Kd.R_drew)); exact HO198.out, by repeat (first | (with_reducible first | exact HB.out | apply below_alloc | apply pw_below_drewN | apply below_drew1) | exact HB.out)⟩
    · rw [if_neg c5] at H
      exact absurd H (by simp)
  · rw [if_neg c4] at H
    exact absurd H (by simp)

/-! ### laws_lineComments9: function 19 -/
def laws_lineComments9.l0 : Nat → List ByteArray → List ByteArray → Int → Int → Option (List ByteArray)
  | 0, _, _, _, _ => none
  | k + 1, x3, x8, x9, x10 => if x10 < x9 then (if 0 ≤ x10 then (if x10 < (x8.length : Int) then (if 3 + (rdOf ByteArray.empty x8 x10).size ≤ 9223372036854775807 then (if x3.length < 8796093022208 then (laws_lineComments9.l0 k (x3 ++ [(⟨#[47, 47, 32]⟩ : ByteArray) ++ (rdOf ByteArray.empty x8 x10)]) x8 x9 (wrap64 (x10 + 1))) else (none)) else (none)) else (none)) else (none)) else (some x3)
def laws_lineComments9.f (k : Nat) (a0 : ByteArray) : Option (List ByteArray) := (spec_LinesOf.f k a0).bind fun t202 => (laws_lineComments9.l0 k (([] : List ByteArray)) t202 (t202.length : Int) 0)
theorem laws_lineComments9.mono_l : ∀ k, (∀ y0 y1 y2 y3, LeO (laws_lineComments9.l0 k y0 y1 y2 y3) (laws_lineComments9.l0 (k + 1) y0 y1 y2 y3))
  | 0 => fun _ _ _ _ r h => by simp [laws_lineComments9.l0] at h
  | k + 1 => by
    have ih0 := laws_lineComments9.mono_l k
    · intro y0 y1 y2 y3
      unfold laws_lineComments9.l0
      repeat' first
      | (with_reducible exact ih0 _ _ _ _)
      | (with_reducible exact spec_LinesOf.mono _ _)
      | (with_reducible exact LeO.refl _)
      | (with_reducible exact LeO.none _)
      | (with_reducible refine LeO.ite ?_ ?_)
      | (with_reducible refine LeO.bind ?_ (fun _ => ?_))
      | exact ih0 _ _ _ _
      | exact spec_LinesOf.mono _ _
      | exact LeO.none _
      | refine LeO.ite ?_ ?_
      | refine LeO.bind ?_ (fun _ => ?_)
theorem laws_lineComments9.mono : ∀ a0 k, LeO (laws_lineComments9.f k a0) (laws_lineComments9.f (k + 1) a0) := by
  intro a0 k
  have ih0 := laws_lineComments9.mono_l k
  unfold laws_lineComments9.f
  repeat' first
      | (with_reducible exact ih0 _ _ _ _)
      | (with_reducible exact spec_LinesOf.mono _ _)
      | (with_reducible exact LeO.refl _)
      | (with_reducible exact LeO.none _)
      | (with_reducible refine LeO.ite ?_ ?_)
      | (with_reducible refine LeO.bind ?_ (fun _ => ?_))
      | exact ih0 _ _ _ _
      | exact spec_LinesOf.mono _ _
      | exact LeO.none _
      | refine LeO.ite ?_ ?_
      | refine LeO.bind ?_ (fun _ => ?_)
set_option maxHeartbeats 8000000 in
set_option maxRecDepth 100000 in
theorem laws_lineComments9.calls (k : Nat) (a0 : ByteArray) (r : List ByteArray) (w : World) (h : laws_lineComments9.f k a0 = some r) :
    Calls Try.prog 19 #[.string a0] w fun e w' => ∃ v0_ : Value, e = .returned (v0_) ∧ Kd.R Kd.string 9 w' w.heap.size (fun _ => True) v0_ r ∧ Below w.heap.size w w' := by
  have HB := Aside0.mk (Below.refl w.heap.size w)
  have H : ((spec_LinesOf.f k a0).bind fun t202 => (laws_lineComments9.l0 k (([] : List ByteArray)) t202 (t202.length : Int) 0)) = some r := h
  clear h
  obtain ⟨y199, hy199⟩ : ∃ y_ : List ByteArray, y_ = (([] : List ByteArray)) := ⟨_, rfl⟩
  replace H : ((spec_LinesOf.f k a0).bind fun t202 => (laws_lineComments9.l0 k y199 t202 (t202.length : Int) 0)) = some r := by first | (rw [hy199]; with_reducible exact H) | (have H2_ := (Option.bind_some _ _).symm.trans H; rw [hy199]; with_reducible exact H2_) | (have H2_ := (Option.bind_some _ _).symm.trans H; with_reducible exact H2_) | with_reducible exact H | (rw [hy199]; exact H) | exact H
  have Ny199 := Aside0.mk hy199
  clear hy199
  replace H := Option.bind_eq_some_iff.mp H
  obtain ⟨t202, A20, H⟩ := H
  replace H : (laws_lineComments9.l0 k y199 t202 (t202.length : Int) 0) = some r := H
  have A2 := Aside0.mk A20
  clear A20
  have H' := Aside0.mk H
  clear H
  go_enter Try.func19, Try.ntmps19
  go_wp2_with (first | ((with_reducible refine gate_dst (N := 6) rfl ?_); refine Kd.R_lit Kd.string _ 9 ?hg (N := 6) ?hd (xs := ([] : List ByteArray)) (inner := []) (ok := fun _ => True) (okp := fun _ => True) ?hr ?hp (fun _ hk => hk) trivial (Below.refl _ _) (Nat.le_refl _) (by simp) ?_; (case hd => rfl); (case hg => rfl); (case hr => first | (go_simp; done) | (go_simp; rfl)); (case hp => exact (Reps.none _ _)); intro v200 w3 ho4 hb hg_ hnew_; clear hg_ hnew_; (first | rw [← Ny199.out] at ho4 | (simp only [Int.reduceToNat] at ho4; rw [← Ny199.out] at ho4)); have n0_ := Aside0.mk (Kd.R_lower ho4 (below_size (by repeat (first | (with_reducible first | exact HB.out | apply below_alloc | apply pw_below_drewN | apply below_drew1) | exact HB.out)))); have n1_ := Aside0.mk (below_step (by repeat (first | (with_reducible first | exact HB.out | apply below_alloc | apply pw_below_drewN | apply below_drew1) | exact HB.out)) hb); clear HB; have HO201 := n0_; have HB := n1_; clear n0_ n1_; clear hb ho4) | ((with_reducible refine gate_callee (f := 34) rfl ?_); refine goesL_ (some 8) rfl rfl Try.func34 (by kernel_rfl) rfl #[.string a0] rfl (by (try simp only [List.map_toArray, List.map_cons, List.map_nil]); first | done | rfl | (simp only [List.length_drop, List.length_take]; rfl)) ?_; (with_reducible refine (spec_LinesOf.calls k a0 t202 _ A2.out).mono ?_); rintro e w5 ⟨v203, rfl, ho0, hb⟩; refine ⟨_, rfl, ?_⟩; have n0_ := Aside0.mk (Kd.R_elder' (by (with_reducible repeat (first | apply Kd.R_alloc | apply Kd.R_drewN | apply Kd.R_drew)); exact HO201.out) (Kd.R_base ho0) hb); have n1_ := Aside0.mk (Kd.R_lower (Kd.R_new' ho0 (Kd.R_lt (by (with_reducible repeat (first | apply Kd.R_alloc | apply Kd.R_drewN | apply Kd.R_drew)); exact HO201.out))) (below_size (by repeat (first | (with_reducible first | exact HB.out | apply below_alloc | apply pw_below_drewN | apply below_drew1) | exact HB.out)))); have n2_ := Aside0.mk (below_step (by repeat (first | (with_reducible first | exact HB.out | apply below_alloc | apply pw_below_drewN | apply below_drew1) | exact HB.out)) hb); clear HO201; clear HB; have HO201 := n0_; have HO204 := n1_; have HB := n2_; clear n0_ n1_ n2_; (try clear hb); (try clear hb2); (try clear hk); (try clear hi); (try clear ho0); obtain ⟨Ao6, co6, eo6⟩ := Kd.R_slice HO204.out; subst eo6))
  go_loopg [3, 10] k (fun kq v3 v10 w' => ∃ (x3_1 : List ByteArray) (x10_1 : Int), v10 = .int .i64 x10_1 ∧ Aside0 (laws_lineComments9.l0 kq x3_1 t202 (t202.length : Int) x10_1 = some r) ∧ Aside0 (kq ≤ k) ∧ Aside0 (Kd.R Kd.string 9 w' w.heap.size (fun k_ => some k_ ≠ ((.slice Ao6 t202.length co6) : Value).ownBlock) v3 x3_1) ∧ Aside0 (Kd.R Kd.string 9 w' w.heap.size (fun k_ => some k_ ≠ (v3 : Value).ownBlock) (.slice Ao6 t202.length co6) t202) ∧ Aside0 (Below w.heap.size w w'))
  case atStart => exact ⟨(y199), (0), (by first | rfl | (simp; done) | (simp [*]; done)), H', ⟨Nat.le_refl _⟩, ⟨by (with_reducible repeat (first | apply Kd.R_alloc | apply Kd.R_drewN | apply Kd.R_drew)); exact Kd.R_mono HO201.out (fun _ hk => hk.2)⟩, ⟨by (with_reducible repeat (first | apply Kd.R_alloc | apply Kd.R_drewN | apply Kd.R_drew)); exact Kd.R_mono HO204.out (fun _ hk => hk.2)⟩, ⟨by repeat (first | (with_reducible first | exact HB.out | apply below_alloc | apply pw_below_drewN | apply below_drew1) | exact HB.out)⟩⟩
  case round =>
    clear H'
    try clear c1
    try clear p2
    try clear c3
    obtain ⟨x3_1, x10_1, rfl, HA, HK1, HO_3, HO_8, HB⟩ := hrel
    cases gk with
    | zero => exact absurd HA.out (by simp [laws_lineComments9.l0])
    | succ k1 =>
      have H := HA.out
      clear HA
      simp only [laws_lineComments9.l0] at H
      by_cases c7 : x10_1 < (t202.length : Int)
      · rw [if_pos c7] at H
        have c7b0 : decide (x10_1 < (t202.length : Int)) = true := decide_eq_true c7
        clear c7
        by_cases c8 : 0 ≤ x10_1
        · rw [if_pos c8] at H
          have c8b0 : decide (0 ≤ x10_1) = true := decide_eq_true c8
          clear c8
          by_cases c9 : x10_1 < (t202.length : Int)
          · rw [if_pos c9] at H
            have c9b0 : decide (x10_1 < (t202.length : Int)) = true := decide_eq_true c9
            clear c9
            by_cases c10 : 3 + (rdOf ByteArray.empty t202 x10_1).size ≤ 9223372036854775807
            · rw [if_pos c10] at H
              have c10b0 := eq_true c10
              have c10b1 : decide (3 + (rdOf ByteArray.empty t202 x10_1).size ≤ 9223372036854775807) = true := decide_eq_true c10
              try have c10b2 : (9223372036854775807 < 3 + (rdOf ByteArray.empty t202 x10_1).size) = False := eq_false (Nat.not_lt.2 c10)
              by_cases c11 : x3_1.length < 8796093022208
              · rw [if_pos c11] at H
                have LMc11 := Aside0.mk c11
                clear c11
                obtain ⟨y206, hy206⟩ : ∃ y_ : List ByteArray, y_ = (x3_1 ++ [(⟨#[47, 47, 32]⟩ : ByteArray) ++ (rdOf ByteArray.empty t202 x10_1)]) := ⟨_, rfl⟩
                replace H : (laws_lineComments9.l0 k1 y206 t202 (t202.length : Int) (wrap64 (x10_1 + 1))) = some r := by first | (rw [hy206]; with_reducible exact H) | (have H2_ := (Option.bind_some _ _).symm.trans H; rw [hy206]; with_reducible exact H2_) | (have H2_ := (Option.bind_some _ _).symm.trans H; with_reducible exact H2_) | with_reducible exact H | (rw [hy206]; exact H) | exact H
                have Ny206 := Aside0.mk hy206
                clear hy206
                have H' := Aside0.mk H
                clear H
                have p205 : 0 ≤ (x10_1 : Int) := of_decide_eq_true (by first | (with_reducible assumption) | assumption)
                have q205 : x10_1 < (t202.length : Int) := of_decide_eq_true (by first | (with_reducible assumption) | assumption)
                obtain ⟨ad205, e205, hx205_0⟩ := Kd.at_string (Kd.R_reads' HO_8.out).2.2 x10_1 p205 q205
                cases e205
                replace p205 := eq_true p205
                replace q205 := eq_true q205
                go_wp2_with (first | ((with_reducible refine gate_builtin (b := .append) (xs := #[.tmp 14, .tmp 17]) rfl ?_); at_builtin; refine Kd.R_append Kd.string (w0 := w) w.heap.size rfl (.tmp 14) (.tmp 17) 34 9 (.string ⟨#[]⟩) 16 rfl Try.underlying34 info9 rfl (by decide) (by omega) u3 x3_1 ((⟨#[47, 47, 32]⟩ : ByteArray) ++ (rdOf ByteArray.empty t202 x10_1)) [.string ((⟨#[47, 47, 32]⟩ : ByteArray) ++ (rdOf ByteArray.empty t202 x10_1))] (fun k_ => some k_ ≠ (.slice (some ad205) t202.length co6 : Value).ownBlock) (fun _ => False) rfl rfl ?aP (fun _ hk => hk.elim) ?aF ?aO ?aB ?aS ?aL ?_; (case aP => exact rfl); (case aB => exact (by repeat (first | (with_reducible first | exact HB.out | apply below_alloc | apply pw_below_drewN | apply below_drew1) | exact HB.out))); (case aF => exact (fun k_ hk => Kd.fresh' (Kd.R_lt (by (with_reducible repeat (first | apply Kd.R_alloc | apply Kd.R_drewN | apply Kd.R_drew)); exact HO_8.out)) k_ hk)); (case aO => exact (by (with_reducible repeat (first | apply Kd.R_alloc | apply Kd.R_drewN | apply Kd.R_drew)); exact HO_3.out)); (case aS => exact (below_size (by repeat (first | (with_reducible first | exact HB.out | apply below_alloc | apply pw_below_drewN | apply below_drew1) | exact HB.out)))); (case aL => have := LMc11.out; omega); intro v207 w12 ho hb hg hat; rw [← Ny206.out] at ho; have n0_ := Aside0.mk (Kd.R_after (ok := (fun _ => True)) (by (with_reducible repeat (first | apply Kd.R_alloc | apply Kd.R_drewN | apply Kd.R_drew)); exact Kd.R_mono HO_8.out (fun _ hk => ⟨trivial, hk⟩)) hg hat); have n1_ := Aside0.mk (hb); have n2_ := Aside0.mk (ho); clear HO_8; clear HB; clear HO_3; have HO_8 := n0_; have HB := n1_; have HO208 := n2_; clear n0_ n1_ n2_; clear ho hb hg hat))
                go_roundg k1
                case measure => have := HK1.out; omega
                case rel => exact ⟨(y206), (wrap64 (x10_1 + 1)), (by first | rfl | (simp; done) | (simp [*]; done)), H', ⟨by have := HK1.out; omega⟩, ⟨by (with_reducible repeat (first | apply Kd.R_alloc | apply Kd.R_drewN | apply Kd.R_drew)); exact HO208.out⟩, ⟨by (with_reducible repeat (first | apply Kd.R_alloc | apply Kd.R_drewN | apply Kd.R_drew)); exact Kd.R_mono HO_8.out (fun _ hk => hk.2)⟩, ⟨by repeat (first | (with_reducible first | exact HB.out | apply below_alloc | apply pw_below_drewN | apply below_drew1) | exact HB.out)⟩⟩
              · rw [if_neg c11] at H
                exact absurd H (by simp)
            · rw [if_neg c10] at H
              exact absurd H (by simp)
          · rw [if_neg c9] at H
            exact absurd H (by simp)
        · rw [if_neg c8] at H
          exact absurd H (by simp)
      · rw [if_neg c7] at H
        have c7b0 : decide (x10_1 < (t202.length : Int)) = false := decide_eq_false c7
        clear c7
        obtain rfl := Option.some.inj H
        go_wp2
        go_ret
        exact ⟨_, by first | rfl | (simp [errW_none, errW_some] <;> rfl) | (simp [*, errW_none, errW_some] <;> rfl), by (with_reducible repeat (first | apply Kd.R_alloc | apply Kd.R_drewN | apply Kd.R_drew)); exact Kd.R_mono HO_3.out (fun _ hk => trivial), by repeat (first | (with_reducible first | exact HB.out | apply below_alloc | apply pw_below_drewN | apply below_drew1) | exact HB.out)⟩

/-! ### laws_FnCommentAgain: function 6 -/
def laws_FnCommentAgain.f (k : Nat) (l0 : List ByteArray) : Option (Bool) := (laws_zzFits1.f k l0).bind fun t209 => (if t209 = true then ((laws_areComments9.f k l0).bind fun t210 => (if t210 = true then ((impl_CommentText.f l0).bind fun t211 => ((spec_CommentText.f k l0).bind fun t212 => (if t211.toList = t212.toList then (if t211.toList = ([] : List UInt8) then (some true) else ((laws_lineComments9.f k t211).bind fun t213 => ((impl_CommentText.f t213).bind fun t216 => (some (t216.toList == t211.toList))))) else (some false)))) else (some true))) else (some true))
theorem laws_FnCommentAgain.mono : ∀ a0 k, LeO (laws_FnCommentAgain.f k a0) (laws_FnCommentAgain.f (k + 1) a0) := by
  intro a0 k
  unfold laws_FnCommentAgain.f
  repeat' first
      | (with_reducible exact laws_areComments9.mono _ _)
      | (with_reducible exact laws_lineComments9.mono _ _)
      | (with_reducible exact laws_zzFits1.mono _ _)
      | (with_reducible exact spec_CommentText.mono _ _)
      | (with_reducible exact LeO.refl _)
      | (with_reducible exact LeO.none _)
      | (with_reducible refine LeO.ite ?_ ?_)
      | (with_reducible refine LeO.bind ?_ (fun _ => ?_))
      | exact laws_areComments9.mono _ _
      | exact laws_lineComments9.mono _ _
      | exact laws_zzFits1.mono _ _
      | exact spec_CommentText.mono _ _
      | exact LeO.none _
      | refine LeO.ite ?_ ?_
      | refine LeO.bind ?_ (fun _ => ?_)
set_option maxHeartbeats 8000000 in
set_option maxRecDepth 100000 in
theorem laws_FnCommentAgain.calls (k : Nat) (A0 : Option Addr) (c0 : Nat) (l0 : List ByteArray) (r : Bool) (w : World) (hr0 : Kd.C Kd.string w A0 l0.length l0) (hc0 : l0.length ≤ c0) (h : laws_FnCommentAgain.f k l0 = some r) :
    Calls Try.prog 6 #[.slice A0 l0.length c0] w fun e w' => e = .returned (.bool r) ∧ Below w.heap.size w w' := by
  have HR0 := Aside0.mk hr0
  have HC0 := Aside0.mk hc0
  clear hr0 hc0
  have HB := Aside0.mk (Below.refl w.heap.size w)
  have H : ((laws_zzFits1.f k l0).bind fun t209 => (if t209 = true then ((laws_areComments9.f k l0).bind fun t210 => (if t210 = true then ((impl_CommentText.f l0).bind fun t211 => ((spec_CommentText.f k l0).bind fun t212 => (if t211.toList = t212.toList then (if t211.toList = ([] : List UInt8) then (some true) else ((laws_lineComments9.f k t211).bind fun t213 => ((impl_CommentText.f t213).bind fun t216 => (some (t216.toList == t211.toList))))) else (some false)))) else (some true))) else (some true))) = some r := h
  clear h
  replace H := Option.bind_eq_some_iff.mp H
  obtain ⟨t209, A20, H⟩ := H
  replace H : (if t209 = true then ((laws_areComments9.f k l0).bind fun t210 => (if t210 = true then ((impl_CommentText.f l0).bind fun t211 => ((spec_CommentText.f k l0).bind fun t212 => (if t211.toList = t212.toList then (if t211.toList = ([] : List UInt8) then (some true) else ((laws_lineComments9.f k t211).bind fun t213 => ((impl_CommentText.f t213).bind fun t216 => (some (t216.toList == t211.toList))))) else (some false)))) else (some true))) else (some true)) = some r := H
  have A2 := Aside0.mk A20
  clear A20
  by_cases c3 : t209 = true
  · subst c3
    have H1 : ((laws_areComments9.f k l0).bind fun t210 => (if t210 = true then ((impl_CommentText.f l0).bind fun t211 => ((spec_CommentText.f k l0).bind fun t212 => (if t211.toList = t212.toList then (if t211.toList = ([] : List UInt8) then (some true) else ((laws_lineComments9.f k t211).bind fun t213 => ((impl_CommentText.f t213).bind fun t216 => (some (t216.toList == t211.toList))))) else (some false)))) else (some true))) = some r := by rw [if_pos rfl] at H; exact H
    clear H
    have H := H1
    clear H1
    replace H := Option.bind_eq_some_iff.mp H
    obtain ⟨t210, A40, H⟩ := H
    replace H : (if t210 = true then ((impl_CommentText.f l0).bind fun t211 => ((spec_CommentText.f k l0).bind fun t212 => (if t211.toList = t212.toList then (if t211.toList = ([] : List UInt8) then (some true) else ((laws_lineComments9.f k t211).bind fun t213 => ((impl_CommentText.f t213).bind fun t216 => (some (t216.toList == t211.toList))))) else (some false)))) else (some true)) = some r := H
    have A4 := Aside0.mk A40
    clear A40
    by_cases c5 : t210 = true
    · subst c5
      have H1 : ((impl_CommentText.f l0).bind fun t211 => ((spec_CommentText.f k l0).bind fun t212 => (if t211.toList = t212.toList then (if t211.toList = ([] : List UInt8) then (some true) else ((laws_lineComments9.f k t211).bind fun t213 => ((impl_CommentText.f t213).bind fun t216 => (some (t216.toList == t211.toList))))) else (some false)))) = some r := by rw [if_pos rfl] at H; exact H
      clear H
      have H := H1
      clear H1
      replace H := Option.bind_eq_some_iff.mp H
      obtain ⟨t211, A60, H⟩ := H
      replace H : ((spec_CommentText.f k l0).bind fun t212 => (if t211.toList = t212.toList then (if t211.toList = ([] : List UInt8) then (some true) else ((laws_lineComments9.f k t211).bind fun t213 => ((impl_CommentText.f t213).bind fun t216 => (some (t216.toList == t211.toList))))) else (some false))) = some r := H
      have A6 := Aside0.mk A60
      clear A60
      replace H := Option.bind_eq_some_iff.mp H
      obtain ⟨t212, A70, H⟩ := H
      replace H : (if t211.toList = t212.toList then (if t211.toList = ([] : List UInt8) then (some true) else ((laws_lineComments9.f k t211).bind fun t213 => ((impl_CommentText.f t213).bind fun t216 => (some (t216.toList == t211.toList))))) else (some false)) = some r := H
      have A7 := Aside0.mk A70
      clear A70
      by_cases c8 : t211.toList = t212.toList
      · rw [if_pos c8] at H
        have c8b0 : (t211.toList == t212.toList) = true := beq_iff_eq.mpr c8
        have c8b1 : (t211.toList != t212.toList) = false := bne_eq_false_iff_eq.mpr c8
        clear c8
        by_cases c9 : t211.toList = ([] : List UInt8)
        · rw [if_pos c9] at H
          have c9b0 : (t211.toList == ([] : List UInt8)) = true := beq_iff_eq.mpr c9
          have c9b1 : (t211.toList != ([] : List UInt8)) = false := bne_eq_false_iff_eq.mpr c9
          clear c9
          obtain rfl := Option.some.inj H
          go_enter Try.func6, Try.ntmps6
          go_wp2_with (first | ((with_reducible refine gate_callee (f := 15) rfl ?_); refine goesL_ (some 5) rfl rfl Try.func15 (by kernel_rfl) rfl #[.slice A0 l0.length c0] rfl (by (try simp only [List.map_toArray, List.map_cons, List.map_nil]); first | done | rfl | (simp only [List.length_drop, List.length_take]; rfl)) ?_; (with_reducible refine (laws_zzFits1.calls k _ _ l0 true _ ?side1 ?side2 A2.out).mono ?_); (case side1 => repeat (first | exact HR0.out | (with_reducible refine Kd.C_alloc ?_ _) | (with_reducible refine Kd.C_drewN ?_ _) | (with_reducible refine Kd.C_drew ?_))); (case side2 => exact HC0.out); rintro e w' ⟨rfl, ⟨nd, rfl⟩⟩; refine ⟨_, rfl, ?_⟩) | ((with_reducible refine gate_callee (f := 16) rfl ?_); refine goesL_ (some 8) rfl rfl Try.func16 (by kernel_rfl) rfl #[.slice A0 l0.length c0] rfl (by (try simp only [List.map_toArray, List.map_cons, List.map_nil]); first | done | rfl | (simp only [List.length_drop, List.length_take]; rfl)) ?_; (with_reducible refine (laws_areComments9.calls k _ _ l0 true _ ?side1 ?side2 A4.out).mono ?_); (case side1 => repeat (first | exact HR0.out | (with_reducible refine Kd.C_alloc ?_ _) | (with_reducible refine Kd.C_drewN ?_ _) | (with_reducible refine Kd.C_drew ?_))); (case side2 => exact HC0.out); rintro e w10 ⟨rfl, hb⟩; refine ⟨_, rfl, ?_⟩; have n0_ := Aside0.mk (below_step (by repeat (first | (with_reducible first | exact HB.out | apply below_alloc | apply pw_below_drewN | apply below_drew1) | exact HB.out)) hb); clear HB; have HB := n0_; clear n0_; (try clear hb); (try clear hb2); (try clear hk); (try clear hi)) | ((with_reducible refine gate_callee (f := 17) rfl ?_); refine goesL_ (some 11) rfl rfl Try.func17 (by kernel_rfl) rfl #[.slice A0 l0.length c0] rfl (by (try simp only [List.map_toArray, List.map_cons, List.map_nil]); first | done | rfl | (simp only [List.length_drop, List.length_take]; rfl)) ?_; (with_reducible refine (impl_CommentText.calls _ _ l0 t211 _ ?side1 ?side2 A6.out).mono ?_); (case side1 => repeat (first | exact (Kd.C_below HR0.out HB.out) | (with_reducible refine Kd.C_alloc ?_ _) | (with_reducible refine Kd.C_drewN ?_ _) | (with_reducible refine Kd.C_drew ?_))); (case side2 => exact HC0.out); rintro e w11 ⟨rfl, hb⟩; refine ⟨_, rfl, ?_⟩; have n0_ := Aside0.mk (below_step (by repeat (first | (with_reducible first | exact HB.out | apply below_alloc | apply pw_below_drewN | apply below_drew1) | exact HB.out)) hb); clear HB; have HB := n0_; clear n0_; (try clear hb); (try clear hb2); (try clear hk); (try clear hi)) | ((with_reducible refine gate_callee (f := 18) rfl ?_); refine goesL_ (some 14) rfl rfl Try.func18 (by kernel_rfl) rfl #[.slice A0 l0.length c0] rfl (by (try simp only [List.map_toArray, List.map_cons, List.map_nil]); first | done | rfl | (simp only [List.length_drop, List.length_take]; rfl)) ?_; (with_reducible refine (spec_CommentText.calls k _ _ l0 t212 _ ?side1 ?side2 A7.out).mono ?_); (case side1 => repeat (first | exact (Kd.C_below HR0.out HB.out) | (with_reducible refine Kd.C_alloc ?_ _) | (with_reducible refine Kd.C_drewN ?_ _) | (with_reducible refine Kd.C_drew ?_))); (case side2 => exact HC0.out); rintro e w12 ⟨rfl, hb⟩; refine ⟨_, rfl, ?_⟩; have n0_ := Aside0.mk (below_step (by repeat (first | (with_reducible first | exact HB.out | apply below_alloc | apply pw_below_drewN | apply below_drew1) | exact HB.out)) hb); clear HB; have HB := n0_; clear n0_; (try clear hb); (try clear hb2); (try clear hk); (try clear hi)))
          go_ret
          exact ⟨by first | rfl | (simp [errW_none, errW_some] <;> rfl) | (simp [*, errW_none, errW_some] <;> rfl), by repeat (first | (with_reducible first | exact HB.out | apply below_alloc | apply pw_below_drewN | apply below_drew1) | exact HB.out)⟩
        · rw [if_neg c9] at H
          have c9b0 : (t211.toList == ([] : List UInt8)) = false := beq_eq_false_iff_ne.mpr c9
          have c9b1 : (t211.toList != ([] : List UInt8)) = true := bne_iff_ne.mpr c9
          replace H := Option.bind_eq_some_iff.mp H
          obtain ⟨t213, A130, H⟩ := H
          replace H : ((impl_CommentText.f t213).bind fun t216 => (some (t216.toList == t211.toList))) = some r := H
          have A13 := Aside0.mk A130
          clear A130
          replace H := Option.bind_eq_some_iff.mp H
          obtain ⟨t216, A140, H⟩ := H
          replace H : (some (t216.toList == t211.toList)) = some r := H
          have A14 := Aside0.mk A140
          clear A140
          obtain rfl := Option.some.inj H
          go_enter Try.func6, Try.ntmps6
          go_wp2_with (first | ((with_reducible refine gate_callee (f := 15) rfl ?_); refine goesL_ (some 5) rfl rfl Try.func15 (by kernel_rfl) rfl #[.slice A0 l0.length c0] rfl (by (try simp only [List.map_toArray, List.map_cons, List.map_nil]); first | done | rfl | (simp only [List.length_drop, List.length_take]; rfl)) ?_; (with_reducible refine (laws_zzFits1.calls k _ _ l0 true _ ?side1 ?side2 A2.out).mono ?_); (case side1 => repeat (first | exact HR0.out | (with_reducible refine Kd.C_alloc ?_ _) | (with_reducible refine Kd.C_drewN ?_ _) | (with_reducible refine Kd.C_drew ?_))); (case side2 => exact HC0.out); rintro e w' ⟨rfl, ⟨nd, rfl⟩⟩; refine ⟨_, rfl, ?_⟩) | ((with_reducible refine gate_callee (f := 16) rfl ?_); refine goesL_ (some 8) rfl rfl Try.func16 (by kernel_rfl) rfl #[.slice A0 l0.length c0] rfl (by (try simp only [List.map_toArray, List.map_cons, List.map_nil]); first | done | rfl | (simp only [List.length_drop, List.length_take]; rfl)) ?_; (with_reducible refine (laws_areComments9.calls k _ _ l0 true _ ?side1 ?side2 A4.out).mono ?_); (case side1 => repeat (first | exact HR0.out | (with_reducible refine Kd.C_alloc ?_ _) | (with_reducible refine Kd.C_drewN ?_ _) | (with_reducible refine Kd.C_drew ?_))); (case side2 => exact HC0.out); rintro e w15 ⟨rfl, hb⟩; refine ⟨_, rfl, ?_⟩; have n0_ := Aside0.mk (below_step (by repeat (first | (with_reducible first | exact HB.out | apply below_alloc | apply pw_below_drewN | apply below_drew1) | exact HB.out)) hb); clear HB; have HB := n0_; clear n0_; (try clear hb); (try clear hb2); (try clear hk); (try clear hi)) | ((with_reducible refine gate_callee (f := 17) rfl ?_); refine goesL_ (some 11) rfl rfl Try.func17 (by kernel_rfl) rfl #[.slice A0 l0.length c0] rfl (by (try simp only [List.map_toArray, List.map_cons, List.map_nil]); first | done | rfl | (simp only [List.length_drop, List.length_take]; rfl)) ?_; (with_reducible refine (impl_CommentText.calls _ _ l0 t211 _ ?side1 ?side2 A6.out).mono ?_); (case side1 => repeat (first | exact (Kd.C_below HR0.out HB.out) | (with_reducible refine Kd.C_alloc ?_ _) | (with_reducible refine Kd.C_drewN ?_ _) | (with_reducible refine Kd.C_drew ?_))); (case side2 => exact HC0.out); rintro e w16 ⟨rfl, hb⟩; refine ⟨_, rfl, ?_⟩; have n0_ := Aside0.mk (below_step (by repeat (first | (with_reducible first | exact HB.out | apply below_alloc | apply pw_below_drewN | apply below_drew1) | exact HB.out)) hb); clear HB; have HB := n0_; clear n0_; (try clear hb); (try clear hb2); (try clear hk); (try clear hi)) | ((with_reducible refine gate_callee (f := 18) rfl ?_); refine goesL_ (some 14) rfl rfl Try.func18 (by kernel_rfl) rfl #[.slice A0 l0.length c0] rfl (by (try simp only [List.map_toArray, List.map_cons, List.map_nil]); first | done | rfl | (simp only [List.length_drop, List.length_take]; rfl)) ?_; (with_reducible refine (spec_CommentText.calls k _ _ l0 t212 _ ?side1 ?side2 A7.out).mono ?_); (case side1 => repeat (first | exact (Kd.C_below HR0.out HB.out) | (with_reducible refine Kd.C_alloc ?_ _) | (with_reducible refine Kd.C_drewN ?_ _) | (with_reducible refine Kd.C_drew ?_))); (case side2 => exact HC0.out); rintro e w17 ⟨rfl, hb⟩; refine ⟨_, rfl, ?_⟩; have n0_ := Aside0.mk (below_step (by repeat (first | (with_reducible first | exact HB.out | apply below_alloc | apply pw_below_drewN | apply below_drew1) | exact HB.out)) hb); clear HB; have HB := n0_; clear n0_; (try clear hb); (try clear hb2); (try clear hk); (try clear hi)) | (go_at_call 19; (with_reducible refine (laws_lineComments9.calls k t211 t213 _ A13.out).mono ?_); rintro e w18 ⟨v214, rfl, ho0, hb⟩; have n0_ := Aside0.mk (Kd.R_lower ho0 (below_size (by repeat (first | (with_reducible first | exact HB.out | apply below_alloc | apply pw_below_drewN | apply below_drew1) | exact HB.out)))); have n1_ := Aside0.mk (below_step (by repeat (first | (with_reducible first | exact HB.out | apply below_alloc | apply pw_below_drewN | apply below_drew1) | exact HB.out)) hb); clear HB; have HO215 := n0_; have HB := n1_; clear n0_ n1_; (try clear hb); (try clear hb2); (try clear hk); (try clear hi); (try clear ho0); obtain ⟨Ao19, co19, eo19⟩ := Kd.R_slice HO215.out; subst eo19) | (go_at_call 17; (with_reducible refine (impl_CommentText.calls _ _ t213 t216 _ ?side1 ?side2 A14.out).mono ?_); (case side1 => repeat (first | exact (Kd.R_reads' HO215.out).2.2 | (with_reducible refine Kd.C_alloc ?_ _) | (with_reducible refine Kd.C_drewN ?_ _) | (with_reducible refine Kd.C_drew ?_))); (case side2 => exact (Kd.R_reads' HO215.out).2.1); rintro e w20 ⟨rfl, hb⟩; have n0_ := Aside0.mk (Kd.R_below (by (with_reducible repeat (first | apply Kd.R_alloc | apply Kd.R_drewN | apply Kd.R_drew)); exact HO215.out) hb); have n1_ := Aside0.mk (below_step (by repeat (first | (with_reducible first | exact HB.out | apply below_alloc | apply pw_below_drewN | apply below_drew1) | exact HB.out)) hb); clear HO215; clear HB; have HO215 := n0_; have HB := n1_; clear n0_ n1_; (try clear hb); (try clear hb2); (try clear hk); (try clear hi)))
          go_ret
          exact ⟨by first | rfl | (simp [errW_none, errW_some] <;> rfl) | (simp [*, errW_none, errW_some] <;> rfl), by repeat (first | (with_reducible first | exact HB.out | apply below_alloc | apply pw_below_drewN | apply below_drew1) | exact HB.out)⟩
      · rw [if_neg c8] at H
        have c8b0 : (t211.toList == t212.toList) = false := beq_eq_false_iff_ne.mpr c8
        have c8b1 : (t211.toList != t212.toList) = true := bne_iff_ne.mpr c8
        obtain rfl := Option.some.inj H
        go_enter Try.func6, Try.ntmps6
        go_wp2_with (first | ((with_reducible refine gate_callee (f := 15) rfl ?_); refine goesL_ (some 5) rfl rfl Try.func15 (by kernel_rfl) rfl #[.slice A0 l0.length c0] rfl (by (try simp only [List.map_toArray, List.map_cons, List.map_nil]); first | done | rfl | (simp only [List.length_drop, List.length_take]; rfl)) ?_; (with_reducible refine (laws_zzFits1.calls k _ _ l0 true _ ?side1 ?side2 A2.out).mono ?_); (case side1 => repeat (first | exact HR0.out | (with_reducible refine Kd.C_alloc ?_ _) | (with_reducible refine Kd.C_drewN ?_ _) | (with_reducible refine Kd.C_drew ?_))); (case side2 => exact HC0.out); rintro e w' ⟨rfl, ⟨nd, rfl⟩⟩; refine ⟨_, rfl, ?_⟩) | ((with_reducible refine gate_callee (f := 16) rfl ?_); refine goesL_ (some 8) rfl rfl Try.func16 (by kernel_rfl) rfl #[.slice A0 l0.length c0] rfl (by (try simp only [List.map_toArray, List.map_cons, List.map_nil]); first | done | rfl | (simp only [List.length_drop, List.length_take]; rfl)) ?_; (with_reducible refine (laws_areComments9.calls k _ _ l0 true _ ?side1 ?side2 A4.out).mono ?_); (case side1 => repeat (first | exact HR0.out | (with_reducible refine Kd.C_alloc ?_ _) | (with_reducible refine Kd.C_drewN ?_ _) | (with_reducible refine Kd.C_drew ?_))); (case side2 => exact HC0.out); rintro e w21 ⟨rfl, hb⟩; refine ⟨_, rfl, ?_⟩; have n0_ := Aside0.mk (below_step (by repeat (first | (with_reducible first | exact HB.out | apply below_alloc | apply pw_below_drewN | apply below_drew1) | exact HB.out)) hb); clear HB; have HB := n0_; clear n0_; (try clear hb); (try clear hb2); (try clear hk); (try clear hi)) | ((with_reducible refine gate_callee (f := 17) rfl ?_); refine goesL_ (some 11) rfl rfl Try.func17 (by kernel_rfl) rfl #[.slice A0 l0.length c0] rfl (by (try simp only [List.map_toArray, List.map_cons, List.map_nil]); first | done | rfl | (simp only [List.length_drop, List.length_take]; rfl)) ?_; (with_reducible refine (impl_CommentText.calls _ _ l0 t211 _ ?side1 ?side2 A6.out).mono ?_); (case side1 => repeat (first | exact (Kd.C_below HR0.out HB.out) | (with_reducible refine Kd.C_alloc ?_ _) | (with_reducible refine Kd.C_drewN ?_ _) | (with_reducible refine Kd.C_drew ?_))); (case side2 => exact HC0.out); rintro e w22 ⟨rfl, hb⟩; refine ⟨_, rfl, ?_⟩; have n0_ := Aside0.mk (below_step (by repeat (first | (with_reducible first | exact HB.out | apply below_alloc | apply pw_below_drewN | apply below_drew1) | exact HB.out)) hb); clear HB; have HB := n0_; clear n0_; (try clear hb); (try clear hb2); (try clear hk); (try clear hi)) | ((with_reducible refine gate_callee (f := 18) rfl ?_); refine goesL_ (some 14) rfl rfl Try.func18 (by kernel_rfl) rfl #[.slice A0 l0.length c0] rfl (by (try simp only [List.map_toArray, List.map_cons, List.map_nil]); first | done | rfl | (simp only [List.length_drop, List.length_take]; rfl)) ?_; (with_reducible refine (spec_CommentText.calls k _ _ l0 t212 _ ?side1 ?side2 A7.out).mono ?_); (case side1 => repeat (first | exact (Kd.C_below HR0.out HB.out) | (with_reducible refine Kd.C_alloc ?_ _) | (with_reducible refine Kd.C_drewN ?_ _) | (with_reducible refine Kd.C_drew ?_))); (case side2 => exact HC0.out); rintro e w23 ⟨rfl, hb⟩; refine ⟨_, rfl, ?_⟩; have n0_ := Aside0.mk (below_step (by repeat (first | (with_reducible first | exact HB.out | apply below_alloc | apply pw_below_drewN | apply below_drew1) | exact HB.out)) hb); clear HB; have HB := n0_; clear n0_; (try clear hb); (try clear hb2); (try clear hk); (try clear hi)))
        go_ret
        exact ⟨by first | rfl | (simp [errW_none, errW_some] <;> rfl) | (simp [*, errW_none, errW_some] <;> rfl), by repeat (first | (with_reducible first | exact HB.out | apply below_alloc | apply pw_below_drewN | apply below_drew1) | exact HB.out)⟩
    · replace c5 := Bool.eq_false_iff.mpr c5
      subst c5
      have H1 : (some true) = some r := by rw [if_neg (show ¬ (false = true) by decide)] at H; exact H
      clear H
      have H := H1
      clear H1
      obtain rfl := Option.some.inj H
      go_enter Try.func6, Try.ntmps6
      go_wp2_with (first | ((with_reducible refine gate_callee (f := 15) rfl ?_); refine goesL_ (some 5) rfl rfl Try.func15 (by kernel_rfl) rfl #[.slice A0 l0.length c0] rfl (by (try simp only [List.map_toArray, List.map_cons, List.map_nil]); first | done | rfl | (simp only [List.length_drop, List.length_take]; rfl)) ?_; (with_reducible refine (laws_zzFits1.calls k _ _ l0 true _ ?side1 ?side2 A2.out).mono ?_); (case side1 => repeat (first | exact HR0.out | (with_reducible refine Kd.C_alloc ?_ _) | (with_reducible refine Kd.C_drewN ?_ _) | (with_reducible refine Kd.C_drew ?_))); (case side2 => exact HC0.out); rintro e w' ⟨rfl, ⟨nd, rfl⟩⟩; refine ⟨_, rfl, ?_⟩) | ((with_reducible refine gate_callee (f := 16) rfl ?_); refine goesL_ (some 8) rfl rfl Try.func16 (by kernel_rfl) rfl #[.slice A0 l0.length c0] rfl (by (try simp only [List.map_toArray, List.map_cons, List.map_nil]); first | done | rfl | (simp only [List.length_drop, List.length_take]; rfl)) ?_; (with_reducible refine (laws_areComments9.calls k _ _ l0 false _ ?side1 ?side2 A4.out).mono ?_); (case side1 => repeat (first | exact HR0.out | (with_reducible refine Kd.C_alloc ?_ _) | (with_reducible refine Kd.C_drewN ?_ _) | (with_reducible refine Kd.C_drew ?_))); (case side2 => exact HC0.out); rintro e w24 ⟨rfl, hb⟩; refine ⟨_, rfl, ?_⟩; have n0_ := Aside0.mk (below_step (by repeat (first | (with_reducible first | exact HB.out | apply below_alloc | apply pw_below_drewN | apply below_drew1) | exact HB.out)) hb); clear HB; have HB := n0_; clear n0_; (try clear hb); (try clear hb2); (try clear hk); (try clear hi)))
      go_ret
      exact ⟨by first | rfl | (simp [errW_none, errW_some] <;> rfl) | (simp [*, errW_none, errW_some] <;> rfl), by repeat (first | (with_reducible first | exact HB.out | apply below_alloc | apply pw_below_drewN | apply below_drew1) | exact HB.out)⟩
  · replace c3 := Bool.eq_false_iff.mpr c3
    subst c3
    have H1 : (some true) = some r := by rw [if_neg (show ¬ (false = true) by decide)] at H; exact H
    clear H
    have H := H1
    clear H1
    obtain rfl := Option.some.inj H
    go_enter Try.func6, Try.ntmps6
    go_wp2_with (first | ((with_reducible refine gate_callee (f := 15) rfl ?_); refine goesL_ (some 5) rfl rfl Try.func15 (by kernel_rfl) rfl #[.slice A0 l0.length c0] rfl (by (try simp only [List.map_toArray, List.map_cons, List.map_nil]); first | done | rfl | (simp only [List.length_drop, List.length_take]; rfl)) ?_; (with_reducible refine (laws_zzFits1.calls k _ _ l0 false _ ?side1 ?side2 A2.out).mono ?_); (case side1 => repeat (first | exact HR0.out | (with_reducible refine Kd.C_alloc ?_ _) | (with_reducible refine Kd.C_drewN ?_ _) | (with_reducible refine Kd.C_drew ?_))); (case side2 => exact HC0.out); rintro e w' ⟨rfl, ⟨nd, rfl⟩⟩; refine ⟨_, rfl, ?_⟩))
    go_ret
    exact ⟨by first | rfl | (simp [errW_none, errW_some] <;> rfl) | (simp [*, errW_none, errW_some] <;> rfl), by repeat (first | (with_reducible first | exact HB.out | apply below_alloc | apply pw_below_drewN | apply below_drew1) | exact HB.out)⟩

end Go.Proofs.Yteaelkeiocogfaa.A
