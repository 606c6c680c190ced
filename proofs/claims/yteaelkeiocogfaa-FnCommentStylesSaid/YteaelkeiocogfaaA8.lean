-- Written by a program of this session (gprint.py) out of the kit's print of the translation. Not trusted: Lean checks it.
import Derived.Test.YteaelkeiocogfaaA0
import Derived.Test.YteaelkeiocogfaaA2
import Derived.Test.YteaelkeiocogfaaA4
import Derived.Test.YteaelkeiocogfaaA5
import Derived.Test.YteaelkeiocogfaaA7
import Derived.Test.YteaelkeiocogfaaGComm
namespace Go.Proofs.Yteaelkeiocogfaa.A
open Go.RowKit Go.Proofs.YteaelkeiocogfaaW.PrintWords Go.Proofs.YteaelkeiocogfaaW.PrintLast Go.Proofs.YteaelkeiocogfaaW.PrintMore
attribute [local go_sem] max2_int min2_int max_two min_two max_three min_three max_four min_four   -- for this text's walks alone
set_option linter.unusedVariables false
set_option linter.unusedSimpArgs false

/-! ### laws_FnCommentStyles: function 7 -/
mutual
def laws_FnCommentStyles.l0 : Nat → List ByteArray → List ByteArray → ByteArray → List ByteArray → Int → Int → Option (Bool)
  | 0, _, _, _, _, _, _ => none
  | k + 1, x0, x3, x4, x11, x12, x13 => if x13 < x12 then (if 0 ≤ x13 then (if x13 < (x11.length : Int) then (if ((rdOf ByteArray.empty x11 x13).size : Int) > 1000 then (some true) else (if 2 + (rdOf ByteArray.empty x11 x13).size ≤ 9223372036854775807 then (if ((⟨#[47, 42]⟩ : ByteArray) ++ (rdOf ByteArray.empty x11 x13)).size + 2 ≤ 9223372036854775807 then ((spec_IsComment.f k (((⟨#[47, 42]⟩ : ByteArray) ++ (rdOf ByteArray.empty x11 x13)) ++ (⟨#[42, 47]⟩ : ByteArray))).bind fun t222 => (if t222 = true then (if 3 + (rdOf ByteArray.empty x11 x13).size ≤ 9223372036854775807 then ((spec_IsComment.f k ((⟨#[47, 47, 32]⟩ : ByteArray) ++ (rdOf ByteArray.empty x11 x13))).bind fun t223 => (if t223 = true then (if x3.length < 8796093022208 then (if x4.size + 1 ≤ 9223372036854775807 then (if (x4 ++ (⟨#[10]⟩ : ByteArray)).size + (rdOf ByteArray.empty x11 x13).size ≤ 9223372036854775807 then (laws_FnCommentStyles.l0 k x0 (x3 ++ [(⟨#[47, 47, 32]⟩ : ByteArray) ++ (rdOf ByteArray.empty x11 x13)]) ((x4 ++ (⟨#[10]⟩ : ByteArray)) ++ (rdOf ByteArray.empty x11 x13)) x11 x12 (wrap64 (x13 + 1))) else (none)) else (none)) else (none)) else (some true))) else (none)) else (some true))) else (none)) else (none))) else (none)) else (none)) else (if (x0.length : Int) < 1 then (laws_FnCommentStyles.j1 k x3 x4 true) else (laws_FnCommentStyles.j1 k x3 x4 (decide ((x0.length : Int) > 50))))
def laws_FnCommentStyles.j1 : Nat → List ByteArray → ByteArray → Bool → Option (Bool)
  | 0, _, _, _ => none
  | k + 1, x3, x4, x50 => if x50 = true then (some true) else ((impl_CommentText.f x3).bind fun t227 => (if 2 + x4.size ≤ 9223372036854775807 then (if ((⟨#[47, 42]⟩ : ByteArray) ++ x4).size + 3 ≤ 9223372036854775807 then ((impl_CommentText.f (([((⟨#[47, 42]⟩ : ByteArray) ++ x4) ++ (⟨#[10, 42, 47]⟩ : ByteArray)] : List ByteArray))).bind fun t231 => (if t227.toList = t231.toList then ((impl_CommentText.f (([(⟨#[47, 47, 32, 97]⟩ : ByteArray)] : List ByteArray))).bind fun t235 => (some (t235.toList == ([97, 10] : List UInt8)))) else (some false))) else (none)) else (none)))
end
def laws_FnCommentStyles.f (k : Nat) (l0 : List ByteArray) : Option (Bool) := (laws_zzFits1.f k l0).bind fun t217 => (if t217 = true then (laws_FnCommentStyles.l0 k l0 (([] : List ByteArray)) (⟨#[]⟩ : ByteArray) l0 (l0.length : Int) 0) else (some true))
theorem laws_FnCommentStyles.mono_l : ∀ k, (∀ y0 y1 y2 y3 y4 y5, LeO (laws_FnCommentStyles.l0 k y0 y1 y2 y3 y4 y5) (laws_FnCommentStyles.l0 (k + 1) y0 y1 y2 y3 y4 y5)) ∧ (∀ y0 y1 y2, LeO (laws_FnCommentStyles.j1 k y0 y1 y2) (laws_FnCommentStyles.j1 (k + 1) y0 y1 y2))
  | 0 => ⟨fun _ _ _ _ _ _ r h => by simp [laws_FnCommentStyles.l0] at h, fun _ _ _ r h => by simp [laws_FnCommentStyles.j1] at h⟩
  | k + 1 => by
    obtain ⟨ih0, ih1⟩ := laws_FnCommentStyles.mono_l k
    refine ⟨?_, ?_⟩
    · intro y0 y1 y2 y3 y4 y5
      unfold laws_FnCommentStyles.l0
      repeat' first
      | (with_reducible exact ih0 _ _ _ _ _ _)
      | (with_reducible exact ih1 _ _ _)
      | (with_reducible exact laws_zzFits1.mono _ _)
      | (with_reducible exact spec_IsComment.mono _ _)
      | (with_reducible exact LeO.refl _)
      | (with_reducible exact LeO.none _)
      | (with_reducible refine LeO.ite ?_ ?_)
      | (with_reducible refine LeO.bind ?_ (fun _ => ?_))
      | exact ih0 _ _ _ _ _ _
      | exact ih1 _ _ _
      | exact laws_zzFits1.mono _ _
      | exact spec_IsComment.mono _ _
      | exact LeO.none _
      | refine LeO.ite ?_ ?_
      | refine LeO.bind ?_ (fun _ => ?_)
    · intro y0 y1 y2
      unfold laws_FnCommentStyles.j1
      repeat' first
      | (with_reducible exact ih0 _ _ _ _ _ _)
      | (with_reducible exact ih1 _ _ _)
      | (with_reducible exact laws_zzFits1.mono _ _)
      | (with_reducible exact spec_IsComment.mono _ _)
      | (with_reducible exact LeO.refl _)
      | (with_reducible exact LeO.none _)
      | (with_reducible refine LeO.ite ?_ ?_)
      | (with_reducible refine LeO.bind ?_ (fun _ => ?_))
      | exact ih0 _ _ _ _ _ _
      | exact ih1 _ _ _
      | exact laws_zzFits1.mono _ _
      | exact spec_IsComment.mono _ _
      | exact LeO.none _
      | refine LeO.ite ?_ ?_
      | refine LeO.bind ?_ (fun _ => ?_)
theorem laws_FnCommentStyles.mono : ∀ a0 k, LeO (laws_FnCommentStyles.f k a0) (laws_FnCommentStyles.f (k + 1) a0) := by
  intro a0 k
  obtain ⟨ih0, ih1⟩ := laws_FnCommentStyles.mono_l k
  unfold laws_FnCommentStyles.f
  repeat' first
      | (with_reducible exact ih0 _ _ _ _ _ _)
      | (with_reducible exact ih1 _ _ _)
      | (with_reducible exact laws_zzFits1.mono _ _)
      | (with_reducible exact spec_IsComment.mono _ _)
      | (with_reducible exact LeO.refl _)
      | (with_reducible exact LeO.none _)
      | (with_reducible refine LeO.ite ?_ ?_)
      | (with_reducible refine LeO.bind ?_ (fun _ => ?_))
      | exact ih0 _ _ _ _ _ _
      | exact ih1 _ _ _
      | exact laws_zzFits1.mono _ _
      | exact spec_IsComment.mono _ _
      | exact LeO.none _
      | refine LeO.ite ?_ ?_
      | refine LeO.bind ?_ (fun _ => ?_)
set_option maxHeartbeats 8000000 in
set_option maxRecDepth 100000 in
theorem laws_FnCommentStyles.calls (k : Nat) (A0 : Option Addr) (c0 : Nat) (l0 : List ByteArray) (r : Bool) (w : World) (hr0 : Kd.C Kd.string w A0 l0.length l0) (hc0 : l0.length ≤ c0) (h : laws_FnCommentStyles.f k l0 = some r) :
    Calls Try.prog 7 #[.slice A0 l0.length c0] w fun e w' => e = .returned (.bool r) ∧ Below w.heap.size w w' := by
  have HR0 := Aside0.mk hr0
  have HC0 := Aside0.mk hc0
  clear hr0 hc0
  have HB := Aside0.mk (Below.refl w.heap.size w)
  have H : ((laws_zzFits1.f k l0).bind fun t217 => (if t217 = true then (laws_FnCommentStyles.l0 k l0 (([] : List ByteArray)) (⟨#[]⟩ : ByteArray) l0 (l0.length : Int) 0) else (some true))) = some r := h
  clear h
  replace H := Option.bind_eq_some_iff.mp H
  obtain ⟨t217, A20, H⟩ := H
  replace H : (if t217 = true then (laws_FnCommentStyles.l0 k l0 (([] : List ByteArray)) (⟨#[]⟩ : ByteArray) l0 (l0.length : Int) 0) else (some true)) = some r := H
  have A2 := Aside0.mk A20
  clear A20
  by_cases c3 : t217 = true
  · subst c3
    have H1 : (laws_FnCommentStyles.l0 k l0 (([] : List ByteArray)) (⟨#[]⟩ : ByteArray) l0 (l0.length : Int) 0) = some r := by rw [if_pos rfl] at H; exact H
    clear H
    have H := H1
    clear H1
    obtain ⟨y218, hy218⟩ : ∃ y_ : List ByteArray, y_ = (([] : List ByteArray)) := ⟨_, rfl⟩
    replace H : (laws_FnCommentStyles.l0 k l0 y218 (⟨#[]⟩ : ByteArray) l0 (l0.length : Int) 0) = some r := by first | (rw [hy218]; with_reducible exact H) | (have H2_ := (Option.bind_some _ _).symm.trans H; rw [hy218]; with_reducible exact H2_) | (have H2_ := (Option.bind_some _ _).symm.trans H; with_reducible exact H2_) | with_reducible exact H | (rw [hy218]; exact H) | exact H
    have Ny218 := Aside0.mk hy218
    clear hy218
    have H' := Aside0.mk H
    clear H
    go_enter Try.func7, Try.ntmps7
    go_wp2_with (first | ((with_reducible refine gate_callee (f := 15) rfl ?_); refine goesL_ (some 8) rfl rfl Try.func15 (by kernel_rfl) rfl #[.slice A0 l0.length c0] rfl (by (try simp only [List.map_toArray, List.map_cons, List.map_nil]); first | done | rfl | (simp only [List.length_drop, List.length_take]; rfl)) ?_; (with_reducible refine (laws_zzFits1.calls k _ _ l0 true _ ?side1 ?side2 A2.out).mono ?_); (case side1 => repeat (first | exact HR0.out | (with_reducible refine Kd.C_alloc ?_ _) | (with_reducible refine Kd.C_drewN ?_ _) | (with_reducible refine Kd.C_drew ?_))); (case side2 => exact HC0.out); rintro e w' ⟨rfl, ⟨nd, rfl⟩⟩; refine ⟨_, rfl, ?_⟩) | ((with_reducible refine gate_dst (N := 10) rfl ?_); (try (refine gate_guard (by rfl) ?_; dsimp only)); refine Kd.R_lit Kd.string _ 9 ?hg (N := 10) ?hd (xs := ([] : List ByteArray)) (inner := []) (ok := fun _ => True) (okp := fun _ => True) ?hr ?hp (fun _ hk => hk) trivial (Below.refl _ _) (Nat.le_refl _) (by simp) ?_; (case hd => rfl); (case hg => rfl); (case hr => first | (go_simp; done) | (go_simp; rfl)); (case hp => exact (Reps.none _ _)); intro v219 w4 ho5 hb hg_ hnew_; clear hg_ hnew_; (first | rw [← Ny218.out] at ho5 | (simp only [Int.reduceToNat] at ho5; rw [← Ny218.out] at ho5)); have n0_ := Aside0.mk (Kd.R_lower ho5 (below_size (by repeat (first | (with_reducible first | exact HB.out | apply below_alloc | apply pw_below_drewN | apply below_drew1) | exact HB.out)))); have n1_ := Aside0.mk (below_step (by repeat (first | (with_reducible first | exact HB.out | apply below_alloc | apply pw_below_drewN | apply below_drew1) | exact HB.out)) hb); clear HB; have HO220 := n0_; have HB := n1_; clear n0_ n1_; clear hb ho5))
    go_loopg [3, 4, 13] k (fun kq v3 v4 v13 w' => ∃ (x3_1 : List ByteArray) (x4_1 : ByteArray) (x13_1 : Int), v4 = .string x4_1 ∧ v13 = .int .i64 x13_1 ∧ Aside0 (laws_FnCommentStyles.l0 kq l0 x3_1 x4_1 l0 (l0.length : Int) x13_1 = some r) ∧ Aside0 (kq ≤ k) ∧ Aside0 (Kd.R Kd.string 9 w' w.heap.size (fun _ => True) v3 x3_1) ∧ Aside0 (Below w.heap.size w w'))
    case atStart => exact ⟨(y218), ((⟨#[]⟩ : ByteArray)), (0), (by first | rfl | (simp; done) | (simp [*]; done)), (by first | rfl | (simp; done) | (simp [*]; done)), H', ⟨Nat.le_refl _⟩, ⟨by (with_reducible repeat (first | apply Kd.R_alloc | apply Kd.R_drewN | apply Kd.R_drew)); exact HO220.out⟩, ⟨by repeat (first | (with_reducible first | exact HB.out | apply below_alloc | apply pw_below_drewN | apply below_drew1) | exact HB.out)⟩⟩
    case round =>
      clear H'
      try clear c1
      try clear p2
      try clear c3
      obtain ⟨x3_1, x4_1, x13_1, rfl, rfl, HA, HK1, HO_3, HB⟩ := hrel
      cases gk with
      | zero => exact absurd HA.out (by simp [laws_FnCommentStyles.l0])
      | succ k1 =>
        have H := HA.out
        clear HA
        simp only [laws_FnCommentStyles.l0] at H
        by_cases c6 : x13_1 < (l0.length : Int)
        · rw [if_pos c6] at H
          have c6b0 : decide (x13_1 < (l0.length : Int)) = true := decide_eq_true c6
          clear c6
          by_cases c7 : 0 ≤ x13_1
          · rw [if_pos c7] at H
            have c7b0 : decide (0 ≤ x13_1) = true := decide_eq_true c7
            clear c7
            by_cases c8 : x13_1 < (l0.length : Int)
            · rw [if_pos c8] at H
              have c8b0 : decide (x13_1 < (l0.length : Int)) = true := decide_eq_true c8
              clear c8
              by_cases c9 : ((rdOf ByteArray.empty l0 x13_1).size : Int) > 1000
              · rw [if_pos c9] at H
                have c9b0 : decide (1000 < ((rdOf ByteArray.empty l0 x13_1).size : Int)) = true := decide_eq_true c9
                have c9b1 : decide (1000 < (rdOf ByteArray.empty l0 x13_1).size) = true := decide_eq_true (by omega)
                clear c9
                obtain rfl := Option.some.inj H
                have p221 : 0 ≤ (x13_1 : Int) := of_decide_eq_true (by first | (with_reducible assumption) | assumption)
                have q221 : x13_1 < (l0.length : Int) := of_decide_eq_true (by first | (with_reducible assumption) | assumption)
                obtain ⟨ad221, e221, hx221_0⟩ := Kd.at_string HR0.out x13_1 p221 q221
                cases e221
                replace hx221_0 := (HB.out.cell (World.block_lt_of_cell? w _ hx221_0)).trans hx221_0
                replace p221 := eq_true p221
                replace q221 := eq_true q221
                go_wp2
                go_ret
                exact ⟨by first | rfl | (simp [errW_none, errW_some] <;> rfl) | (simp [*, errW_none, errW_some] <;> rfl), by repeat (first | (with_reducible first | exact HB.out | apply below_alloc | apply pw_below_drewN | apply below_drew1) | exact HB.out)⟩
              · rw [if_neg c9] at H
                have c9b0 : decide (1000 < ((rdOf ByteArray.empty l0 x13_1).size : Int)) = false := decide_eq_false c9
                have c9b1 : decide (1000 < (rdOf ByteArray.empty l0 x13_1).size) = false := decide_eq_false (by omega)
                clear c9
                by_cases c10 : 2 + (rdOf ByteArray.empty l0 x13_1).size ≤ 9223372036854775807
                · rw [if_pos c10] at H
                  have c10b0 := eq_true c10
                  have c10b1 : decide (2 + (rdOf ByteArray.empty l0 x13_1).size ≤ 9223372036854775807) = true := decide_eq_true c10
                  try have c10b2 : (9223372036854775807 < 2 + (rdOf ByteArray.empty l0 x13_1).size) = False := eq_false (Nat.not_lt.2 c10)
                  by_cases c11 : ((⟨#[47, 42]⟩ : ByteArray) ++ (rdOf ByteArray.empty l0 x13_1)).size + 2 ≤ 9223372036854775807
                  · rw [if_pos c11] at H
                    have c11b0 := eq_true c11
                    have c11b1 : decide (((⟨#[47, 42]⟩ : ByteArray) ++ (rdOf ByteArray.empty l0 x13_1)).size + 2 ≤ 9223372036854775807) = true := decide_eq_true c11
                    try have c11b2 : (9223372036854775807 < ((⟨#[47, 42]⟩ : ByteArray) ++ (rdOf ByteArray.empty l0 x13_1)).size + 2) = False := eq_false (Nat.not_lt.2 c11)
                    have c11b3 : (9223372036854775807 < 2 + (rdOf ByteArray.empty l0 x13_1).size + 2) = False := eq_false (by have h := c11; simp only [ByteArray.size_append, show (⟨#[10]⟩ : ByteArray).size = 1 from rfl, show (⟨#[47, 42]⟩ : ByteArray).size = 2 from rfl, show (⟨#[42, 47]⟩ : ByteArray).size = 2 from rfl, show (⟨#[47, 47, 32]⟩ : ByteArray).size = 3 from rfl, show (⟨#[10, 42, 47]⟩ : ByteArray).size = 3 from rfl] at h; omega)
                    replace H := Option.bind_eq_some_iff.mp H
                    obtain ⟨t222, A120, H⟩ := H
                    replace H : (if t222 = true then (if 3 + (rdOf ByteArray.empty l0 x13_1).size ≤ 9223372036854775807 then ((spec_IsComment.f k1 ((⟨#[47, 47, 32]⟩ : ByteArray) ++ (rdOf ByteArray.empty l0 x13_1))).bind fun t223 => (if t223 = true then (if x3_1.length < 8796093022208 then (if x4_1.size + 1 ≤ 9223372036854775807 then (if (x4_1 ++ (⟨#[10]⟩ : ByteArray)).size + (rdOf ByteArray.empty l0 x13_1).size ≤ 9223372036854775807 then (laws_FnCommentStyles.l0 k1 l0 (x3_1 ++ [(⟨#[47, 47, 32]⟩ : ByteArray) ++ (rdOf ByteArray.empty l0 x13_1)]) ((x4_1 ++ (⟨#[10]⟩ : ByteArray)) ++ (rdOf ByteArray.empty l0 x13_1)) l0 (l0.length : Int) (wrap64 (x13_1 + 1))) else (none)) else (none)) else (none)) else (some true))) else (none)) else (some true)) = some r := H
                    have A12 := Aside0.mk A120
                    clear A120
                    by_cases c13 : t222 = true
                    · subst c13
                      have H1 : (if 3 + (rdOf ByteArray.empty l0 x13_1).size ≤ 9223372036854775807 then ((spec_IsComment.f k1 ((⟨#[47, 47, 32]⟩ : ByteArray) ++ (rdOf ByteArray.empty l0 x13_1))).bind fun t223 => (if t223 = true then (if x3_1.length < 8796093022208 then (if x4_1.size + 1 ≤ 9223372036854775807 then (if (x4_1 ++ (⟨#[10]⟩ : ByteArray)).size + (rdOf ByteArray.empty l0 x13_1).size ≤ 9223372036854775807 then (laws_FnCommentStyles.l0 k1 l0 (x3_1 ++ [(⟨#[47, 47, 32]⟩ : ByteArray) ++ (rdOf ByteArray.empty l0 x13_1)]) ((x4_1 ++ (⟨#[10]⟩ : ByteArray)) ++ (rdOf ByteArray.empty l0 x13_1)) l0 (l0.length : Int) (wrap64 (x13_1 + 1))) else (none)) else (none)) else (none)) else (some true))) else (none)) = some r := by rw [if_pos rfl] at H; exact H
                      clear H
                      have H := H1
                      clear H1
                      by_cases c14 : 3 + (rdOf ByteArray.empty l0 x13_1).size ≤ 9223372036854775807
                      · rw [if_pos c14] at H
                        have c14b0 := eq_true c14
                        have c14b1 : decide (3 + (rdOf ByteArray.empty l0 x13_1).size ≤ 9223372036854775807) = true := decide_eq_true c14
                        try have c14b2 : (9223372036854775807 < 3 + (rdOf ByteArray.empty l0 x13_1).size) = False := eq_false (Nat.not_lt.2 c14)
                        replace H := Option.bind_eq_some_iff.mp H
                        obtain ⟨t223, A150, H⟩ := H
                        replace H : (if t223 = true then (if x3_1.length < 8796093022208 then (if x4_1.size + 1 ≤ 9223372036854775807 then (if (x4_1 ++ (⟨#[10]⟩ : ByteArray)).size + (rdOf ByteArray.empty l0 x13_1).size ≤ 9223372036854775807 then (laws_FnCommentStyles.l0 k1 l0 (x3_1 ++ [(⟨#[47, 47, 32]⟩ : ByteArray) ++ (rdOf ByteArray.empty l0 x13_1)]) ((x4_1 ++ (⟨#[10]⟩ : ByteArray)) ++ (rdOf ByteArray.empty l0 x13_1)) l0 (l0.length : Int) (wrap64 (x13_1 + 1))) else (none)) else (none)) else (none)) else (some true)) = some r := H
                        have A15 := Aside0.mk A150
                        clear A150
                        by_cases c16 : t223 = true
                        · subst c16
                          have H1 : (if x3_1.length < 8796093022208 then (if x4_1.size + 1 ≤ 9223372036854775807 then (if (x4_1 ++ (⟨#[10]⟩ : ByteArray)).size + (rdOf ByteArray.empty l0 x13_1).size ≤ 9223372036854775807 then (laws_FnCommentStyles.l0 k1 l0 (x3_1 ++ [(⟨#[47, 47, 32]⟩ : ByteArray) ++ (rdOf ByteArray.empty l0 x13_1)]) ((x4_1 ++ (⟨#[10]⟩ : ByteArray)) ++ (rdOf ByteArray.empty l0 x13_1)) l0 (l0.length : Int) (wrap64 (x13_1 + 1))) else (none)) else (none)) else (none)) = some r := by rw [if_pos rfl] at H; exact H
                          clear H
                          have H := H1
                          clear H1
                          by_cases c17 : x3_1.length < 8796093022208
                          · rw [if_pos c17] at H
                            have LMc17 := Aside0.mk c17
                            clear c17
                            obtain ⟨y224, hy224⟩ : ∃ y_ : List ByteArray, y_ = (x3_1 ++ [(⟨#[47, 47, 32]⟩ : ByteArray) ++ (rdOf ByteArray.empty l0 x13_1)]) := ⟨_, rfl⟩
                            replace H : (if x4_1.size + 1 ≤ 9223372036854775807 then (if (x4_1 ++ (⟨#[10]⟩ : ByteArray)).size + (rdOf ByteArray.empty l0 x13_1).size ≤ 9223372036854775807 then (laws_FnCommentStyles.l0 k1 l0 y224 ((x4_1 ++ (⟨#[10]⟩ : ByteArray)) ++ (rdOf ByteArray.empty l0 x13_1)) l0 (l0.length : Int) (wrap64 (x13_1 + 1))) else (none)) else (none)) = some r := by first | (rw [hy224]; with_reducible exact H) | (have H2_ := (Option.bind_some _ _).symm.trans H; rw [hy224]; with_reducible exact H2_) | (have H2_ := (Option.bind_some _ _).symm.trans H; with_reducible exact H2_) | with_reducible exact H | (rw [hy224]; exact H) | exact H
                            have Ny224 := Aside0.mk hy224
                            clear hy224
                            by_cases c18 : x4_1.size + 1 ≤ 9223372036854775807
                            · rw [if_pos c18] at H
                              have c18b0 := eq_true c18
                              have c18b1 : decide (x4_1.size + 1 ≤ 9223372036854775807) = true := decide_eq_true c18
                              try have c18b2 : (9223372036854775807 < x4_1.size + 1) = False := eq_false (Nat.not_lt.2 c18)
                              by_cases c19 : (x4_1 ++ (⟨#[10]⟩ : ByteArray)).size + (rdOf ByteArray.empty l0 x13_1).size ≤ 9223372036854775807
                              · rw [if_pos c19] at H
                                have c19b0 := eq_true c19
                                have c19b1 : decide ((x4_1 ++ (⟨#[10]⟩ : ByteArray)).size + (rdOf ByteArray.empty l0 x13_1).size ≤ 9223372036854775807) = true := decide_eq_true c19
                                try have c19b2 : (9223372036854775807 < (x4_1 ++ (⟨#[10]⟩ : ByteArray)).size + (rdOf ByteArray.empty l0 x13_1).size) = False := eq_false (Nat.not_lt.2 c19)
                                have c19b3 : (9223372036854775807 < x4_1.size + 1 + (rdOf ByteArray.empty l0 x13_1).size) = False := eq_false (by have h := c19; simp only [ByteArray.size_append, show (⟨#[10]⟩ : ByteArray).size = 1 from rfl, show (⟨#[47, 42]⟩ : ByteArray).size = 2 from rfl, show (⟨#[42, 47]⟩ : ByteArray).size = 2 from rfl, show (⟨#[47, 47, 32]⟩ : ByteArray).size = 3 from rfl, show (⟨#[10, 42, 47]⟩ : ByteArray).size = 3 from rfl] at h; omega)
                                have H' := Aside0.mk H
                                clear H
                                have p221 : 0 ≤ (x13_1 : Int) := of_decide_eq_true (by first | (with_reducible assumption) | assumption)
                                have q221 : x13_1 < (l0.length : Int) := of_decide_eq_true (by first | (with_reducible assumption) | assumption)
                                obtain ⟨ad221, e221, hx221_0⟩ := Kd.at_string HR0.out x13_1 p221 q221
                                cases e221
                                replace hx221_0 := (HB.out.cell (World.block_lt_of_cell? w _ hx221_0)).trans hx221_0
                                replace p221 := eq_true p221
                                replace q221 := eq_true q221
                                go_wp2_with (first | (go_at_call 12; (with_reducible refine (spec_IsComment.calls k1 (((⟨#[47, 42]⟩ : ByteArray) ++ (rdOf ByteArray.empty l0 x13_1)) ++ (⟨#[42, 47]⟩ : ByteArray)) true _ A12.out).mono ?_); rintro e w20 ⟨rfl, hb⟩; have n0_ := Aside0.mk (Kd.R_below (by (with_reducible repeat (first | apply Kd.R_alloc | apply Kd.R_drewN | apply Kd.R_drew)); exact HO_3.out) hb); have n1_ := Aside0.mk (below_step (by repeat (first | (with_reducible first | exact HB.out | apply below_alloc | apply pw_below_drewN | apply below_drew1) | exact HB.out)) hb); clear HO_3; clear HB; have HO_3 := n0_; have HB := n1_; clear n0_ n1_; (try clear hb); (try clear hb2); (try clear hk); (try clear hi)) | (go_at_call 12; (with_reducible refine (spec_IsComment.calls k1 ((⟨#[47, 47, 32]⟩ : ByteArray) ++ (rdOf ByteArray.empty l0 x13_1)) true _ A15.out).mono ?_); rintro e w21 ⟨rfl, hb⟩; have n0_ := Aside0.mk (Kd.R_below (by (with_reducible repeat (first | apply Kd.R_alloc | apply Kd.R_drewN | apply Kd.R_drew)); exact HO_3.out) hb); have n1_ := Aside0.mk (below_step (by repeat (first | (with_reducible first | exact HB.out | apply below_alloc | apply pw_below_drewN | apply below_drew1) | exact HB.out)) hb); clear HO_3; clear HB; have HO_3 := n0_; have HB := n1_; clear n0_ n1_; (try clear hb); (try clear hb2); (try clear hk); (try clear hi)) | ((with_reducible refine gate_builtin (b := .append) (xs := #[.tmp 33, .tmp 36]) rfl ?_); (try (refine gate_guard (by rfl) ?_; dsimp only)); at_builtin; refine Kd.R_append Kd.string (w0 := w) w.heap.size rfl (.tmp 33) (.tmp 36) 34 9 (.string ⟨#[]⟩) 16 rfl Try.underlying34 info9 rfl (by decide) (by omega) u3 x3_1 ((⟨#[47, 47, 32]⟩ : ByteArray) ++ (rdOf ByteArray.empty l0 x13_1)) [.string ((⟨#[47, 47, 32]⟩ : ByteArray) ++ (rdOf ByteArray.empty l0 x13_1))] (fun _ => True) (fun _ => False) rfl rfl ?aP (fun _ hk => hk.elim) ?aF ?aO ?aB ?aS ?aL ?_; (case aP => exact rfl); (case aB => exact (by repeat (first | (with_reducible first | exact HB.out | apply below_alloc | apply pw_below_drewN | apply below_drew1) | exact HB.out))); (case aF => exact (fun _ _ => trivial)); (case aO => exact (by (with_reducible repeat (first | apply Kd.R_alloc | apply Kd.R_drewN | apply Kd.R_drew)); exact HO_3.out)); (case aS => exact (below_size (by repeat (first | (with_reducible first | exact HB.out | apply below_alloc | apply pw_below_drewN | apply below_drew1) | exact HB.out)))); (case aL => have := LMc17.out; omega); intro v225 w22 ho hb hg hat; rw [← Ny224.out] at ho; have n0_ := Aside0.mk (hb); have n1_ := Aside0.mk (ho); clear HB; clear HO_3; have HB := n0_; have HO226 := n1_; clear n0_ n1_; clear ho hb hg hat))
                                go_roundg k1
                                case measure => have := HK1.out; omega
                                case rel => exact ⟨(y224), ((x4_1 ++ (⟨#[10]⟩ : ByteArray)) ++ (rdOf ByteArray.empty l0 x13_1)), (wrap64 (x13_1 + 1)), (by first | rfl | (simp; done) | (simp [*]; done)), (by first | rfl | (simp; done) | (simp [*]; done)), H', ⟨by have := HK1.out; omega⟩, ⟨by (with_reducible repeat (first | apply Kd.R_alloc | apply Kd.R_drewN | apply Kd.R_drew)); exact HO226.out⟩, ⟨by repeat (first | (with_reducible first | exact HB.out | apply below_alloc | apply pw_below_drewN | apply below_drew1) | exact HB.out)⟩⟩
                              · rw [if_neg c19] at H
                                exact absurd H (by simp)
                            · rw [if_neg c18] at H
                              exact absurd H (by simp)
                          · rw [if_neg c17] at H
                            exact absurd H (by simp)
                        · replace c16 := Bool.eq_false_iff.mpr c16
                          subst c16
                          have H1 : (some true) = some r := by rw [if_neg (show ¬ (false = true) by decide)] at H; exact H
                          clear H
                          have H := H1
                          clear H1
                          obtain rfl := Option.some.inj H
                          have p221 : 0 ≤ (x13_1 : Int) := of_decide_eq_true (by first | (with_reducible assumption) | assumption)
                          have q221 : x13_1 < (l0.length : Int) := of_decide_eq_true (by first | (with_reducible assumption) | assumption)
                          obtain ⟨ad221, e221, hx221_0⟩ := Kd.at_string HR0.out x13_1 p221 q221
                          cases e221
                          replace hx221_0 := (HB.out.cell (World.block_lt_of_cell? w _ hx221_0)).trans hx221_0
                          replace p221 := eq_true p221
                          replace q221 := eq_true q221
                          go_wp2_with (first | (go_at_call 12; (with_reducible refine (spec_IsComment.calls k1 (((⟨#[47, 42]⟩ : ByteArray) ++ (rdOf ByteArray.empty l0 x13_1)) ++ (⟨#[42, 47]⟩ : ByteArray)) true _ A12.out).mono ?_); rintro e w23 ⟨rfl, hb⟩; have n0_ := Aside0.mk (Kd.R_below (by (with_reducible repeat (first | apply Kd.R_alloc | apply Kd.R_drewN | apply Kd.R_drew)); exact HO_3.out) hb); have n1_ := Aside0.mk (below_step (by repeat (first | (with_reducible first | exact HB.out | apply below_alloc | apply pw_below_drewN | apply below_drew1) | exact HB.out)) hb); clear HO_3; clear HB; have HO_3 := n0_; have HB := n1_; clear n0_ n1_; (try clear hb); (try clear hb2); (try clear hk); (try clear hi)) | (go_at_call 12; (with_reducible refine (spec_IsComment.calls k1 ((⟨#[47, 47, 32]⟩ : ByteArray) ++ (rdOf ByteArray.empty l0 x13_1)) false _ A15.out).mono ?_); rintro e w24 ⟨rfl, hb⟩; have n0_ := Aside0.mk (Kd.R_below (by (with_reducible repeat (first | apply Kd.R_alloc | apply Kd.R_drewN | apply Kd.R_drew)); exact HO_3.out) hb); have n1_ := Aside0.mk (below_step (by repeat (first | (with_reducible first | exact HB.out | apply below_alloc | apply pw_below_drewN | apply below_drew1) | exact HB.out)) hb); clear HO_3; clear HB; have HO_3 := n0_; have HB := n1_; clear n0_ n1_; (try clear hb); (try clear hb2); (try clear hk); (try clear hi)))
                          go_ret
                          exact ⟨by first | rfl | (simp [errW_none, errW_some] <;> rfl) | (simp [*, errW_none, errW_some] <;> rfl), by repeat (first | (with_reducible first | exact HB.out | apply below_alloc | apply pw_below_drewN | apply below_drew1) | exact HB.out)⟩
                      · rw [if_neg c14] at H
                        exact absurd H (by simp)
                    · replace c13 := Bool.eq_false_iff.mpr c13
                      subst c13
                      have H1 : (some true) = some r := by rw [if_neg (show ¬ (false = true) by decide)] at H; exact H
                      clear H
                      have H := H1
                      clear H1
                      obtain rfl := Option.some.inj H
                      have p221 : 0 ≤ (x13_1 : Int) := of_decide_eq_true (by first | (with_reducible assumption) | assumption)
                      have q221 : x13_1 < (l0.length : Int) := of_decide_eq_true (by first | (with_reducible assumption) | assumption)
                      obtain ⟨ad221, e221, hx221_0⟩ := Kd.at_string HR0.out x13_1 p221 q221
                      cases e221
                      replace hx221_0 := (HB.out.cell (World.block_lt_of_cell? w _ hx221_0)).trans hx221_0
                      replace p221 := eq_true p221
                      replace q221 := eq_true q221
                      go_wp2_with (first | (go_at_call 12; (with_reducible refine (spec_IsComment.calls k1 (((⟨#[47, 42]⟩ : ByteArray) ++ (rdOf ByteArray.empty l0 x13_1)) ++ (⟨#[42, 47]⟩ : ByteArray)) false _ A12.out).mono ?_); rintro e w25 ⟨rfl, hb⟩; have n0_ := Aside0.mk (Kd.R_below (by (with_reducible repeat (first | apply Kd.R_alloc | apply Kd.R_drewN | apply Kd.R_drew)); exact HO_3.out) hb); have n1_ := Aside0.mk (below_step (by repeat (first | (with_reducible first | exact HB.out | apply below_alloc | apply pw_below_drewN | apply below_drew1) | exact HB.out)) hb); clear HO_3; clear HB; have HO_3 := n0_; have HB := n1_; clear n0_ n1_; (try clear hb); (try clear hb2); (try clear hk); (try clear hi)))
                      go_ret
                      exact ⟨by first | rfl | (simp [errW_none, errW_some] <;> rfl) | (simp [*, errW_none, errW_some] <;> rfl), by repeat (first | (with_reducible first | exact HB.out | apply below_alloc | apply pw_below_drewN | apply below_drew1) | exact HB.out)⟩
                  · rw [if_neg c11] at H
                    exact absurd H (by simp)
                · rw [if_neg c10] at H
                  exact absurd H (by simp)
            · rw [if_neg c8] at H
              exact absurd H (by simp)
          · rw [if_neg c7] at H
            exact absurd H (by simp)
        · rw [if_neg c6] at H
          have c6b0 : decide (x13_1 < (l0.length : Int)) = false := decide_eq_false c6
          clear c6
          have HC26 := Aside0.mk H
          clear H
          go_upto_region 11 with (fail)
          go_cut [50] (fun v50 wc => ∃ (kq : Nat) (x50_25 : Bool), v50 = .bool x50_25 ∧ Aside0 (laws_FnCommentStyles.j1 kq x3_1 x4_1 x50_25 = some r) ∧ Aside0 (kq ≤ k1) ∧ Aside0 (Kd.R Kd.string 9 wc w.heap.size (fun _ => True) u3 x3_1) ∧ Aside0 (Below w.heap.size w wc))
          case first =>
            have H := HC26.out
            clear HC26
            by_cases c27 : (l0.length : Int) < 1
            · rw [if_pos c27] at H
              have c27b0 : decide ((l0.length : Int) < 1) = true := decide_eq_true c27
              have c27b1 : decide (l0.length < 1) = true := decide_eq_true (by omega)
              clear c27
              (first | rw [c27b0] | (simp only [i64_w, i32_w]; rw [c27b0]) | skip)
              have H' := Aside0.mk H
              clear H
              go_wp2
              go_meet
              case rel => exact ⟨_, (true), (by first | rfl | (simp; done) | (simp [*]; done)), H', ⟨by have := HK1.out; first | omega | exact Nat.le_refl _⟩, ⟨by (with_reducible repeat (first | apply Kd.R_alloc | apply Kd.R_drewN | apply Kd.R_drew)); exact HO_3.out⟩, ⟨by repeat (first | (with_reducible first | exact HB.out | apply below_alloc | apply pw_below_drewN | apply below_drew1) | exact HB.out)⟩⟩
            · rw [if_neg c27] at H
              have c27b0 : decide ((l0.length : Int) < 1) = false := decide_eq_false c27
              have c27b1 : decide (l0.length < 1) = false := decide_eq_false (by omega)
              clear c27
              (first | rw [c27b0] | (simp only [i64_w, i32_w]; rw [c27b0]) | skip)
              have H' := Aside0.mk H
              clear H
              go_wp2
              go_meet
              case rel => exact ⟨_, (decide ((l0.length : Int) > 50)), (by first | rfl | (simp; done) | (simp [*]; done)), H', ⟨by have := HK1.out; first | omega | exact Nat.le_refl _⟩, ⟨by (with_reducible repeat (first | apply Kd.R_alloc | apply Kd.R_drewN | apply Kd.R_drew)); exact HO_3.out⟩, ⟨by repeat (first | (with_reducible first | exact HB.out | apply below_alloc | apply pw_below_drewN | apply below_drew1) | exact HB.out)⟩⟩
          case rest =>
            clear HC26
            try clear c1
            try clear c2
            try clear p2
            try clear q2
            try clear hx2
            try clear c3
            try clear c6
            try clear c6b0
            try clear p6
            try clear c7
            try clear c7b0
            try clear c8
            try clear c8b0
            try clear c9
            try clear c9b0
            try clear c9b1
            try clear c10
            try clear c10b0
            try clear c10b1
            try clear c10b2
            try clear c11
            try clear c11b0
            try clear c11b1
            try clear c11b2
            try clear c13
            try clear c14
            try clear c14b0
            try clear c14b1
            try clear c14b2
            try clear c15
            try clear c16
            try clear c17
            try clear c18
            try clear c18b0
            try clear c18b1
            try clear c18b2
            try clear c19
            try clear c19b0
            try clear c19b1
            try clear c19b2
            try clear p22
            try clear q22
            try clear hx22
            try clear c27
            try clear c27b0
            try clear c27b1
            try clear hx221_0
            try clear p2
            try clear p221
            try clear q221
            obtain ⟨kq, x50_25, rfl, HA, HJ25, HO_3, HB⟩ := hcut
            cases kq with
            | zero => exact absurd HA.out (by simp [laws_FnCommentStyles.j1])
            | succ kj25 =>
              have H := HA.out
              clear HA
              simp only [laws_FnCommentStyles.j1] at H
              by_cases c28 : x50_25 = true
              · subst c28
                have H1 : (some true) = some r := by rw [if_pos rfl] at H; exact H
                clear H
                have H := H1
                clear H1
                obtain rfl := Option.some.inj H
                go_wp2
                go_ret
                exact ⟨by first | rfl | (simp [errW_none, errW_some] <;> rfl) | (simp [*, errW_none, errW_some] <;> rfl), by repeat (first | (with_reducible first | exact HB.out | apply below_alloc | apply pw_below_drewN | apply below_drew1) | exact HB.out)⟩
              · replace c28 := Bool.eq_false_iff.mpr c28
                subst c28
                have H1 : ((impl_CommentText.f x3_1).bind fun t227 => (if 2 + x4_1.size ≤ 9223372036854775807 then (if ((⟨#[47, 42]⟩ : ByteArray) ++ x4_1).size + 3 ≤ 9223372036854775807 then ((impl_CommentText.f (([((⟨#[47, 42]⟩ : ByteArray) ++ x4_1) ++ (⟨#[10, 42, 47]⟩ : ByteArray)] : List ByteArray))).bind fun t231 => (if t227.toList = t231.toList then ((impl_CommentText.f (([(⟨#[47, 47, 32, 97]⟩ : ByteArray)] : List ByteArray))).bind fun t235 => (some (t235.toList == ([97, 10] : List UInt8)))) else (some false))) else (none)) else (none))) = some r := by rw [if_neg (show ¬ (false = true) by decide)] at H; exact H
                clear H
                have H := H1
                clear H1
                replace H := Option.bind_eq_some_iff.mp H
                obtain ⟨t227, A290, H⟩ := H
                replace H : (if 2 + x4_1.size ≤ 9223372036854775807 then (if ((⟨#[47, 42]⟩ : ByteArray) ++ x4_1).size + 3 ≤ 9223372036854775807 then ((impl_CommentText.f (([((⟨#[47, 42]⟩ : ByteArray) ++ x4_1) ++ (⟨#[10, 42, 47]⟩ : ByteArray)] : List ByteArray))).bind fun t231 => (if t227.toList = t231.toList then ((impl_CommentText.f (([(⟨#[47, 47, 32, 97]⟩ : ByteArray)] : List ByteArray))).bind fun t235 => (some (t235.toList == ([97, 10] : List UInt8)))) else (some false))) else (none)) else (none)) = some r := H
                have A29 := Aside0.mk A290
                clear A290
                by_cases c30 : 2 + x4_1.size ≤ 9223372036854775807
                · rw [if_pos c30] at H
                  have c30b0 := eq_true c30
                  have c30b1 : decide (2 + x4_1.size ≤ 9223372036854775807) = true := decide_eq_true c30
                  try have c30b2 : (9223372036854775807 < 2 + x4_1.size) = False := eq_false (Nat.not_lt.2 c30)
                  by_cases c31 : ((⟨#[47, 42]⟩ : ByteArray) ++ x4_1).size + 3 ≤ 9223372036854775807
                  · rw [if_pos c31] at H
                    have c31b0 := eq_true c31
                    have c31b1 : decide (((⟨#[47, 42]⟩ : ByteArray) ++ x4_1).size + 3 ≤ 9223372036854775807) = true := decide_eq_true c31
                    try have c31b2 : (9223372036854775807 < ((⟨#[47, 42]⟩ : ByteArray) ++ x4_1).size + 3) = False := eq_false (Nat.not_lt.2 c31)
                    have c31b3 : (9223372036854775807 < 2 + x4_1.size + 3) = False := eq_false (by have h := c31; simp only [ByteArray.size_append, show (⟨#[10]⟩ : ByteArray).size = 1 from rfl, show (⟨#[47, 42]⟩ : ByteArray).size = 2 from rfl, show (⟨#[42, 47]⟩ : ByteArray).size = 2 from rfl, show (⟨#[47, 47, 32]⟩ : ByteArray).size = 3 from rfl, show (⟨#[10, 42, 47]⟩ : ByteArray).size = 3 from rfl] at h; omega)
                    obtain ⟨y228, hy228⟩ : ∃ y_ : List ByteArray, y_ = (([((⟨#[47, 42]⟩ : ByteArray) ++ x4_1) ++ (⟨#[10, 42, 47]⟩ : ByteArray)] : List ByteArray)) := ⟨_, rfl⟩
                    replace H : ((impl_CommentText.f y228).bind fun t231 => (if t227.toList = t231.toList then ((impl_CommentText.f (([(⟨#[47, 47, 32, 97]⟩ : ByteArray)] : List ByteArray))).bind fun t235 => (some (t235.toList == ([97, 10] : List UInt8)))) else (some false))) = some r := by first | (rw [hy228]; with_reducible exact H) | (have H2_ := (Option.bind_some _ _).symm.trans H; rw [hy228]; with_reducible exact H2_) | (have H2_ := (Option.bind_some _ _).symm.trans H; with_reducible exact H2_) | with_reducible exact H | (rw [hy228]; exact H) | exact H
                    have Ny228 := Aside0.mk hy228
                    clear hy228
                    replace H := Option.bind_eq_some_iff.mp H
                    obtain ⟨t231, A320, H⟩ := H
                    replace H : (if t227.toList = t231.toList then ((impl_CommentText.f (([(⟨#[47, 47, 32, 97]⟩ : ByteArray)] : List ByteArray))).bind fun t235 => (some (t235.toList == ([97, 10] : List UInt8)))) else (some false)) = some r := H
                    have A32 := Aside0.mk A320
                    clear A320
                    by_cases c33 : t227.toList = t231.toList
                    · rw [if_pos c33] at H
                      have c33b0 : (t227.toList == t231.toList) = true := beq_iff_eq.mpr c33
                      have c33b1 : (t227.toList != t231.toList) = false := bne_eq_false_iff_eq.mpr c33
                      clear c33
                      obtain ⟨y232, hy232⟩ : ∃ y_ : List ByteArray, y_ = (([(⟨#[47, 47, 32, 97]⟩ : ByteArray)] : List ByteArray)) := ⟨_, rfl⟩
                      replace H : ((impl_CommentText.f y232).bind fun t235 => (some (t235.toList == ([97, 10] : List UInt8)))) = some r := by first | (rw [hy232]; with_reducible exact H) | (have H2_ := (Option.bind_some _ _).symm.trans H; rw [hy232]; with_reducible exact H2_) | (have H2_ := (Option.bind_some _ _).symm.trans H; with_reducible exact H2_) | with_reducible exact H | (rw [hy232]; exact H) | exact H
                      have Ny232 := Aside0.mk hy232
                      clear hy232
                      replace H := Option.bind_eq_some_iff.mp H
                      obtain ⟨t235, A340, H⟩ := H
                      replace H : (some (t235.toList == ([97, 10] : List UInt8))) = some r := H
                      have A34 := Aside0.mk A340
                      clear A340
                      obtain rfl := Option.some.inj H
                      obtain ⟨Ao35, co35, eo35⟩ := Kd.R_slice HO_3.out
                      subst eo35
                      go_wp2_with (first | ((with_reducible refine gate_callee (f := 17) rfl ?_); refine goesL_ (some 52) rfl rfl Try.func17 (by kernel_rfl) rfl #[.slice Ao35 x3_1.length co35] rfl (by (try simp only [List.map_toArray, List.map_cons, List.map_nil]); first | done | rfl | (simp only [List.length_drop, List.length_take]; rfl)) ?_; (with_reducible refine (impl_CommentText.calls _ _ x3_1 t227 _ ?side1 ?side2 A29.out).mono ?_); (case side1 => repeat (first | exact (Kd.R_reads' HO_3.out).2.2 | (with_reducible refine Kd.C_alloc ?_ _) | (with_reducible refine Kd.C_drewN ?_ _) | (with_reducible refine Kd.C_drew ?_))); (case side2 => exact (Kd.R_reads' HO_3.out).2.1); rintro e w36 ⟨rfl, hb⟩; refine ⟨_, rfl, ?_⟩; have n0_ := Aside0.mk (Kd.R_below (by (with_reducible repeat (first | apply Kd.R_alloc | apply Kd.R_drewN | apply Kd.R_drew)); exact HO_3.out) hb); have n1_ := Aside0.mk (below_step (by repeat (first | (with_reducible first | exact HB.out | apply below_alloc | apply pw_below_drewN | apply below_drew1) | exact HB.out)) hb); clear HO_3; clear HB; have HO_3 := n0_; have HB := n1_; clear n0_ n1_; (try clear hb); (try clear hb2); (try clear hk); (try clear hi)) | ((with_reducible refine gate_dst (N := 56) rfl ?_); (try (refine gate_guard (by rfl) ?_; dsimp only)); refine Kd.R_lit Kd.string _ 9 ?hg (N := 56) ?hd (xs := ([((⟨#[47, 42]⟩ : ByteArray) ++ x4_1) ++ (⟨#[10, 42, 47]⟩ : ByteArray)] : List ByteArray)) (inner := [.string (((⟨#[47, 42]⟩ : ByteArray) ++ x4_1) ++ (⟨#[10, 42, 47]⟩ : ByteArray))]) (ok := fun _ => True) (okp := fun _ => True) ?hr ?hp (fun _ hk => hk) trivial (Below.refl _ _) (Nat.le_refl _) (by simp) ?_; (case hd => rfl); (case hg => rfl); (case hr => first | (go_simp; done) | (go_simp; rfl)); (case hp => exact (Reps.one (show Kd.M Kd.string _ _ _ (((⟨#[47, 42]⟩ : ByteArray) ++ x4_1) ++ (⟨#[10, 42, 47]⟩ : ByteArray)) [.string (((⟨#[47, 42]⟩ : ByteArray) ++ x4_1) ++ (⟨#[10, 42, 47]⟩ : ByteArray))] from rfl) (Reps.none _ _))); intro v229 w37 ho38 hb hg_ hnew_; clear hg_ hnew_; (first | rw [← Ny228.out] at ho38 | (simp only [Int.reduceToNat] at ho38; rw [← Ny228.out] at ho38)); have n0_ := Aside0.mk (Kd.R_elder' (by (with_reducible repeat (first | apply Kd.R_alloc | apply Kd.R_drewN | apply Kd.R_drew)); exact HO_3.out) (Kd.R_base ho38) hb); have n1_ := Aside0.mk (Kd.R_lower (Kd.R_new' ho38 (Kd.R_lt (by (with_reducible repeat (first | apply Kd.R_alloc | apply Kd.R_drewN | apply Kd.R_drew)); exact HO_3.out))) (below_size (by repeat (first | (with_reducible first | exact HB.out | apply below_alloc | apply pw_below_drewN | apply below_drew1) | exact HB.out)))); have n2_ := Aside0.mk (below_step (by repeat (first | (with_reducible first | exact HB.out | apply below_alloc | apply pw_below_drewN | apply below_drew1) | exact HB.out)) hb); clear HO_3; clear HB; have HO_3 := n0_; have HO230 := n1_; have HB := n2_; clear n0_ n1_ n2_; clear hb ho38; obtain ⟨Ao39, co39, eo39⟩ := Kd.R_slice HO230.out; subst eo39) | ((with_reducible refine gate_callee (f := 17) rfl ?_); refine goesL_ (some 57) rfl rfl Try.func17 (by kernel_rfl) rfl #[.slice Ao39 y228.length co39] rfl (by (try simp only [List.map_toArray, List.map_cons, List.map_nil]); first | done | rfl | (simp only [List.length_drop, List.length_take]; rfl)) ?_; (with_reducible refine (impl_CommentText.calls _ _ y228 t231 _ ?side1 ?side2 A32.out).mono ?_); (case side1 => repeat (first | exact (Kd.R_reads' HO230.out).2.2 | (with_reducible refine Kd.C_alloc ?_ _) | (with_reducible refine Kd.C_drewN ?_ _) | (with_reducible refine Kd.C_drew ?_))); (case side2 => exact (Kd.R_reads' HO230.out).2.1); rintro e w40 ⟨rfl, hb⟩; refine ⟨_, rfl, ?_⟩; have n0_ := Aside0.mk (Kd.R_below (by (with_reducible repeat (first | apply Kd.R_alloc | apply Kd.R_drewN | apply Kd.R_drew)); exact HO_3.out) hb); have n1_ := Aside0.mk (Kd.R_below (by (with_reducible repeat (first | apply Kd.R_alloc | apply Kd.R_drewN | apply Kd.R_drew)); exact HO230.out) hb); have n2_ := Aside0.mk (below_step (by repeat (first | (with_reducible first | exact HB.out | apply below_alloc | apply pw_below_drewN | apply below_drew1) | exact HB.out)) hb); clear HO_3; clear HO230; clear HB; have HO_3 := n0_; have HO230 := n1_; have HB := n2_; clear n0_ n1_ n2_; (try clear hb); (try clear hb2); (try clear hk); (try clear hi)) | ((with_reducible refine gate_dst (N := 60) rfl ?_); (try (refine gate_guard (by rfl) ?_; dsimp only)); refine Kd.R_lit Kd.string _ 9 ?hg (N := 60) ?hd (xs := ([(⟨#[47, 47, 32, 97]⟩ : ByteArray)] : List ByteArray)) (inner := [.string (⟨#[47, 47, 32, 97]⟩ : ByteArray)]) (ok := fun _ => True) (okp := fun _ => True) ?hr ?hp (fun _ hk => hk) trivial (Below.refl _ _) (Nat.le_refl _) (by simp) ?_; (case hd => rfl); (case hg => rfl); (case hr => first | (go_simp; done) | (go_simp; rfl)); (case hp => exact (Reps.one (show Kd.M Kd.string _ _ _ (⟨#[47, 47, 32, 97]⟩ : ByteArray) [.string (⟨#[47, 47, 32, 97]⟩ : ByteArray)] from rfl) (Reps.none _ _))); intro v233 w41 ho42 hb hg_ hnew_; clear hg_ hnew_; (first | rw [← Ny232.out] at ho42 | (simp only [Int.reduceToNat] at ho42; rw [← Ny232.out] at ho42)); have n0_ := Aside0.mk (Kd.R_elder' (by (with_reducible repeat (first | apply Kd.R_alloc | apply Kd.R_drewN | apply Kd.R_drew)); exact HO_3.out) (Kd.R_base ho42) hb); have n1_ := Aside0.mk (Kd.R_elder' (by (with_reducible repeat (first | apply Kd.R_alloc | apply Kd.R_drewN | apply Kd.R_drew)); exact HO230.out) (Kd.R_base ho42) hb); have n2_ := Aside0.mk (Kd.R_lower (Kd.R_new' (Kd.R_new' ho42 (Kd.R_lt (by (with_reducible repeat (first | apply Kd.R_alloc | apply Kd.R_drewN | apply Kd.R_drew)); exact HO_3.out))) (Kd.R_lt (by (with_reducible repeat (first | apply Kd.R_alloc | apply Kd.R_drewN | apply Kd.R_drew)); exact HO230.out))) (below_size (by repeat (first | (with_reducible first | exact HB.out | apply below_alloc | apply pw_below_drewN | apply below_drew1) | exact HB.out)))); have n3_ := Aside0.mk (below_step (by repeat (first | (with_reducible first | exact HB.out | apply below_alloc | apply pw_below_drewN | apply below_drew1) | exact HB.out)) hb); clear HO_3; clear HO230; clear HB; have HO_3 := n0_; have HO230 := n1_; have HO234 := n2_; have HB := n3_; clear n0_ n1_ n2_ n3_; clear hb ho42; obtain ⟨Ao43, co43, eo43⟩ := Kd.R_slice HO234.out; subst eo43) | (go_at_call 17; (with_reducible refine (impl_CommentText.calls _ _ y232 t235 _ ?side1 ?side2 A34.out).mono ?_); (case side1 => repeat (first | exact (Kd.R_reads' HO234.out).2.2 | (with_reducible refine Kd.C_alloc ?_ _) | (with_reducible refine Kd.C_drewN ?_ _) | (with_reducible refine Kd.C_drew ?_))); (case side2 => exact (Kd.R_reads' HO234.out).2.1); rintro e w44 ⟨rfl, hb⟩; have n0_ := Aside0.mk (Kd.R_below (by (with_reducible repeat (first | apply Kd.R_alloc | apply Kd.R_drewN | apply Kd.R_drew)); exact HO_3.out) hb); have n1_ := Aside0.mk (Kd.R_below (by (with_reducible repeat (first | apply Kd.R_alloc | apply Kd.R_drewN | apply Kd.R_drew)); exact HO230.out) hb); have n2_ := Aside0.mk (Kd.R_below (by (with_reducible repeat (first | apply Kd.R_alloc | apply Kd.R_drewN | apply Kd.R_drew)); exact HO234.out) hb); have n3_ := Aside0.mk (below_step (by repeat (first | (with_reducible first | exact HB.out | apply below_alloc | apply pw_below_drewN | apply below_drew1) | exact HB.out)) hb); clear HO_3; clear HO230; clear HO234; clear HB; have HO_3 := n0_; have HO230 := n1_; have HO234 := n2_; have HB := n3_; clear n0_ n1_ n2_ n3_; (try clear hb); (try clear hb2); (try clear hk); (try clear hi)))
                      go_ret
                      exact ⟨by first | rfl | (simp [errW_none, errW_some] <;> rfl) | (simp [*, errW_none, errW_some] <;> rfl), by repeat (first | (with_reducible first | exact HB.out | apply below_alloc | apply pw_below_drewN | apply below_drew1) | exact HB.out)⟩
                    · rw [if_neg c33] at H
                      have c33b0 : (t227.toList == t231.toList) = false := beq_eq_false_iff_ne.mpr c33
                      have c33b1 : (t227.toList != t231.toList) = true := bne_iff_ne.mpr c33
                      obtain rfl := Option.some.inj H
                      obtain ⟨Ao45, co45, eo45⟩ := Kd.R_slice HO_3.out
                      subst eo45
                      go_wp2_with (first | ((with_reducible refine gate_callee (f := 17) rfl ?_); refine goesL_ (some 52) rfl rfl Try.func17 (by kernel_rfl) rfl #[.slice Ao45 x3_1.length co45] rfl (by (try simp only [List.map_toArray, List.map_cons, List.map_nil]); first | done | rfl | (simp only [List.length_drop, List.length_take]; rfl)) ?_; (with_reducible refine (impl_CommentText.calls _ _ x3_1 t227 _ ?side1 ?side2 A29.out).mono ?_); (case side1 => repeat (first | exact (Kd.R_reads' HO_3.out).2.2 | (with_reducible refine Kd.C_alloc ?_ _) | (with_reducible refine Kd.C_drewN ?_ _) | (with_reducible refine Kd.C_drew ?_))); (case side2 => exact (Kd.R_reads' HO_3.out).2.1); rintro e w46 ⟨rfl, hb⟩; refine ⟨_, rfl, ?_⟩; have n0_ := Aside0.mk (Kd.R_below (by (with_reducible repeat (first | apply Kd.R_alloc | apply Kd.R_drewN | apply Kd.R_drew)); exact HO_3.out) hb); have n1_ := Aside0.mk (below_step (by repeat (first | (with_reducible first | exact HB.out | apply below_alloc | apply pw_below_drewN | apply below_drew1) | exact HB.out)) hb); clear HO_3; clear HB; have HO_3 := n0_; have HB := n1_; clear n0_ n1_; (try clear hb); (try clear hb2); (try clear hk); (try clear hi)) | ((with_reducible refine gate_dst (N := 56) rfl ?_); (try (refine gate_guard (by rfl) ?_; dsimp only)); refine Kd.R_lit Kd.string _ 9 ?hg (N := 56) ?hd (xs := ([((⟨#[47, 42]⟩ : ByteArray) ++ x4_1) ++ (⟨#[10, 42, 47]⟩ : ByteArray)] : List ByteArray)) (inner := [.string (((⟨#[47, 42]⟩ : ByteArray) ++ x4_1) ++ (⟨#[10, 42, 47]⟩ : ByteArray))]) (ok := fun _ => True) (okp := fun _ => True) ?hr ?hp (fun _ hk => hk) trivial (Below.refl _ _) (Nat.le_refl _) (by simp) ?_; (case hd => rfl); (case hg => rfl); (case hr => first | (go_simp; done) | (go_simp; rfl)); (case hp => exact (Reps.one (show Kd.M Kd.string _ _ _ (((⟨#[47, 42]⟩ : ByteArray) ++ x4_1) ++ (⟨#[10, 42, 47]⟩ : ByteArray)) [.string (((⟨#[47, 42]⟩ : ByteArray) ++ x4_1) ++ (⟨#[10, 42, 47]⟩ : ByteArray))] from rfl) (Reps.none _ _))); intro v229 w47 ho48 hb hg_ hnew_; clear hg_ hnew_; (first | rw [← Ny228.out] at ho48 | (simp only [Int.reduceToNat] at ho48; rw [← Ny228.out] at ho48)); have n0_ := Aside0.mk (Kd.R_elder' (by (with_reducible repeat (first | apply Kd.R_alloc | apply Kd.R_drewN | apply Kd.R_drew)); exact HO_3.out) (Kd.R_base ho48) hb); have n1_ := Aside0.mk (Kd.R_lower (Kd.R_new' ho48 (Kd.R_lt (by (with_reducible repeat (first | apply Kd.R_alloc | apply Kd.R_drewN | apply Kd.R_drew)); exact HO_3.out))) (below_size (by repeat (first | (with_reducible first | exact HB.out | apply below_alloc | apply pw_below_drewN | apply below_drew1) | exact HB.out)))); have n2_ := Aside0.mk (below_step (by repeat (first | (with_reducible first | exact HB.out | apply below_alloc | apply pw_below_drewN | apply below_drew1) | exact HB.out)) hb); clear HO_3; clear HB; have HO_3 := n0_; have HO230 := n1_; have HB := n2_; clear n0_ n1_ n2_; clear hb ho48; obtain ⟨Ao49, co49, eo49⟩ := Kd.R_slice HO230.out; subst eo49) | ((with_reducible refine gate_callee (f := 17) rfl ?_); refine goesL_ (some 57) rfl rfl Try.func17 (by kernel_rfl) rfl #[.slice Ao49 y228.length co49] rfl (by (try simp only [List.map_toArray, List.map_cons, List.map_nil]); first | done | rfl | (simp only [List.length_drop, List.length_take]; rfl)) ?_; (with_reducible refine (impl_CommentText.calls _ _ y228 t231 _ ?side1 ?side2 A32.out).mono ?_); (case side1 => repeat (first | exact (Kd.R_reads' HO230.out).2.2 | (with_reducible refine Kd.C_alloc ?_ _) | (with_reducible refine Kd.C_drewN ?_ _) | (with_reducible refine Kd.C_drew ?_))); (case side2 => exact (Kd.R_reads' HO230.out).2.1); rintro e w50 ⟨rfl, hb⟩; refine ⟨_, rfl, ?_⟩; have n0_ := Aside0.mk (Kd.R_below (by (with_reducible repeat (first | apply Kd.R_alloc | apply Kd.R_drewN | apply Kd.R_drew)); exact HO_3.out) hb); have n1_ := Aside0.mk (Kd.R_below (by (with_reducible repeat (first | apply Kd.R_alloc | apply Kd.R_drewN | apply Kd.R_drew)); exact HO230.out) hb); have n2_ := Aside0.mk (below_step (by repeat (first | (with_reducible first | exact HB.out | apply below_alloc | apply pw_below_drewN | apply below_drew1) | exact HB.out)) hb); clear HO_3; clear HO230; clear HB; have HO_3 := n0_; have HO230 := n1_; have HB := n2_; clear n0_ n1_ n2_; (try clear hb); (try clear hb2); (try clear hk); (try clear hi)))
                      go_ret
                      exact ⟨by first | rfl | (simp [errW_none, errW_some] <;> rfl) | (simp [*, errW_none, errW_some] <;> rfl), by repeat (first | (with_reducible first | exact HB.out | apply below_alloc | apply pw_below_drewN | apply below_drew1) | exact HB.out)⟩
                  · rw [if_neg c31] at H
                    exact absurd H (by simp)
                · rw [if_neg c30] at H
                  exact absurd H (by simp)
  · replace c3 := Bool.eq_false_iff.mpr c3
    subst c3
    have H1 : (some true) = some r := by rw [if_neg (show ¬ (false = true) by decide)] at H; exact H
    clear H
    have H := H1
    clear H1
    obtain rfl := Option.some.inj H
    go_enter Try.func7, Try.ntmps7
    go_wp2_with (first | ((with_reducible refine gate_callee (f := 15) rfl ?_); refine goesL_ (some 8) rfl rfl Try.func15 (by kernel_rfl) rfl #[.slice A0 l0.length c0] rfl (by (try simp only [List.map_toArray, List.map_cons, List.map_nil]); first | done | rfl | (simp only [List.length_drop, List.length_take]; rfl)) ?_; (with_reducible refine (laws_zzFits1.calls k _ _ l0 false _ ?side1 ?side2 A2.out).mono ?_); (case side1 => repeat (first | exact HR0.out | (with_reducible refine Kd.C_alloc ?_ _) | (with_reducible refine Kd.C_drewN ?_ _) | (with_reducible refine Kd.C_drew ?_))); (case side2 => exact HC0.out); rintro e w' ⟨rfl, ⟨nd, rfl⟩⟩; refine ⟨_, rfl, ?_⟩))
    go_ret
    exact ⟨by first | rfl | (simp [errW_none, errW_some] <;> rfl) | (simp [*, errW_none, errW_some] <;> rfl), by repeat (first | (with_reducible first | exact HB.out | apply below_alloc | apply pw_below_drewN | apply below_drew1) | exact HB.out)⟩

/-! ### laws_FnCommentText: function 8 -/
def laws_FnCommentText.f (k : Nat) (l0 : List ByteArray) : Option (Bool) := (laws_zzFits1.f k l0).bind fun t236 => (if t236 = true then ((laws_areComments9.f k l0).bind fun t237 => (if t237 = true then ((impl_CommentText.f l0).bind fun t238 => ((spec_CommentText.f k l0).bind fun t239 => (some (t238.toList == t239.toList)))) else (some true))) else (some true))
theorem laws_FnCommentText.mono : ∀ a0 k, LeO (laws_FnCommentText.f k a0) (laws_FnCommentText.f (k + 1) a0) := by
  intro a0 k
  unfold laws_FnCommentText.f
  repeat' first
      | (with_reducible exact laws_areComments9.mono _ _)
      | (with_reducible exact laws_zzFits1.mono _ _)
      | (with_reducible exact spec_CommentText.mono _ _)
      | (with_reducible exact LeO.refl _)
      | (with_reducible exact LeO.none _)
      | (with_reducible refine LeO.ite ?_ ?_)
      | (with_reducible refine LeO.bind ?_ (fun _ => ?_))
      | exact laws_areComments9.mono _ _
      | exact laws_zzFits1.mono _ _
      | exact spec_CommentText.mono _ _
      | exact LeO.none _
      | refine LeO.ite ?_ ?_
      | refine LeO.bind ?_ (fun _ => ?_)
set_option maxHeartbeats 8000000 in
set_option maxRecDepth 100000 in
theorem laws_FnCommentText.calls (k : Nat) (A0 : Option Addr) (c0 : Nat) (l0 : List ByteArray) (r : Bool) (w : World) (hr0 : Kd.C Kd.string w A0 l0.length l0) (hc0 : l0.length ≤ c0) (h : laws_FnCommentText.f k l0 = some r) :
    Calls Try.prog 8 #[.slice A0 l0.length c0] w fun e w' => e = .returned (.bool r) ∧ Below w.heap.size w w' := by
  have HR0 := Aside0.mk hr0
  have HC0 := Aside0.mk hc0
  clear hr0 hc0
  have HB := Aside0.mk (Below.refl w.heap.size w)
  have H : ((laws_zzFits1.f k l0).bind fun t236 => (if t236 = true then ((laws_areComments9.f k l0).bind fun t237 => (if t237 = true then ((impl_CommentText.f l0).bind fun t238 => ((spec_CommentText.f k l0).bind fun t239 => (some (t238.toList == t239.toList)))) else (some true))) else (some true))) = some r := h
  clear h
  replace H := Option.bind_eq_some_iff.mp H
  obtain ⟨t236, A20, H⟩ := H
  replace H : (if t236 = true then ((laws_areComments9.f k l0).bind fun t237 => (if t237 = true then ((impl_CommentText.f l0).bind fun t238 => ((spec_CommentText.f k l0).bind fun t239 => (some (t238.toList == t239.toList)))) else (some true))) else (some true)) = some r := H
  have A2 := Aside0.mk A20
  clear A20
  by_cases c3 : t236 = true
  · subst c3
    have H1 : ((laws_areComments9.f k l0).bind fun t237 => (if t237 = true then ((impl_CommentText.f l0).bind fun t238 => ((spec_CommentText.f k l0).bind fun t239 => (some (t238.toList == t239.toList)))) else (some true))) = some r := by rw [if_pos rfl] at H; exact H
    clear H
    have H := H1
    clear H1
    replace H := Option.bind_eq_some_iff.mp H
    obtain ⟨t237, A40, H⟩ := H
    replace H : (if t237 = true then ((impl_CommentText.f l0).bind fun t238 => ((spec_CommentText.f k l0).bind fun t239 => (some (t238.toList == t239.toList)))) else (some true)) = some r := H
    have A4 := Aside0.mk A40
    clear A40
    by_cases c5 : t237 = true
    · subst c5
      have H1 : ((impl_CommentText.f l0).bind fun t238 => ((spec_CommentText.f k l0).bind fun t239 => (some (t238.toList == t239.toList)))) = some r := by rw [if_pos rfl] at H; exact H
      clear H
      have H := H1
      clear H1
      replace H := Option.bind_eq_some_iff.mp H
      obtain ⟨t238, A60, H⟩ := H
      replace H : ((spec_CommentText.f k l0).bind fun t239 => (some (t238.toList == t239.toList))) = some r := H
      have A6 := Aside0.mk A60
      clear A60
      replace H := Option.bind_eq_some_iff.mp H
      obtain ⟨t239, A70, H⟩ := H
      replace H : (some (t238.toList == t239.toList)) = some r := H
      have A7 := Aside0.mk A70
      clear A70
      obtain rfl := Option.some.inj H
      go_enter Try.func8, Try.ntmps8
      go_wp2_with (first | ((with_reducible refine gate_callee (f := 15) rfl ?_); refine goesL_ (some 4) rfl rfl Try.func15 (by kernel_rfl) rfl #[.slice A0 l0.length c0] rfl (by (try simp only [List.map_toArray, List.map_cons, List.map_nil]); first | done | rfl | (simp only [List.length_drop, List.length_take]; rfl)) ?_; (with_reducible refine (laws_zzFits1.calls k _ _ l0 true _ ?side1 ?side2 A2.out).mono ?_); (case side1 => repeat (first | exact HR0.out | (with_reducible refine Kd.C_alloc ?_ _) | (with_reducible refine Kd.C_drewN ?_ _) | (with_reducible refine Kd.C_drew ?_))); (case side2 => exact HC0.out); rintro e w' ⟨rfl, ⟨nd, rfl⟩⟩; refine ⟨_, rfl, ?_⟩) | ((with_reducible refine gate_callee (f := 16) rfl ?_); refine goesL_ (some 7) rfl rfl Try.func16 (by kernel_rfl) rfl #[.slice A0 l0.length c0] rfl (by (try simp only [List.map_toArray, List.map_cons, List.map_nil]); first | done | rfl | (simp only [List.length_drop, List.length_take]; rfl)) ?_; (with_reducible refine (laws_areComments9.calls k _ _ l0 true _ ?side1 ?side2 A4.out).mono ?_); (case side1 => repeat (first | exact HR0.out | (with_reducible refine Kd.C_alloc ?_ _) | (with_reducible refine Kd.C_drewN ?_ _) | (with_reducible refine Kd.C_drew ?_))); (case side2 => exact HC0.out); rintro e w8 ⟨rfl, hb⟩; refine ⟨_, rfl, ?_⟩; have n0_ := Aside0.mk (below_step (by repeat (first | (with_reducible first | exact HB.out | apply below_alloc | apply pw_below_drewN | apply below_drew1) | exact HB.out)) hb); clear HB; have HB := n0_; clear n0_; (try clear hb); (try clear hb2); (try clear hk); (try clear hi)) | (go_at_call 17; (with_reducible refine (impl_CommentText.calls _ _ l0 t238 _ ?side1 ?side2 A6.out).mono ?_); (case side1 => repeat (first | exact (Kd.C_below HR0.out HB.out) | (with_reducible refine Kd.C_alloc ?_ _) | (with_reducible refine Kd.C_drewN ?_ _) | (with_reducible refine Kd.C_drew ?_))); (case side2 => exact HC0.out); rintro e w9 ⟨rfl, hb⟩; have n0_ := Aside0.mk (below_step (by repeat (first | (with_reducible first | exact HB.out | apply below_alloc | apply pw_below_drewN | apply below_drew1) | exact HB.out)) hb); clear HB; have HB := n0_; clear n0_; (try clear hb); (try clear hb2); (try clear hk); (try clear hi)) | (go_at_call 18; (with_reducible refine (spec_CommentText.calls k _ _ l0 t239 _ ?side1 ?side2 A7.out).mono ?_); (case side1 => repeat (first | exact (Kd.C_below HR0.out HB.out) | (with_reducible refine Kd.C_alloc ?_ _) | (with_reducible refine Kd.C_drewN ?_ _) | (with_reducible refine Kd.C_drew ?_))); (case side2 => exact HC0.out); rintro e w10 ⟨rfl, hb⟩; have n0_ := Aside0.mk (below_step (by repeat (first | (with_reducible first | exact HB.out | apply below_alloc | apply pw_below_drewN | apply below_drew1) | exact HB.out)) hb); clear HB; have HB := n0_; clear n0_; (try clear hb); (try clear hb2); (try clear hk); (try clear hi)))
      go_ret
      exact ⟨by first | rfl | (simp [errW_none, errW_some] <;> rfl) | (simp [*, errW_none, errW_some] <;> rfl), by repeat (first | (with_reducible first | exact HB.out | apply below_alloc | apply pw_below_drewN | apply below_drew1) | exact HB.out)⟩
    · replace c5 := Bool.eq_false_iff.mpr c5
      subst c5
      have H1 : (some true) = some r := by rw [if_neg (show ¬ (false = true) by decide)] at H; exact H
      clear H
      have H := H1
      clear H1
      obtain rfl := Option.some.inj H
      go_enter Try.func8, Try.ntmps8
      go_wp2_with (first | ((with_reducible refine gate_callee (f := 15) rfl ?_); refine goesL_ (some 4) rfl rfl Try.func15 (by kernel_rfl) rfl #[.slice A0 l0.length c0] rfl (by (try simp only [List.map_toArray, List.map_cons, List.map_nil]); first | done | rfl | (simp only [List.length_drop, List.length_take]; rfl)) ?_; (with_reducible refine (laws_zzFits1.calls k _ _ l0 true _ ?side1 ?side2 A2.out).mono ?_); (case side1 => repeat (first | exact HR0.out | (with_reducible refine Kd.C_alloc ?_ _) | (with_reducible refine Kd.C_drewN ?_ _) | (with_reducible refine Kd.C_drew ?_))); (case side2 => exact HC0.out); rintro e w' ⟨rfl, ⟨nd, rfl⟩⟩; refine ⟨_, rfl, ?_⟩) | ((with_reducible refine gate_callee (f := 16) rfl ?_); refine goesL_ (some 7) rfl rfl Try.func16 (by kernel_rfl) rfl #[.slice A0 l0.length c0] rfl (by (try simp only [List.map_toArray, List.map_cons, List.map_nil]); first | done | rfl | (simp only [List.length_drop, List.length_take]; rfl)) ?_; (with_reducible refine (laws_areComments9.calls k _ _ l0 false _ ?side1 ?side2 A4.out).mono ?_); (case side1 => repeat (first | exact HR0.out | (with_reducible refine Kd.C_alloc ?_ _) | (with_reducible refine Kd.C_drewN ?_ _) | (with_reducible refine Kd.C_drew ?_))); (case side2 => exact HC0.out); rintro e w11 ⟨rfl, hb⟩; refine ⟨_, rfl, ?_⟩; have n0_ := Aside0.mk (below_step (by repeat (first | (with_reducible first | exact HB.out | apply below_alloc | apply pw_below_drewN | apply below_drew1) | exact HB.out)) hb); clear HB; have HB := n0_; clear n0_; (try clear hb); (try clear hb2); (try clear hk); (try clear hi)))
      go_ret
      exact ⟨by first | rfl | (simp [errW_none, errW_some] <;> rfl) | (simp [*, errW_none, errW_some] <;> rfl), by repeat (first | (with_reducible first | exact HB.out | apply below_alloc | apply pw_below_drewN | apply below_drew1) | exact HB.out)⟩
  · replace c3 := Bool.eq_false_iff.mpr c3
    subst c3
    have H1 : (some true) = some r := by rw [if_neg (show ¬ (false = true) by decide)] at H; exact H
    clear H
    have H := H1
    clear H1
    obtain rfl := Option.some.inj H
    go_enter Try.func8, Try.ntmps8
    go_wp2_with (first | ((with_reducible refine gate_callee (f := 15) rfl ?_); refine goesL_ (some 4) rfl rfl Try.func15 (by kernel_rfl) rfl #[.slice A0 l0.length c0] rfl (by (try simp only [List.map_toArray, List.map_cons, List.map_nil]); first | done | rfl | (simp only [List.length_drop, List.length_take]; rfl)) ?_; (with_reducible refine (laws_zzFits1.calls k _ _ l0 false _ ?side1 ?side2 A2.out).mono ?_); (case side1 => repeat (first | exact HR0.out | (with_reducible refine Kd.C_alloc ?_ _) | (with_reducible refine Kd.C_drewN ?_ _) | (with_reducible refine Kd.C_drew ?_))); (case side2 => exact HC0.out); rintro e w' ⟨rfl, ⟨nd, rfl⟩⟩; refine ⟨_, rfl, ?_⟩))
    go_ret
    exact ⟨by first | rfl | (simp [errW_none, errW_some] <;> rfl) | (simp [*, errW_none, errW_some] <;> rfl), by repeat (first | (with_reducible first | exact HB.out | apply below_alloc | apply pw_below_drewN | apply below_drew1) | exact HB.out)⟩

end Go.Proofs.Yteaelkeiocogfaa.A
