-- Written by programs of these sessions (gprint.py over an edited print, then mklaws.py) out of the kit's print of the translation. Not trusted: Lean checks it.
import Derived.Test.YtcjiafjahfmdoaaFmtA23
import Derived.Test.YtcjiafjahfmdoaaFmtA1
import Derived.Test.YtcjiafjahfmdoaaFmtA17
import Derived.Test.YtcjiafjahfmdoaaFmtA20
namespace Go.Proofs.YtcjiafjahfmdoaaFmt.A
open Go.RowKit Go.Stop Go.Proofs.YtcjiafjahfmdoaaFmtW.PrintWords Go.Proofs.YtcjiafjahfmdoaaFmtW.PrintLast Go.Proofs.YtcjiafjahfmdoaaFmtW.PrintMore
attribute [local go_sem] max2_int min2_int max_two min_two max_three min_three max_four min_four   -- for this text's walks alone
set_option linter.unusedVariables false
set_option linter.unusedSimpArgs false

/-! ### laws_FnArgsQuoted: function 4 -/
mutual
noncomputable def laws_FnArgsQuoted.l0 : Nat → List ByteArray → Bool → ByteArray → List ByteArray → Int → Int → Option (Bool)
  | 0, _, _, _, _, _, _ => none
  | k + 1, x0, x1, x5, x15, x16, x17 => if x17 < x16 then (if 0 ≤ x17 then (if x17 < (x15.length : Int) then (if ((rdOf ByteArray.empty x15 x17).size : Int) > 1000 then (laws_FnArgsQuoted.j1 k x0 x1 x5 (rdOf ByteArray.empty x15 x17) x15 x16 x17 true) else ((spec_IsLine.f k (rdOf ByteArray.empty x15 x17)).bind fun t178 => (if t178 = true then (if x1 = true then ((spec_HasByte.f k (rdOf ByteArray.empty x15 x17) 96).bind fun t179 => (laws_FnArgsQuoted.j1 k x0 x1 x5 (rdOf ByteArray.empty x15 x17) x15 x16 x17 t179)) else (laws_FnArgsQuoted.j1 k x0 x1 x5 (rdOf ByteArray.empty x15 x17) x15 x16 x17 false)) else (laws_FnArgsQuoted.j1 k x0 x1 x5 (rdOf ByteArray.empty x15 x17) x15 x16 x17 true)))) else (none)) else (none)) else (if (x0.length : Int) > 50 then (some true) else ((impl_ParseArgs.f k x5 1).bind fun bt181 => (if bt181.2 = true then (laws_FnArgsQuoted.j2 k x0 bt181.1 ((bt181.1.length : Int) != (x0.length : Int))) else (laws_FnArgsQuoted.j2 k x0 bt181.1 true))))
noncomputable def laws_FnArgsQuoted.j1 : Nat → List ByteArray → Bool → ByteArray → ByteArray → List ByteArray → Int → Int → Bool → Option (Bool)
  | 0, _, _, _, _, _, _, _, _ => none
  | k + 1, x0, x1, x5, x7, x15, x16, x17, x35 => if x35 = true then (some true) else (if x1 = true then (if 2 + x7.size ≤ 9223372036854775807 then (if ((⟨#[32, 96]⟩ : ByteArray) ++ x7).size + 1 ≤ 9223372036854775807 then (if x5.size + (((⟨#[32, 96]⟩ : ByteArray) ++ x7) ++ (⟨#[96]⟩ : ByteArray)).size ≤ 9223372036854775807 then (laws_FnArgsQuoted.l0 k x0 x1 (x5 ++ (((⟨#[32, 96]⟩ : ByteArray) ++ x7) ++ (⟨#[96]⟩ : ByteArray))) x15 x16 (wrap64 (x17 + 1))) else (none)) else (none)) else (none)) else ((laws_quoted9.f k x7).bind fun t180 => (if 1 + t180.size ≤ 9223372036854775807 then (if x5.size + ((⟨#[32]⟩ : ByteArray) ++ t180).size ≤ 9223372036854775807 then (laws_FnArgsQuoted.l0 k x0 x1 (x5 ++ ((⟨#[32]⟩ : ByteArray) ++ t180)) x15 x16 (wrap64 (x17 + 1))) else (none)) else (none))))
noncomputable def laws_FnArgsQuoted.j2 : Nat → List ByteArray → List (S28) → Bool → Option (Bool)
  | 0, _, _, _ => none
  | k + 1, x0, x8, x64 => if x64 = true then (some false) else (laws_FnArgsQuoted.l1 k x0 x8 (x8.length : Int) 0)
noncomputable def laws_FnArgsQuoted.l1 : Nat → List ByteArray → List (S28) → Int → Int → Option (Bool)
  | 0, _, _, _, _ => none
  | k + 1, x0, x65, x66, x67 => if x67 < x66 then (if 0 ≤ x67 then (if x67 < (x65.length : Int) then (if x67 < (x0.length : Int) then (if ((rd_T28 x65 x67).f0).toList = (rdOf ByteArray.empty x0 x67).toList then (laws_FnArgsQuoted.l1 k x0 x65 x66 (wrap64 (x67 + 1))) else (some false)) else (none)) else (none)) else (none)) else (some true)
end
noncomputable def laws_FnArgsQuoted.f (k : Nat) (l0 : List ByteArray) (a1 : Bool) : Option (Bool) := (laws_zzFits1.f k l0).bind fun t176 => (if t176 = true then (laws_FnArgsQuoted.l0 k l0 a1 (⟨#[]⟩ : ByteArray) l0 (l0.length : Int) 0) else (some true))
theorem laws_FnArgsQuoted.mono_l : ∀ k, (∀ y0 y1 y2 y3 y4 y5, LeO (laws_FnArgsQuoted.l0 k y0 y1 y2 y3 y4 y5) (laws_FnArgsQuoted.l0 (k + 1) y0 y1 y2 y3 y4 y5)) ∧ (∀ y0 y1 y2 y3 y4 y5 y6 y7, LeO (laws_FnArgsQuoted.j1 k y0 y1 y2 y3 y4 y5 y6 y7) (laws_FnArgsQuoted.j1 (k + 1) y0 y1 y2 y3 y4 y5 y6 y7)) ∧ (∀ y0 y1 y2, LeO (laws_FnArgsQuoted.j2 k y0 y1 y2) (laws_FnArgsQuoted.j2 (k + 1) y0 y1 y2)) ∧ (∀ y0 y1 y2 y3, LeO (laws_FnArgsQuoted.l1 k y0 y1 y2 y3) (laws_FnArgsQuoted.l1 (k + 1) y0 y1 y2 y3))
  | 0 => ⟨fun _ _ _ _ _ _ r h => by simp [laws_FnArgsQuoted.l0] at h, fun _ _ _ _ _ _ _ _ r h => by simp [laws_FnArgsQuoted.j1] at h, fun _ _ _ r h => by simp [laws_FnArgsQuoted.j2] at h, fun _ _ _ _ r h => by simp [laws_FnArgsQuoted.l1] at h⟩
  | k + 1 => by
    obtain ⟨ih0, ih1, ih2, ih3⟩ := laws_FnArgsQuoted.mono_l k
    refine ⟨?_, ?_, ?_, ?_⟩
    · intro y0 y1 y2 y3 y4 y5
      unfold laws_FnArgsQuoted.l0
      repeat' first
      | (with_reducible exact ih0 _ _ _ _ _ _)
      | (with_reducible exact ih1 _ _ _ _ _ _ _ _)
      | (with_reducible exact ih2 _ _ _)
      | (with_reducible exact ih3 _ _ _ _)
      | (with_reducible exact impl_ParseArgs.mono _ _ _)
      | (with_reducible exact laws_quoted9.mono _ _)
      | (with_reducible exact laws_zzFits1.mono _ _)
      | (with_reducible exact spec_HasByte.mono _ _ _)
      | (with_reducible exact spec_IsLine.mono _ _)
      | (with_reducible exact LeO.refl _)
      | (with_reducible exact LeO.none _)
      | (with_reducible refine LeO.ite ?_ ?_)
      | (with_reducible refine LeO.bind ?_ (fun _ => ?_))
      | exact ih0 _ _ _ _ _ _
      | exact ih1 _ _ _ _ _ _ _ _
      | exact ih2 _ _ _
      | exact ih3 _ _ _ _
      | exact impl_ParseArgs.mono _ _ _
      | exact laws_quoted9.mono _ _
      | exact laws_zzFits1.mono _ _
      | exact spec_HasByte.mono _ _ _
      | exact spec_IsLine.mono _ _
      | exact LeO.none _
      | refine LeO.ite ?_ ?_
      | refine LeO.bind ?_ (fun _ => ?_)
    · intro y0 y1 y2 y3 y4 y5 y6 y7
      unfold laws_FnArgsQuoted.j1
      repeat' first
      | (with_reducible exact ih0 _ _ _ _ _ _)
      | (with_reducible exact ih1 _ _ _ _ _ _ _ _)
      | (with_reducible exact ih2 _ _ _)
      | (with_reducible exact ih3 _ _ _ _)
      | (with_reducible exact impl_ParseArgs.mono _ _ _)
      | (with_reducible exact laws_quoted9.mono _ _)
      | (with_reducible exact laws_zzFits1.mono _ _)
      | (with_reducible exact spec_HasByte.mono _ _ _)
      | (with_reducible exact spec_IsLine.mono _ _)
      | (with_reducible exact LeO.refl _)
      | (with_reducible exact LeO.none _)
      | (with_reducible refine LeO.ite ?_ ?_)
      | (with_reducible refine LeO.bind ?_ (fun _ => ?_))
      | exact ih0 _ _ _ _ _ _
      | exact ih1 _ _ _ _ _ _ _ _
      | exact ih2 _ _ _
      | exact ih3 _ _ _ _
      | exact impl_ParseArgs.mono _ _ _
      | exact laws_quoted9.mono _ _
      | exact laws_zzFits1.mono _ _
      | exact spec_HasByte.mono _ _ _
      | exact spec_IsLine.mono _ _
      | exact LeO.none _
      | refine LeO.ite ?_ ?_
      | refine LeO.bind ?_ (fun _ => ?_)
    · intro y0 y1 y2
      unfold laws_FnArgsQuoted.j2
      repeat' first
      | (with_reducible exact ih0 _ _ _ _ _ _)
      | (with_reducible exact ih1 _ _ _ _ _ _ _ _)
      | (with_reducible exact ih2 _ _ _)
      | (with_reducible exact ih3 _ _ _ _)
      | (with_reducible exact impl_ParseArgs.mono _ _ _)
      | (with_reducible exact laws_quoted9.mono _ _)
      | (with_reducible exact laws_zzFits1.mono _ _)
      | (with_reducible exact spec_HasByte.mono _ _ _)
      | (with_reducible exact spec_IsLine.mono _ _)
      | (with_reducible exact LeO.refl _)
      | (with_reducible exact LeO.none _)
      | (with_reducible refine LeO.ite ?_ ?_)
      | (with_reducible refine LeO.bind ?_ (fun _ => ?_))
      | exact ih0 _ _ _ _ _ _
      | exact ih1 _ _ _ _ _ _ _ _
      | exact ih2 _ _ _
      | exact ih3 _ _ _ _
      | exact impl_ParseArgs.mono _ _ _
      | exact laws_quoted9.mono _ _
      | exact laws_zzFits1.mono _ _
      | exact spec_HasByte.mono _ _ _
      | exact spec_IsLine.mono _ _
      | exact LeO.none _
      | refine LeO.ite ?_ ?_
      | refine LeO.bind ?_ (fun _ => ?_)
    · intro y0 y1 y2 y3
      unfold laws_FnArgsQuoted.l1
      repeat' first
      | (with_reducible exact ih0 _ _ _ _ _ _)
      | (with_reducible exact ih1 _ _ _ _ _ _ _ _)
      | (with_reducible exact ih2 _ _ _)
      | (with_reducible exact ih3 _ _ _ _)
      | (with_reducible exact impl_ParseArgs.mono _ _ _)
      | (with_reducible exact laws_quoted9.mono _ _)
      | (with_reducible exact laws_zzFits1.mono _ _)
      | (with_reducible exact spec_HasByte.mono _ _ _)
      | (with_reducible exact spec_IsLine.mono _ _)
      | (with_reducible exact LeO.refl _)
      | (with_reducible exact LeO.none _)
      | (with_reducible refine LeO.ite ?_ ?_)
      | (with_reducible refine LeO.bind ?_ (fun _ => ?_))
      | exact ih0 _ _ _ _ _ _
      | exact ih1 _ _ _ _ _ _ _ _
      | exact ih2 _ _ _
      | exact ih3 _ _ _ _
      | exact impl_ParseArgs.mono _ _ _
      | exact laws_quoted9.mono _ _
      | exact laws_zzFits1.mono _ _
      | exact spec_HasByte.mono _ _ _
      | exact spec_IsLine.mono _ _
      | exact LeO.none _
      | refine LeO.ite ?_ ?_
      | refine LeO.bind ?_ (fun _ => ?_)
theorem laws_FnArgsQuoted.mono : ∀ a0 a1 k, LeO (laws_FnArgsQuoted.f k a0 a1) (laws_FnArgsQuoted.f (k + 1) a0 a1) := by
  intro a0 a1 k
  obtain ⟨ih0, ih1, ih2, ih3⟩ := laws_FnArgsQuoted.mono_l k
  unfold laws_FnArgsQuoted.f
  repeat' first
      | (with_reducible exact ih0 _ _ _ _ _ _)
      | (with_reducible exact ih1 _ _ _ _ _ _ _ _)
      | (with_reducible exact ih2 _ _ _)
      | (with_reducible exact ih3 _ _ _ _)
      | (with_reducible exact impl_ParseArgs.mono _ _ _)
      | (with_reducible exact laws_quoted9.mono _ _)
      | (with_reducible exact laws_zzFits1.mono _ _)
      | (with_reducible exact spec_HasByte.mono _ _ _)
      | (with_reducible exact spec_IsLine.mono _ _)
      | (with_reducible exact LeO.refl _)
      | (with_reducible exact LeO.none _)
      | (with_reducible refine LeO.ite ?_ ?_)
      | (with_reducible refine LeO.bind ?_ (fun _ => ?_))
      | exact ih0 _ _ _ _ _ _
      | exact ih1 _ _ _ _ _ _ _ _
      | exact ih2 _ _ _
      | exact ih3 _ _ _ _
      | exact impl_ParseArgs.mono _ _ _
      | exact laws_quoted9.mono _ _
      | exact laws_zzFits1.mono _ _
      | exact spec_HasByte.mono _ _ _
      | exact spec_IsLine.mono _ _
      | exact LeO.none _
      | refine LeO.ite ?_ ?_
      | refine LeO.bind ?_ (fun _ => ?_)
set_option maxHeartbeats 8000000 in
set_option maxRecDepth 100000 in
theorem laws_FnArgsQuoted.calls (F : Interp) (k : Nat) (A0 : Option Addr) (c0 : Nat) (l0 : List ByteArray) (a1 : Bool) (r : Bool) (w : World) (hT : Tabs w) (hF : F.told.answers w.tape) (hr0 : Kd.C Kd.string w A0 l0.length l0) (hc0 : l0.length ≤ c0) (h : laws_FnArgsQuoted.f k l0 a1 = some r) :
    Calls Tryf.prog 4 #[.slice A0 l0.length c0, .bool a1] w fun e w' => e = .returned (.bool r) ∧ Below w.heap.size w w' := by
  have hu28 := Tryf.underlying28
  have HR0 := Aside0.mk hr0
  have HC0 := Aside0.mk hc0
  clear hr0 hc0
  have HB := Aside0.mk (Below.refl w.heap.size w)
  have HT := Aside0.mk hT
  have HF := Aside0.mk hF
  clear hT hF
  have H : ((laws_zzFits1.f k l0).bind fun t176 => (if t176 = true then (laws_FnArgsQuoted.l0 k l0 a1 (⟨#[]⟩ : ByteArray) l0 (l0.length : Int) 0) else (some true))) = some r := h
  clear h
  replace H := Option.bind_eq_some_iff.mp H
  obtain ⟨t176, A30, H⟩ := H
  replace H : (if t176 = true then (laws_FnArgsQuoted.l0 k l0 a1 (⟨#[]⟩ : ByteArray) l0 (l0.length : Int) 0) else (some true)) = some r := H
  have A3 := Aside0.mk A30
  clear A30
  by_cases c4 : t176 = true
  · subst c4
    have H1 : (laws_FnArgsQuoted.l0 k l0 a1 (⟨#[]⟩ : ByteArray) l0 (l0.length : Int) 0) = some r := by rw [if_pos rfl] at H; exact H
    clear H
    have H := H1
    clear H1
    have H' := Aside0.mk H
    clear H
    go_enter Tryf.func4, Tryf.ntmps4
    go_wp2_with (first | (go_at_call 7; (with_reducible refine (laws_zzFits1.calls k _ _ l0 true _ ?side1 ?side2 A3.out).mono ?_); (case side1 => repeat (first | exact HR0.out | (with_reducible refine Kd.C_alloc ?_ _) | (with_reducible refine Kd.C_drewN ?_ _) | (with_reducible refine Kd.C_drew ?_))); (case side2 => exact HC0.out); rintro e w' ⟨rfl, ⟨nd, rfl⟩⟩; (try first | exact ⟨rfl, _, World.drewN_drewN _ _ _⟩ | exact ⟨rfl, _, Eq.trans (World.drewN_drewN _ _ _) (congrArg (World.drewN _) (Nat.add_assoc _ _ _))⟩)))
    repeat (go_quiet (first | (go_at_call 7; (with_reducible refine (laws_zzFits1.calls k _ _ l0 true _ ?side1 ?side2 A3.out).mono ?_); (case side1 => repeat (first | exact HR0.out | (with_reducible refine Kd.C_alloc ?_ _) | (with_reducible refine Kd.C_drewN ?_ _) | (with_reducible refine Kd.C_drew ?_))); (case side2 => exact HC0.out); rintro e w' ⟨rfl, ⟨nd, rfl⟩⟩; (try first | exact ⟨rfl, _, World.drewN_drewN _ _ _⟩ | exact ⟨rfl, _, Eq.trans (World.drewN_drewN _ _ _) (congrArg (World.drewN _) (Nat.add_assoc _ _ _))⟩))); try go_wp2_with (first | (go_at_call 7; (with_reducible refine (laws_zzFits1.calls k _ _ l0 true _ ?side1 ?side2 A3.out).mono ?_); (case side1 => repeat (first | exact HR0.out | (with_reducible refine Kd.C_alloc ?_ _) | (with_reducible refine Kd.C_drewN ?_ _) | (with_reducible refine Kd.C_drew ?_))); (case side2 => exact HC0.out); rintro e w' ⟨rfl, ⟨nd, rfl⟩⟩; (try first | exact ⟨rfl, _, World.drewN_drewN _ _ _⟩ | exact ⟨rfl, _, Eq.trans (World.drewN_drewN _ _ _) (congrArg (World.drewN _) (Nat.add_assoc _ _ _))⟩))))
    go_loopg [5, 17] k (fun kq v5 v17 w' => ∃ (x5_1 : ByteArray) (x17_1 : Int), v5 = .string x5_1 ∧ v17 = .int .i64 x17_1 ∧ Aside0 (laws_FnArgsQuoted.l0 kq l0 a1 x5_1 l0 (l0.length : Int) x17_1 = some r) ∧ Aside0 (kq ≤ k) ∧ Aside0 (Below w.heap.size w w'))
    case atStart => exact ⟨((⟨#[]⟩ : ByteArray)), (0), (by first | rfl | (simp; done) | (simp [*]; done)), (by first | rfl | (simp; done) | (simp [*]; done)), H', ⟨Nat.le_refl _⟩, ⟨by repeat (first | (with_reducible first | exact HB.out | apply below_alloc | apply pw_below_drewN | apply below_drew1) | exact HB.out)⟩⟩
    case round =>
      clear H'
      try clear p2
      try clear c4
      obtain ⟨x5_1, x17_1, rfl, rfl, HA, HK1, HB⟩ := hrel
      cases gk with
      | zero => exact absurd HA.out (by simp [laws_FnArgsQuoted.l0])
      | succ k1 =>
        have H := HA.out
        clear HA
        simp only [laws_FnArgsQuoted.l0] at H
        by_cases c5 : x17_1 < (l0.length : Int)
        · rw [if_pos c5] at H
          have c5b0 : decide (x17_1 < (l0.length : Int)) = true := decide_eq_true c5
          clear c5
          by_cases c6 : 0 ≤ x17_1
          · rw [if_pos c6] at H
            have c6b0 : decide (0 ≤ x17_1) = true := decide_eq_true c6
            clear c6
            by_cases c7 : x17_1 < (l0.length : Int)
            · rw [if_pos c7] at H
              have c7b0 : decide (x17_1 < (l0.length : Int)) = true := decide_eq_true c7
              clear c7
              have HC8 := Aside0.mk H
              clear H
              have p177 : 0 ≤ (x17_1 : Int) := of_decide_eq_true (by first | (with_reducible assumption) | assumption)
              have q177 : x17_1 < (l0.length : Int) := of_decide_eq_true (by first | (with_reducible assumption) | assumption)
              obtain ⟨ad177, e177, hx177_0⟩ := Kd.at_string HR0.out x17_1 p177 q177
              cases e177
              replace hx177_0 := (HB.out.cell (World.block_lt_of_cell? w _ hx177_0)).trans hx177_0
              replace p177 := eq_true p177
              replace q177 := eq_true q177
              go_upto_region 7 with (fail)
              repeat (go_quiet (fail); go_upto_region 7 with (fail))
              go_cut [35] (fun v35 wc => ∃ (kq : Nat) (x35_7 : Bool), v35 = .bool x35_7 ∧ Aside0 (laws_FnArgsQuoted.j1 kq l0 a1 x5_1 (rdOf ByteArray.empty l0 x17_1) l0 (l0.length : Int) x17_1 x35_7 = some r) ∧ Aside0 (kq ≤ k1) ∧ Aside0 (Below w.heap.size w wc))
              case first =>
                have H := HC8.out
                clear HC8
                by_cases c9 : ((rdOf ByteArray.empty l0 x17_1).size : Int) > 1000
                · rw [if_pos c9] at H
                  have c9b0 : decide (1000 < ((rdOf ByteArray.empty l0 x17_1).size : Int)) = true := decide_eq_true c9
                  have c9b1 : decide (1000 < (rdOf ByteArray.empty l0 x17_1).size) = true := decide_eq_true (by omega)
                  clear c9
                  (first | rw [c9b0] | (simp only [i64_w, i32_w]; rw [c9b0]) | skip)
                  have H' := Aside0.mk H
                  clear H
                  go_wp2
                  repeat (go_quiet (fail); try go_wp2)
                  go_meet
                  case rel => exact ⟨_, (true), (by first | rfl | (simp; done) | (simp [*]; done)), H', ⟨by have := HK1.out; first | omega | exact Nat.le_refl _⟩, ⟨by repeat (first | (with_reducible first | exact HB.out | apply below_alloc | apply pw_below_drewN | apply below_drew1) | exact HB.out)⟩⟩
                · rw [if_neg c9] at H
                  have c9b0 : decide (1000 < ((rdOf ByteArray.empty l0 x17_1).size : Int)) = false := decide_eq_false c9
                  have c9b1 : decide (1000 < (rdOf ByteArray.empty l0 x17_1).size) = false := decide_eq_false (by omega)
                  clear c9
                  (first | rw [c9b0] | (simp only [i64_w, i32_w]; rw [c9b0]) | skip)
                  replace H := Option.bind_eq_some_iff.mp H
                  obtain ⟨t178, A100, H⟩ := H
                  replace H : (if t178 = true then (if a1 = true then ((spec_HasByte.f k1 (rdOf ByteArray.empty l0 x17_1) 96).bind fun t179 => (laws_FnArgsQuoted.j1 k1 l0 a1 x5_1 (rdOf ByteArray.empty l0 x17_1) l0 (l0.length : Int) x17_1 t179)) else (laws_FnArgsQuoted.j1 k1 l0 a1 x5_1 (rdOf ByteArray.empty l0 x17_1) l0 (l0.length : Int) x17_1 false)) else (laws_FnArgsQuoted.j1 k1 l0 a1 x5_1 (rdOf ByteArray.empty l0 x17_1) l0 (l0.length : Int) x17_1 true)) = some r := H
                  have A10 := Aside0.mk A100
                  clear A100
                  by_cases c11 : t178 = true
                  · subst c11
                    have H1 : (if a1 = true then ((spec_HasByte.f k1 (rdOf ByteArray.empty l0 x17_1) 96).bind fun t179 => (laws_FnArgsQuoted.j1 k1 l0 a1 x5_1 (rdOf ByteArray.empty l0 x17_1) l0 (l0.length : Int) x17_1 t179)) else (laws_FnArgsQuoted.j1 k1 l0 a1 x5_1 (rdOf ByteArray.empty l0 x17_1) l0 (l0.length : Int) x17_1 false)) = some r := by rw [if_pos rfl] at H; exact H
                    clear H
                    have H := H1
                    clear H1
                    by_cases c12 : a1 = true
                    · subst c12
                      have H1 : ((spec_HasByte.f k1 (rdOf ByteArray.empty l0 x17_1) 96).bind fun t179 => (laws_FnArgsQuoted.j1 k1 l0 true x5_1 (rdOf ByteArray.empty l0 x17_1) l0 (l0.length : Int) x17_1 t179)) = some r := by rw [if_pos rfl] at H; exact H
                      clear H
                      have H := H1
                      clear H1
                      replace H := Option.bind_eq_some_iff.mp H
                      obtain ⟨t179, A130, H⟩ := H
                      replace H : (laws_FnArgsQuoted.j1 k1 l0 true x5_1 (rdOf ByteArray.empty l0 x17_1) l0 (l0.length : Int) x17_1 t179) = some r := H
                      have A13 := Aside0.mk A130
                      clear A130
                      have H' := Aside0.mk H
                      clear H
                      go_wp2_with (first | (go_at_call 8; (with_reducible refine (spec_IsLine.calls k1 (rdOf ByteArray.empty l0 x17_1) true _ A10.out).mono ?_); rintro e w' ⟨rfl, ⟨nd, rfl⟩⟩; (try first | exact ⟨rfl, _, World.drewN_drewN _ _ _⟩ | exact ⟨rfl, _, Eq.trans (World.drewN_drewN _ _ _) (congrArg (World.drewN _) (Nat.add_assoc _ _ _))⟩)) | (go_at_call 9; (with_reducible refine (spec_HasByte.calls k1 (rdOf ByteArray.empty l0 x17_1) 96 t179 _ A13.out).mono ?_); rintro e w' ⟨rfl, ⟨nd, rfl⟩⟩; (try first | exact ⟨rfl, _, World.drewN_drewN _ _ _⟩ | exact ⟨rfl, _, Eq.trans (World.drewN_drewN _ _ _) (congrArg (World.drewN _) (Nat.add_assoc _ _ _))⟩)))
                      repeat (go_quiet (first | (go_at_call 8; (with_reducible refine (spec_IsLine.calls k1 (rdOf ByteArray.empty l0 x17_1) true _ A10.out).mono ?_); rintro e w' ⟨rfl, ⟨nd, rfl⟩⟩; (try first | exact ⟨rfl, _, World.drewN_drewN _ _ _⟩ | exact ⟨rfl, _, Eq.trans (World.drewN_drewN _ _ _) (congrArg (World.drewN _) (Nat.add_assoc _ _ _))⟩)) | (go_at_call 9; (with_reducible refine (spec_HasByte.calls k1 (rdOf ByteArray.empty l0 x17_1) 96 t179 _ A13.out).mono ?_); rintro e w' ⟨rfl, ⟨nd, rfl⟩⟩; (try first | exact ⟨rfl, _, World.drewN_drewN _ _ _⟩ | exact ⟨rfl, _, Eq.trans (World.drewN_drewN _ _ _) (congrArg (World.drewN _) (Nat.add_assoc _ _ _))⟩))); try go_wp2_with (first | (go_at_call 8; (with_reducible refine (spec_IsLine.calls k1 (rdOf ByteArray.empty l0 x17_1) true _ A10.out).mono ?_); rintro e w' ⟨rfl, ⟨nd, rfl⟩⟩; (try first | exact ⟨rfl, _, World.drewN_drewN _ _ _⟩ | exact ⟨rfl, _, Eq.trans (World.drewN_drewN _ _ _) (congrArg (World.drewN _) (Nat.add_assoc _ _ _))⟩)) | (go_at_call 9; (with_reducible refine (spec_HasByte.calls k1 (rdOf ByteArray.empty l0 x17_1) 96 t179 _ A13.out).mono ?_); rintro e w' ⟨rfl, ⟨nd, rfl⟩⟩; (try first | exact ⟨rfl, _, World.drewN_drewN _ _ _⟩ | exact ⟨rfl, _, Eq.trans (World.drewN_drewN _ _ _) (congrArg (World.drewN _) (Nat.add_assoc _ _ _))⟩))))
                      go_meet
                      case rel => exact ⟨_, (t179), (by first | rfl | (simp; done) | (simp [*]; done)), H', ⟨by have := HK1.out; first | omega | exact Nat.le_refl _⟩, ⟨by repeat (first | (with_reducible first | exact HB.out | apply below_alloc | apply pw_below_drewN | apply below_drew1) | exact HB.out)⟩⟩
                    · replace c12 := Bool.eq_false_iff.mpr c12
                      subst c12
                      have H1 : (laws_FnArgsQuoted.j1 k1 l0 false x5_1 (rdOf ByteArray.empty l0 x17_1) l0 (l0.length : Int) x17_1 false) = some r := by rw [if_neg (show ¬ (false = true) by decide)] at H; exact H
                      clear H
                      have H := H1
                      clear H1
                      have H' := Aside0.mk H
                      clear H
                      go_wp2_with (first | (go_at_call 8; (with_reducible refine (spec_IsLine.calls k1 (rdOf ByteArray.empty l0 x17_1) true _ A10.out).mono ?_); rintro e w' ⟨rfl, ⟨nd, rfl⟩⟩; (try first | exact ⟨rfl, _, World.drewN_drewN _ _ _⟩ | exact ⟨rfl, _, Eq.trans (World.drewN_drewN _ _ _) (congrArg (World.drewN _) (Nat.add_assoc _ _ _))⟩)))
                      repeat (go_quiet (first | (go_at_call 8; (with_reducible refine (spec_IsLine.calls k1 (rdOf ByteArray.empty l0 x17_1) true _ A10.out).mono ?_); rintro e w' ⟨rfl, ⟨nd, rfl⟩⟩; (try first | exact ⟨rfl, _, World.drewN_drewN _ _ _⟩ | exact ⟨rfl, _, Eq.trans (World.drewN_drewN _ _ _) (congrArg (World.drewN _) (Nat.add_assoc _ _ _))⟩))); try go_wp2_with (first | (go_at_call 8; (with_reducible refine (spec_IsLine.calls k1 (rdOf ByteArray.empty l0 x17_1) true _ A10.out).mono ?_); rintro e w' ⟨rfl, ⟨nd, rfl⟩⟩; (try first | exact ⟨rfl, _, World.drewN_drewN _ _ _⟩ | exact ⟨rfl, _, Eq.trans (World.drewN_drewN _ _ _) (congrArg (World.drewN _) (Nat.add_assoc _ _ _))⟩))))
                      go_meet
                      case rel => exact ⟨_, (false), (by first | rfl | (simp; done) | (simp [*]; done)), H', ⟨by have := HK1.out; first | omega | exact Nat.le_refl _⟩, ⟨by repeat (first | (with_reducible first | exact HB.out | apply below_alloc | apply pw_below_drewN | apply below_drew1) | exact HB.out)⟩⟩
                  · replace c11 := Bool.eq_false_iff.mpr c11
                    subst c11
                    have H1 : (laws_FnArgsQuoted.j1 k1 l0 a1 x5_1 (rdOf ByteArray.empty l0 x17_1) l0 (l0.length : Int) x17_1 true) = some r := by rw [if_neg (show ¬ (false = true) by decide)] at H; exact H
                    clear H
                    have H := H1
                    clear H1
                    have H' := Aside0.mk H
                    clear H
                    go_wp2_with (first | (go_at_call 8; (with_reducible refine (spec_IsLine.calls k1 (rdOf ByteArray.empty l0 x17_1) false _ A10.out).mono ?_); rintro e w' ⟨rfl, ⟨nd, rfl⟩⟩; (try first | exact ⟨rfl, _, World.drewN_drewN _ _ _⟩ | exact ⟨rfl, _, Eq.trans (World.drewN_drewN _ _ _) (congrArg (World.drewN _) (Nat.add_assoc _ _ _))⟩)))
                    repeat (go_quiet (first | (go_at_call 8; (with_reducible refine (spec_IsLine.calls k1 (rdOf ByteArray.empty l0 x17_1) false _ A10.out).mono ?_); rintro e w' ⟨rfl, ⟨nd, rfl⟩⟩; (try first | exact ⟨rfl, _, World.drewN_drewN _ _ _⟩ | exact ⟨rfl, _, Eq.trans (World.drewN_drewN _ _ _) (congrArg (World.drewN _) (Nat.add_assoc _ _ _))⟩))); try go_wp2_with (first | (go_at_call 8; (with_reducible refine (spec_IsLine.calls k1 (rdOf ByteArray.empty l0 x17_1) false _ A10.out).mono ?_); rintro e w' ⟨rfl, ⟨nd, rfl⟩⟩; (try first | exact ⟨rfl, _, World.drewN_drewN _ _ _⟩ | exact ⟨rfl, _, Eq.trans (World.drewN_drewN _ _ _) (congrArg (World.drewN _) (Nat.add_assoc _ _ _))⟩))))
                    go_meet
                    case rel => exact ⟨_, (true), (by first | rfl | (simp; done) | (simp [*]; done)), H', ⟨by have := HK1.out; first | omega | exact Nat.le_refl _⟩, ⟨by repeat (first | (with_reducible first | exact HB.out | apply below_alloc | apply pw_below_drewN | apply below_drew1) | exact HB.out)⟩⟩
              case rest =>
                clear HC8
                try clear c1
                try clear p1
                try clear q1
                try clear hx1
                try clear p2
                try clear c4
                try clear c5
                try clear c5b0
                try clear c6
                try clear c6b0
                try clear c7
                try clear c7b0
                try clear c9
                try clear c9b0
                try clear c9b1
                try clear c11
                try clear c12
                try clear hx177_0
                try clear p177
                try clear p2
                try clear q177
                obtain ⟨kq, x35_7, rfl, HA, HJ7, HB⟩ := hcut
                cases kq with
                | zero => exact absurd HA.out (by simp [laws_FnArgsQuoted.j1])
                | succ kj7 =>
                  have H := HA.out
                  clear HA
                  simp only [laws_FnArgsQuoted.j1] at H
                  by_cases c14 : x35_7 = true
                  · subst c14
                    have H1 : (some true) = some r := by rw [if_pos rfl] at H; exact H
                    clear H
                    have H := H1
                    clear H1
                    obtain rfl := Option.some.inj H
                    go_wp2
                    repeat (go_quiet (fail); try go_wp2)
                    go_ret
                    exact ⟨by first | rfl | (simp [errW_none, errW_some] <;> rfl) | (simp [*, errW_none, errW_some] <;> rfl), by repeat (first | (with_reducible first | exact HB.out | apply below_alloc | apply pw_below_drewN | apply below_drew1) | exact HB.out)⟩
                  · replace c14 := Bool.eq_false_iff.mpr c14
                    subst c14
                    have H1 : (if a1 = true then (if 2 + (rdOf ByteArray.empty l0 x17_1).size ≤ 9223372036854775807 then (if ((⟨#[32, 96]⟩ : ByteArray) ++ (rdOf ByteArray.empty l0 x17_1)).size + 1 ≤ 9223372036854775807 then (if x5_1.size + (((⟨#[32, 96]⟩ : ByteArray) ++ (rdOf ByteArray.empty l0 x17_1)) ++ (⟨#[96]⟩ : ByteArray)).size ≤ 9223372036854775807 then (laws_FnArgsQuoted.l0 kj7 l0 a1 (x5_1 ++ (((⟨#[32, 96]⟩ : ByteArray) ++ (rdOf ByteArray.empty l0 x17_1)) ++ (⟨#[96]⟩ : ByteArray))) l0 (l0.length : Int) (wrap64 (x17_1 + 1))) else (none)) else (none)) else (none)) else ((laws_quoted9.f kj7 (rdOf ByteArray.empty l0 x17_1)).bind fun t180 => (if 1 + t180.size ≤ 9223372036854775807 then (if x5_1.size + ((⟨#[32]⟩ : ByteArray) ++ t180).size ≤ 9223372036854775807 then (laws_FnArgsQuoted.l0 kj7 l0 a1 (x5_1 ++ ((⟨#[32]⟩ : ByteArray) ++ t180)) l0 (l0.length : Int) (wrap64 (x17_1 + 1))) else (none)) else (none)))) = some r := by rw [if_neg (show ¬ (false = true) by decide)] at H; exact H
                    clear H
                    have H := H1
                    clear H1
                    by_cases c15 : a1 = true
                    · subst c15
                      have H1 : (if 2 + (rdOf ByteArray.empty l0 x17_1).size ≤ 9223372036854775807 then (if ((⟨#[32, 96]⟩ : ByteArray) ++ (rdOf ByteArray.empty l0 x17_1)).size + 1 ≤ 9223372036854775807 then (if x5_1.size + (((⟨#[32, 96]⟩ : ByteArray) ++ (rdOf ByteArray.empty l0 x17_1)) ++ (⟨#[96]⟩ : ByteArray)).size ≤ 9223372036854775807 then (laws_FnArgsQuoted.l0 kj7 l0 true (x5_1 ++ (((⟨#[32, 96]⟩ : ByteArray) ++ (rdOf ByteArray.empty l0 x17_1)) ++ (⟨#[96]⟩ : ByteArray))) l0 (l0.length : Int) (wrap64 (x17_1 + 1))) else (none)) else (none)) else (none)) = some r := by rw [if_pos rfl] at H; exact H
                      clear H
                      have H := H1
                      clear H1
                      by_cases c16 : 2 + (rdOf ByteArray.empty l0 x17_1).size ≤ 9223372036854775807
                      · rw [if_pos c16] at H
                        have c16b0 := eq_true c16
                        have c16b1 : decide (2 + (rdOf ByteArray.empty l0 x17_1).size ≤ 9223372036854775807) = true := decide_eq_true c16
                        try have c16b2 : (9223372036854775807 < 2 + (rdOf ByteArray.empty l0 x17_1).size) = False := eq_false (Nat.not_lt.2 c16)
                        by_cases c17 : ((⟨#[32, 96]⟩ : ByteArray) ++ (rdOf ByteArray.empty l0 x17_1)).size + 1 ≤ 9223372036854775807
                        · rw [if_pos c17] at H
                          have c17b0 := eq_true c17
                          have c17b1 : decide (((⟨#[32, 96]⟩ : ByteArray) ++ (rdOf ByteArray.empty l0 x17_1)).size + 1 ≤ 9223372036854775807) = true := decide_eq_true c17
                          try have c17b2 : (9223372036854775807 < ((⟨#[32, 96]⟩ : ByteArray) ++ (rdOf ByteArray.empty l0 x17_1)).size + 1) = False := eq_false (Nat.not_lt.2 c17)
                          have z17_ : ((⟨#[32, 96]⟩ : ByteArray) ++ (rdOf ByteArray.empty l0 x17_1)).size = 2 + (rdOf ByteArray.empty l0 x17_1).size := ByteArray.size_append
                          have c17b3 : (9223372036854775807 < 2 + (rdOf ByteArray.empty l0 x17_1).size + 1) = False := eq_false (by have := c17; omega)
                          have c17b4 : (9223372036854775806 < 2 + (rdOf ByteArray.empty l0 x17_1).size) = False := eq_false (by have := c17; omega)
                          by_cases c18 : x5_1.size + (((⟨#[32, 96]⟩ : ByteArray) ++ (rdOf ByteArray.empty l0 x17_1)) ++ (⟨#[96]⟩ : ByteArray)).size ≤ 9223372036854775807
                          · rw [if_pos c18] at H
                            have c18b0 := eq_true c18
                            have c18b1 : decide (x5_1.size + (((⟨#[32, 96]⟩ : ByteArray) ++ (rdOf ByteArray.empty l0 x17_1)) ++ (⟨#[96]⟩ : ByteArray)).size ≤ 9223372036854775807) = true := decide_eq_true c18
                            try have c18b2 : (9223372036854775807 < x5_1.size + (((⟨#[32, 96]⟩ : ByteArray) ++ (rdOf ByteArray.empty l0 x17_1)) ++ (⟨#[96]⟩ : ByteArray)).size) = False := eq_false (Nat.not_lt.2 c18)
                            have z18_ : (((⟨#[32, 96]⟩ : ByteArray) ++ (rdOf ByteArray.empty l0 x17_1)) ++ (⟨#[96]⟩ : ByteArray)).size = ((⟨#[32, 96]⟩ : ByteArray) ++ (rdOf ByteArray.empty l0 x17_1)).size + 1 := ByteArray.size_append
                            have c18b3 : (9223372036854775807 < x5_1.size + (2 + (rdOf ByteArray.empty l0 x17_1).size + 1)) = False := eq_false (by have := c18; omega)
                            clear z17_ z18_
                            have H' := Aside0.mk H
                            clear H
                            go_wp2
                            repeat (go_quiet (fail); try go_wp2)
                            go_roundg kj7
                            case measure => have := HK1.out; have := HJ7.out; omega
                            case rel => exact ⟨(x5_1 ++ (((⟨#[32, 96]⟩ : ByteArray) ++ (rdOf ByteArray.empty l0 x17_1)) ++ (⟨#[96]⟩ : ByteArray))), (wrap64 (x17_1 + 1)), (by first | rfl | (simp; done) | (simp [*]; done)), (by first | rfl | (simp; done) | (simp [*]; done)), H', ⟨by have := HK1.out; have := HJ7.out; omega⟩, ⟨by repeat (first | (with_reducible first | exact HB.out | apply below_alloc | apply pw_below_drewN | apply below_drew1) | exact HB.out)⟩⟩
                          · rw [if_neg c18] at H
                            exact absurd H (by simp)
                        · rw [if_neg c17] at H
                          exact absurd H (by simp)
                      · rw [if_neg c16] at H
                        exact absurd H (by simp)
                    · replace c15 := Bool.eq_false_iff.mpr c15
                      subst c15
                      have H1 : ((laws_quoted9.f kj7 (rdOf ByteArray.empty l0 x17_1)).bind fun t180 => (if 1 + t180.size ≤ 9223372036854775807 then (if x5_1.size + ((⟨#[32]⟩ : ByteArray) ++ t180).size ≤ 9223372036854775807 then (laws_FnArgsQuoted.l0 kj7 l0 false (x5_1 ++ ((⟨#[32]⟩ : ByteArray) ++ t180)) l0 (l0.length : Int) (wrap64 (x17_1 + 1))) else (none)) else (none))) = some r := by rw [if_neg (show ¬ (false = true) by decide)] at H; exact H
                      clear H
                      have H := H1
                      clear H1
                      replace H := Option.bind_eq_some_iff.mp H
                      obtain ⟨t180, A190, H⟩ := H
                      replace H : (if 1 + t180.size ≤ 9223372036854775807 then (if x5_1.size + ((⟨#[32]⟩ : ByteArray) ++ t180).size ≤ 9223372036854775807 then (laws_FnArgsQuoted.l0 kj7 l0 false (x5_1 ++ ((⟨#[32]⟩ : ByteArray) ++ t180)) l0 (l0.length : Int) (wrap64 (x17_1 + 1))) else (none)) else (none)) = some r := H
                      have A19 := Aside0.mk A190
                      clear A190
                      by_cases c20 : 1 + t180.size ≤ 9223372036854775807
                      · rw [if_pos c20] at H
                        have c20b0 := eq_true c20
                        have c20b1 : decide (1 + t180.size ≤ 9223372036854775807) = true := decide_eq_true c20
                        try have c20b2 : (9223372036854775807 < 1 + t180.size) = False := eq_false (Nat.not_lt.2 c20)
                        by_cases c21 : x5_1.size + ((⟨#[32]⟩ : ByteArray) ++ t180).size ≤ 9223372036854775807
                        · rw [if_pos c21] at H
                          have c21b0 := eq_true c21
                          have c21b1 : decide (x5_1.size + ((⟨#[32]⟩ : ByteArray) ++ t180).size ≤ 9223372036854775807) = true := decide_eq_true c21
                          try have c21b2 : (9223372036854775807 < x5_1.size + ((⟨#[32]⟩ : ByteArray) ++ t180).size) = False := eq_false (Nat.not_lt.2 c21)
                          have H' := Aside0.mk H
                          clear H
                          go_wp2_with (first | (go_at_call 10; (with_reducible refine (laws_quoted9.calls kj7 (rdOf ByteArray.empty l0 x17_1) t180 _ A19.out).mono ?_); rintro e w' ⟨rfl, ⟨nd, rfl⟩⟩; (try first | exact ⟨rfl, _, World.drewN_drewN _ _ _⟩ | exact ⟨rfl, _, Eq.trans (World.drewN_drewN _ _ _) (congrArg (World.drewN _) (Nat.add_assoc _ _ _))⟩)))
                          repeat (go_quiet (first | (go_at_call 10; (with_reducible refine (laws_quoted9.calls kj7 (rdOf ByteArray.empty l0 x17_1) t180 _ A19.out).mono ?_); rintro e w' ⟨rfl, ⟨nd, rfl⟩⟩; (try first | exact ⟨rfl, _, World.drewN_drewN _ _ _⟩ | exact ⟨rfl, _, Eq.trans (World.drewN_drewN _ _ _) (congrArg (World.drewN _) (Nat.add_assoc _ _ _))⟩))); try go_wp2_with (first | (go_at_call 10; (with_reducible refine (laws_quoted9.calls kj7 (rdOf ByteArray.empty l0 x17_1) t180 _ A19.out).mono ?_); rintro e w' ⟨rfl, ⟨nd, rfl⟩⟩; (try first | exact ⟨rfl, _, World.drewN_drewN _ _ _⟩ | exact ⟨rfl, _, Eq.trans (World.drewN_drewN _ _ _) (congrArg (World.drewN _) (Nat.add_assoc _ _ _))⟩))))
                          go_roundg kj7
                          case measure => have := HK1.out; have := HJ7.out; omega
                          case rel => exact ⟨(x5_1 ++ ((⟨#[32]⟩ : ByteArray) ++ t180)), (wrap64 (x17_1 + 1)), (by first | rfl | (simp; done) | (simp [*]; done)), (by first | rfl | (simp; done) | (simp [*]; done)), H', ⟨by have := HK1.out; have := HJ7.out; omega⟩, ⟨by repeat (first | (with_reducible first | exact HB.out | apply below_alloc | apply pw_below_drewN | apply below_drew1) | exact HB.out)⟩⟩
                        · rw [if_neg c21] at H
                          exact absurd H (by simp)
                      · rw [if_neg c20] at H
                        exact absurd H (by simp)
            · rw [if_neg c7] at H
              exact absurd H (by simp)
          · rw [if_neg c6] at H
            exact absurd H (by simp)
        · rw [if_neg c5] at H
          have c5b0 : decide (x17_1 < (l0.length : Int)) = false := decide_eq_false c5
          clear c5
          by_cases c22 : (l0.length : Int) > 50
          · rw [if_pos c22] at H
            have c22b0 : decide (50 < (l0.length : Int)) = true := decide_eq_true c22
            have c22b1 : decide (50 < l0.length) = true := decide_eq_true (by omega)
            clear c22
            obtain rfl := Option.some.inj H
            go_wp2
            repeat (go_quiet (fail); try go_wp2)
            go_ret
            exact ⟨by first | rfl | (simp [errW_none, errW_some] <;> rfl) | (simp [*, errW_none, errW_some] <;> rfl), by repeat (first | (with_reducible first | exact HB.out | apply below_alloc | apply pw_below_drewN | apply below_drew1) | exact HB.out)⟩
          · rw [if_neg c22] at H
            have c22b0 : decide (50 < (l0.length : Int)) = false := decide_eq_false c22
            have c22b1 : decide (50 < l0.length) = false := decide_eq_false (by omega)
            clear c22
            replace H := Option.bind_eq_some_iff.mp H
            obtain ⟨⟨t181, t182⟩, A230, H⟩ := H
            replace H : (if t182 = true then (laws_FnArgsQuoted.j2 k1 l0 t181 ((t181.length : Int) != (l0.length : Int))) else (laws_FnArgsQuoted.j2 k1 l0 t181 true)) = some r := H
            have A23 := Aside0.mk A230
            clear A230
            have HC24 := Aside0.mk H
            clear H
            go_upto_region 16 with (first | (go_at_call 6; (with_reducible refine (impl_ParseArgs.calls F k1 x5_1 1 t181 t182 _ (HT.out.below (by repeat (first | (with_reducible first | exact HB.out | apply below_alloc | apply pw_below_drewN | apply below_drew1) | exact HB.out))) (by rw [(show Below w.heap.size w _ from (by repeat (first | (with_reducible first | exact HB.out | apply below_alloc | apply pw_below_drewN | apply below_drew1) | exact HB.out))).tape]; exact HF.out) A23.out).mono ?_); rintro e w25 ⟨v183, rfl, ho0, hb⟩; have n0_ := Aside0.mk (Kd.R_lower ho0 (below_size (by repeat (first | (with_reducible first | exact HB.out | apply below_alloc | apply pw_below_drewN | apply below_drew1) | exact HB.out)))); have n1_ := Aside0.mk (below_step (by repeat (first | (with_reducible first | exact HB.out | apply below_alloc | apply pw_below_drewN | apply below_drew1) | exact HB.out)) hb); clear HB; have HO184 := n0_; have HB := n1_; clear n0_ n1_; (try clear hb); (try clear hb2); (try clear hk); (try clear hi); (try clear ho0)))
            repeat (go_quiet (first | (go_at_call 6; (with_reducible refine (impl_ParseArgs.calls F k1 x5_1 1 t181 t182 _ (HT.out.below (by repeat (first | (with_reducible first | exact HB.out | apply below_alloc | apply pw_below_drewN | apply below_drew1) | exact HB.out))) (by rw [(show Below w.heap.size w _ from (by repeat (first | (with_reducible first | exact HB.out | apply below_alloc | apply pw_below_drewN | apply below_drew1) | exact HB.out))).tape]; exact HF.out) A23.out).mono ?_); rintro e w25 ⟨v183, rfl, ho0, hb⟩; have n0_ := Aside0.mk (Kd.R_lower ho0 (below_size (by repeat (first | (with_reducible first | exact HB.out | apply below_alloc | apply pw_below_drewN | apply below_drew1) | exact HB.out)))); have n1_ := Aside0.mk (below_step (by repeat (first | (with_reducible first | exact HB.out | apply below_alloc | apply pw_below_drewN | apply below_drew1) | exact HB.out)) hb); clear HB; have HO184 := n0_; have HB := n1_; clear n0_ n1_; (try clear hb); (try clear hb2); (try clear hk); (try clear hi); (try clear ho0))); go_upto_region 16 with (first | (go_at_call 6; (with_reducible refine (impl_ParseArgs.calls F k1 x5_1 1 t181 t182 _ (HT.out.below (by repeat (first | (with_reducible first | exact HB.out | apply below_alloc | apply pw_below_drewN | apply below_drew1) | exact HB.out))) (by rw [(show Below w.heap.size w _ from (by repeat (first | (with_reducible first | exact HB.out | apply below_alloc | apply pw_below_drewN | apply below_drew1) | exact HB.out))).tape]; exact HF.out) A23.out).mono ?_); rintro e w25 ⟨v183, rfl, ho0, hb⟩; have n0_ := Aside0.mk (Kd.R_lower ho0 (below_size (by repeat (first | (with_reducible first | exact HB.out | apply below_alloc | apply pw_below_drewN | apply below_drew1) | exact HB.out)))); have n1_ := Aside0.mk (below_step (by repeat (first | (with_reducible first | exact HB.out | apply below_alloc | apply pw_below_drewN | apply below_drew1) | exact HB.out)) hb); clear HB; have HO184 := n0_; have HB := n1_; clear n0_ n1_; (try clear hb); (try clear hb2); (try clear hk); (try clear hi); (try clear ho0))))
            (try simp only [Act.put, List.setIfInBounds_toArray, List.set_cons_zero, List.set_cons_succ])
            go_cut [64] (fun v64 wc => ∃ (kq : Nat) (x64_23 : Bool), v64 = .bool x64_23 ∧ Aside0 (laws_FnArgsQuoted.j2 kq l0 t181 x64_23 = some r) ∧ Aside0 (kq ≤ k1) ∧ Aside0 (Kd.R k28 28 wc w.heap.size (fun _ => True) v183 t181) ∧ Aside0 (Below w.heap.size w wc))
            case first =>
              have H := HC24.out
              clear HC24
              by_cases c26 : t182 = true
              · subst c26
                have H1 : (laws_FnArgsQuoted.j2 k1 l0 t181 ((t181.length : Int) != (l0.length : Int))) = some r := by rw [if_pos rfl] at H; exact H
                clear H
                have H := H1
                clear H1
                have H' := Aside0.mk H
                clear H
                obtain ⟨Ao27, co27, eo27⟩ := Kd.R_slice HO184.out
                subst eo27
                go_wp2
                repeat (go_quiet (fail); try go_wp2)
                go_meet
                case rel => exact ⟨_, (((t181.length : Int) != (l0.length : Int))), (by first | rfl | (simp; done) | (simp [*]; done)), H', ⟨by have := HK1.out; first | omega | exact Nat.le_refl _⟩, ⟨by (with_reducible repeat (first | apply Kd.R_alloc | apply Kd.R_drewN | apply Kd.R_drew)); exact HO184.out⟩, ⟨by repeat (first | (with_reducible first | exact HB.out | apply below_alloc | apply pw_below_drewN | apply below_drew1) | exact HB.out)⟩⟩
              · replace c26 := Bool.eq_false_iff.mpr c26
                subst c26
                have H1 : (laws_FnArgsQuoted.j2 k1 l0 t181 true) = some r := by rw [if_neg (show ¬ (false = true) by decide)] at H; exact H
                clear H
                have H := H1
                clear H1
                have H' := Aside0.mk H
                clear H
                go_wp2
                repeat (go_quiet (fail); try go_wp2)
                go_meet
                case rel => exact ⟨_, (true), (by first | rfl | (simp; done) | (simp [*]; done)), H', ⟨by have := HK1.out; first | omega | exact Nat.le_refl _⟩, ⟨by (with_reducible repeat (first | apply Kd.R_alloc | apply Kd.R_drewN | apply Kd.R_drew)); exact HO184.out⟩, ⟨by repeat (first | (with_reducible first | exact HB.out | apply below_alloc | apply pw_below_drewN | apply below_drew1) | exact HB.out)⟩⟩
            case rest =>
              clear HC24
              try clear c1
              try clear p1
              try clear q1
              try clear hx1
              try clear c2
              try clear p2
              try clear c4
              try clear c5
              try clear c5b0
              try clear c6
              try clear c6b0
              try clear p6
              try clear c7
              try clear c7b0
              try clear c9
              try clear c9b0
              try clear c9b1
              try clear c11
              try clear c12
              try clear c14
              try clear c15
              try clear c16
              try clear c16b0
              try clear c16b1
              try clear c16b2
              try clear c17
              try clear c17b0
              try clear c17b1
              try clear c17b2
              try clear p17
              try clear q17
              try clear hx17
              try clear c18
              try clear c18b0
              try clear c18b1
              try clear c18b2
              try clear c20
              try clear c20b0
              try clear c20b1
              try clear c20b2
              try clear c21
              try clear c21b0
              try clear c21b1
              try clear c21b2
              try clear c22
              try clear c22b0
              try clear c22b1
              try clear c26
              try clear hx177_0
              try clear p1
              try clear p177
              try clear p2
              try clear q1
              try clear q177
              obtain ⟨kq, x64_23, rfl, HA, HJ23, HO_8, HB⟩ := hcut
              cases kq with
              | zero => exact absurd HA.out (by simp [laws_FnArgsQuoted.j2])
              | succ kj23 =>
                have H := HA.out
                clear HA
                simp only [laws_FnArgsQuoted.j2] at H
                by_cases c28 : x64_23 = true
                · subst c28
                  have H1 : (some false) = some r := by rw [if_pos rfl] at H; exact H
                  clear H
                  have H := H1
                  clear H1
                  obtain rfl := Option.some.inj H
                  go_wp2
                  repeat (go_quiet (fail); try go_wp2)
                  go_ret
                  exact ⟨by first | rfl | (simp [errW_none, errW_some] <;> rfl) | (simp [*, errW_none, errW_some] <;> rfl), by repeat (first | (with_reducible first | exact HB.out | apply below_alloc | apply pw_below_drewN | apply below_drew1) | exact HB.out)⟩
                · replace c28 := Bool.eq_false_iff.mpr c28
                  subst c28
                  have H1 : (laws_FnArgsQuoted.l1 kj23 l0 t181 (t181.length : Int) 0) = some r := by rw [if_neg (show ¬ (false = true) by decide)] at H; exact H
                  clear H
                  have H := H1
                  clear H1
                  have H' := Aside0.mk H
                  clear H
                  obtain ⟨Ao29, co29, eo29⟩ := Kd.R_slice HO_8.out
                  subst eo29
                  go_wp2
                  repeat (go_quiet (fail); try go_wp2)
                  go_loopg [67] kj23 (fun kq v67 w' => ∃ (x67_3 : Int), v67 = .int .i64 x67_3 ∧ Aside0 (laws_FnArgsQuoted.l1 kq l0 t181 (t181.length : Int) x67_3 = some r) ∧ Aside0 (kq ≤ kj23) ∧ Aside0 (Kd.R k28 28 w' w.heap.size (fun _ => True) (.slice Ao29 t181.length co29) t181) ∧ Aside0 (Below w.heap.size w w'))
                  case atStart => exact ⟨(0), (by first | rfl | (simp; done) | (simp [*]; done)), H', ⟨Nat.le_refl _⟩, ⟨by (with_reducible repeat (first | apply Kd.R_alloc | apply Kd.R_drewN | apply Kd.R_drew)); exact HO_8.out⟩, ⟨by repeat (first | (with_reducible first | exact HB.out | apply below_alloc | apply pw_below_drewN | apply below_drew1) | exact HB.out)⟩⟩
                  case round =>
                    clear H'
                    try clear c1
                    try clear p1
                    try clear q1
                    try clear hx1
                    try clear c2
                    try clear p2
                    try clear c4
                    try clear c5
                    try clear c5b0
                    try clear c6
                    try clear c6b0
                    try clear p6
                    try clear c7
                    try clear c7b0
                    try clear c9
                    try clear c9b0
                    try clear c9b1
                    try clear c11
                    try clear c12
                    try clear c14
                    try clear c15
                    try clear c16
                    try clear c16b0
                    try clear c16b1
                    try clear c16b2
                    try clear c17
                    try clear c17b0
                    try clear c17b1
                    try clear c17b2
                    try clear p17
                    try clear q17
                    try clear hx17
                    try clear c18
                    try clear c18b0
                    try clear c18b1
                    try clear c18b2
                    try clear c20
                    try clear c20b0
                    try clear c20b1
                    try clear c20b2
                    try clear c21
                    try clear c21b0
                    try clear c21b1
                    try clear c21b2
                    try clear c22
                    try clear c22b0
                    try clear c22b1
                    try clear c26
                    try clear c28
                    try clear hx177_0
                    try clear p1
                    try clear p17
                    try clear p177
                    try clear p2
                    try clear p6
                    try clear q1
                    try clear q17
                    try clear q177
                    obtain ⟨x67_3, rfl, HA, HK3, HO_65, HB⟩ := hrel
                    cases gk with
                    | zero => exact absurd HA.out (by simp [laws_FnArgsQuoted.l1])
                    | succ k3 =>
                      have H := HA.out
                      clear HA
                      simp only [laws_FnArgsQuoted.l1] at H
                      by_cases c30 : x67_3 < (t181.length : Int)
                      · rw [if_pos c30] at H
                        have c30b0 : decide (x67_3 < (t181.length : Int)) = true := decide_eq_true c30
                        clear c30
                        by_cases c31 : 0 ≤ x67_3
                        · rw [if_pos c31] at H
                          have c31b0 : decide (0 ≤ x67_3) = true := decide_eq_true c31
                          clear c31
                          by_cases c32 : x67_3 < (t181.length : Int)
                          · rw [if_pos c32] at H
                            have c32b0 : decide (x67_3 < (t181.length : Int)) = true := decide_eq_true c32
                            clear c32
                            by_cases c33 : x67_3 < (l0.length : Int)
                            · rw [if_pos c33] at H
                              have c33b0 : decide (x67_3 < (l0.length : Int)) = true := decide_eq_true c33
                              clear c33
                              by_cases c34 : ((rd_T28 t181 x67_3).f0).toList = (rdOf ByteArray.empty l0 x67_3).toList
                              · rw [if_pos c34] at H
                                have c34b0 : (((rd_T28 t181 x67_3).f0).toList == (rdOf ByteArray.empty l0 x67_3).toList) = true := beq_iff_eq.mpr c34
                                have c34b1 : (((rd_T28 t181 x67_3).f0).toList != (rdOf ByteArray.empty l0 x67_3).toList) = false := bne_eq_false_iff_eq.mpr c34
                                clear c34
                                have H' := Aside0.mk H
                                clear H
                                have p185 : 0 ≤ (x67_3 : Int) := of_decide_eq_true (by first | (with_reducible assumption) | assumption)
                                have q185 : x67_3 < (t181.length : Int) := of_decide_eq_true (by first | (with_reducible assumption) | assumption)
                                obtain ⟨ad185, e185, hx185_0, hx185_1⟩ := at_T28 (Kd.R_reads' HO_65.out).2.2 x67_3 p185 q185
                                cases e185
                                replace p185 := eq_true p185
                                replace q185 := eq_true q185
                                go_wp2_with (first | ((with_reducible refine gate_dst (N := 11) rfl ?_); (try (refine gate_guard (by rfl) ?_; dsimp only)); refine box_event ?hg (N := 11) ?hd (cs := #[.string (⟨#[]⟩ : ByteArray), .int .i64 0]) (t := 28) ?hr ?_; (case hd => rfl); (case hg => rfl); (case hr => first | (go_simp; done) | (go_simp; rfl)); intro gb186 hg w35 hbox hb; have n0_ := Aside0.mk (Kd.R_below (Kd.R_elderB (by (with_reducible repeat (first | apply Kd.R_alloc | apply Kd.R_drewN | apply Kd.R_drew)); exact HO_65.out) gb186 (Nat.le_of_eq hg.symm)) hb); have n1_ := Aside0.mk (below_step (by repeat (first | (with_reducible first | exact HB.out | apply below_alloc | apply pw_below_drewN | apply below_drew1) | exact HB.out)) hb); have n2_ := Aside0.mk (hbox); have n3_ := Aside0.mk ((by rw [hg]; exact (below_size (by repeat (first | (with_reducible first | exact HB.out | apply below_alloc | apply pw_below_drewN | apply below_drew1) | exact HB.out))) : w.heap.size ≤ gb186)); have n4_ := Aside0.mk ((by rw [hg]; exact (below_size (by repeat (first | (with_reducible first | exact HB.out | apply below_alloc | apply pw_below_drewN | apply below_drew1) | exact HB.out))) : w.heap.size ≤ gb186)); clear HO_65; clear HB; have HO_65 := n0_; have HB := n1_; have BK186 := n2_; have GW186 := n3_; have GE186 := n4_; clear n0_ n1_ n2_ n3_ n4_; clear hb hbox hg; have hcz36_0 : w35.cell? ⟨gb186, 0, none⟩ = some (.string (⟨#[]⟩ : ByteArray)) := (blk_cell BK186.out 0).trans rfl; have hcz36_1 : w35.cell? ⟨gb186, 1, none⟩ = some (.int .i64 0) := (blk_cell BK186.out 1).trans rfl; have hfz36_0 := blk_frozen BK186.out 0; have hfz36_1 := blk_frozen BK186.out 1; have p187 : 0 ≤ (x67_3 : Int) := of_decide_eq_true (by first | (with_reducible assumption) | assumption); have q187 : x67_3 < (l0.length : Int) := of_decide_eq_true (by first | (with_reducible assumption) | assumption); obtain ⟨ad187, e187, hx187_0⟩ := Kd.at_string HR0.out x67_3 p187 q187; cases e187; have hn187_0 : ad187.block ≠ gb186 := Nat.ne_of_lt (Nat.lt_of_lt_of_le (by have := World.block_lt_of_cell? _ _ hx187_0; first | rwa [add_block] at this | exact this) GW186.out); have hn187_1 : ad187.block ≠ gb186 := Nat.ne_of_lt (Nat.lt_of_lt_of_le (by have := World.block_lt_of_cell? _ _ hx187_0; first | rwa [add_block] at this | exact this) GW186.out); replace hx187_0 := (HB.out.cell (World.block_lt_of_cell? w _ hx187_0)).trans hx187_0; replace hx187_0 := (cell_far (p := ⟨gb186, 0, none⟩) (by first | (rw [add_block]; exact hn187_0) | (show (Addr.add _ _).block ≠ _; rw [add_block]; exact hn187_0) | exact hn187_0) (.string ((rd_T28 t181 x67_3).f0))).trans hx187_0; replace hx187_0 := (cell_far (p := ⟨gb186, 1, none⟩) (by first | (rw [add_block]; exact hn187_1) | (show (Addr.add _ _).block ≠ _; rw [add_block]; exact hn187_1) | exact hn187_1) (.int .i64 ((rd_T28 t181 x67_3).f1))).trans hx187_0; (try have hy187_0 := fun (n_ : Nat) => (show ((((w35.drewN n_).setCell ⟨gb186, 0, none⟩ (.string ((rd_T28 t181 x67_3).f0))).setCell ⟨gb186, 1, none⟩ (.int .i64 ((rd_T28 t181 x67_3).f1)))).cell? _ = some _ from hx187_0)); clear hn187_0; clear hn187_1; replace p187 := eq_true p187; replace q187 := eq_true q187))
                                repeat (go_quiet (first | ((with_reducible refine gate_dst (N := 11) rfl ?_); (try (refine gate_guard (by rfl) ?_; dsimp only)); refine box_event ?hg (N := 11) ?hd (cs := #[.string (⟨#[]⟩ : ByteArray), .int .i64 0]) (t := 28) ?hr ?_; (case hd => rfl); (case hg => rfl); (case hr => first | (go_simp; done) | (go_simp; rfl)); intro gb186 hg w35 hbox hb; have n0_ := Aside0.mk (Kd.R_below (Kd.R_elderB (by (with_reducible repeat (first | apply Kd.R_alloc | apply Kd.R_drewN | apply Kd.R_drew)); exact HO_65.out) gb186 (Nat.le_of_eq hg.symm)) hb); have n1_ := Aside0.mk (below_step (by repeat (first | (with_reducible first | exact HB.out | apply below_alloc | apply pw_below_drewN | apply below_drew1) | exact HB.out)) hb); have n2_ := Aside0.mk (hbox); have n3_ := Aside0.mk ((by rw [hg]; exact (below_size (by repeat (first | (with_reducible first | exact HB.out | apply below_alloc | apply pw_below_drewN | apply below_drew1) | exact HB.out))) : w.heap.size ≤ gb186)); have n4_ := Aside0.mk ((by rw [hg]; exact (below_size (by repeat (first | (with_reducible first | exact HB.out | apply below_alloc | apply pw_below_drewN | apply below_drew1) | exact HB.out))) : w.heap.size ≤ gb186)); clear HO_65; clear HB; have HO_65 := n0_; have HB := n1_; have BK186 := n2_; have GW186 := n3_; have GE186 := n4_; clear n0_ n1_ n2_ n3_ n4_; clear hb hbox hg; have hcz36_0 : w35.cell? ⟨gb186, 0, none⟩ = some (.string (⟨#[]⟩ : ByteArray)) := (blk_cell BK186.out 0).trans rfl; have hcz36_1 : w35.cell? ⟨gb186, 1, none⟩ = some (.int .i64 0) := (blk_cell BK186.out 1).trans rfl; have hfz36_0 := blk_frozen BK186.out 0; have hfz36_1 := blk_frozen BK186.out 1; have p187 : 0 ≤ (x67_3 : Int) := of_decide_eq_true (by first | (with_reducible assumption) | assumption); have q187 : x67_3 < (l0.length : Int) := of_decide_eq_true (by first | (with_reducible assumption) | assumption); obtain ⟨ad187, e187, hx187_0⟩ := Kd.at_string HR0.out x67_3 p187 q187; cases e187; have hn187_0 : ad187.block ≠ gb186 := Nat.ne_of_lt (Nat.lt_of_lt_of_le (by have := World.block_lt_of_cell? _ _ hx187_0; first | rwa [add_block] at this | exact this) GW186.out); have hn187_1 : ad187.block ≠ gb186 := Nat.ne_of_lt (Nat.lt_of_lt_of_le (by have := World.block_lt_of_cell? _ _ hx187_0; first | rwa [add_block] at this | exact this) GW186.out); replace hx187_0 := (HB.out.cell (World.block_lt_of_cell? w _ hx187_0)).trans hx187_0; replace hx187_0 := (cell_far (p := ⟨gb186, 0, none⟩) (by first | (rw [add_block]; exact hn187_0) | (show (Addr.add _ _).block ≠ _; rw [add_block]; exact hn187_0) | exact hn187_0) (.string ((rd_T28 t181 x67_3).f0))).trans hx187_0; replace hx187_0 := (cell_far (p := ⟨gb186, 1, none⟩) (by first | (rw [add_block]; exact hn187_1) | (show (Addr.add _ _).block ≠ _; rw [add_block]; exact hn187_1) | exact hn187_1) (.int .i64 ((rd_T28 t181 x67_3).f1))).trans hx187_0; (try have hy187_0 := fun (n_ : Nat) => (show ((((w35.drewN n_).setCell ⟨gb186, 0, none⟩ (.string ((rd_T28 t181 x67_3).f0))).setCell ⟨gb186, 1, none⟩ (.int .i64 ((rd_T28 t181 x67_3).f1)))).cell? _ = some _ from hx187_0)); clear hn187_0; clear hn187_1; replace p187 := eq_true p187; replace q187 := eq_true q187)); try go_wp2_with (first | ((with_reducible refine gate_dst (N := 11) rfl ?_); (try (refine gate_guard (by rfl) ?_; dsimp only)); refine box_event ?hg (N := 11) ?hd (cs := #[.string (⟨#[]⟩ : ByteArray), .int .i64 0]) (t := 28) ?hr ?_; (case hd => rfl); (case hg => rfl); (case hr => first | (go_simp; done) | (go_simp; rfl)); intro gb186 hg w35 hbox hb; have n0_ := Aside0.mk (Kd.R_below (Kd.R_elderB (by (with_reducible repeat (first | apply Kd.R_alloc | apply Kd.R_drewN | apply Kd.R_drew)); exact HO_65.out) gb186 (Nat.le_of_eq hg.symm)) hb); have n1_ := Aside0.mk (below_step (by repeat (first | (with_reducible first | exact HB.out | apply below_alloc | apply pw_below_drewN | apply below_drew1) | exact HB.out)) hb); have n2_ := Aside0.mk (hbox); have n3_ := Aside0.mk ((by rw [hg]; exact (below_size (by repeat (first | (with_reducible first | exact HB.out | apply below_alloc | apply pw_below_drewN | apply below_drew1) | exact HB.out))) : w.heap.size ≤ gb186)); have n4_ := Aside0.mk ((by rw [hg]; exact (below_size (by repeat (first | (with_reducible first | exact HB.out | apply below_alloc | apply pw_below_drewN | apply below_drew1) | exact HB.out))) : w.heap.size ≤ gb186)); clear HO_65; clear HB; have HO_65 := n0_; have HB := n1_; have BK186 := n2_; have GW186 := n3_; have GE186 := n4_; clear n0_ n1_ n2_ n3_ n4_; clear hb hbox hg; have hcz36_0 : w35.cell? ⟨gb186, 0, none⟩ = some (.string (⟨#[]⟩ : ByteArray)) := (blk_cell BK186.out 0).trans rfl; have hcz36_1 : w35.cell? ⟨gb186, 1, none⟩ = some (.int .i64 0) := (blk_cell BK186.out 1).trans rfl; have hfz36_0 := blk_frozen BK186.out 0; have hfz36_1 := blk_frozen BK186.out 1; have p187 : 0 ≤ (x67_3 : Int) := of_decide_eq_true (by first | (with_reducible assumption) | assumption); have q187 : x67_3 < (l0.length : Int) := of_decide_eq_true (by first | (with_reducible assumption) | assumption); obtain ⟨ad187, e187, hx187_0⟩ := Kd.at_string HR0.out x67_3 p187 q187; cases e187; have hn187_0 : ad187.block ≠ gb186 := Nat.ne_of_lt (Nat.lt_of_lt_of_le (by have := World.block_lt_of_cell? _ _ hx187_0; first | rwa [add_block] at this | exact this) GW186.out); have hn187_1 : ad187.block ≠ gb186 := Nat.ne_of_lt (Nat.lt_of_lt_of_le (by have := World.block_lt_of_cell? _ _ hx187_0; first | rwa [add_block] at this | exact this) GW186.out); replace hx187_0 := (HB.out.cell (World.block_lt_of_cell? w _ hx187_0)).trans hx187_0; replace hx187_0 := (cell_far (p := ⟨gb186, 0, none⟩) (by first | (rw [add_block]; exact hn187_0) | (show (Addr.add _ _).block ≠ _; rw [add_block]; exact hn187_0) | exact hn187_0) (.string ((rd_T28 t181 x67_3).f0))).trans hx187_0; replace hx187_0 := (cell_far (p := ⟨gb186, 1, none⟩) (by first | (rw [add_block]; exact hn187_1) | (show (Addr.add _ _).block ≠ _; rw [add_block]; exact hn187_1) | exact hn187_1) (.int .i64 ((rd_T28 t181 x67_3).f1))).trans hx187_0; (try have hy187_0 := fun (n_ : Nat) => (show ((((w35.drewN n_).setCell ⟨gb186, 0, none⟩ (.string ((rd_T28 t181 x67_3).f0))).setCell ⟨gb186, 1, none⟩ (.int .i64 ((rd_T28 t181 x67_3).f1)))).cell? _ = some _ from hx187_0)); clear hn187_0; clear hn187_1; replace p187 := eq_true p187; replace q187 := eq_true q187)))
                                go_roundg k3
                                case measure => have := HK1.out; have := HJ23.out; have := HK3.out; omega
                                case rel => exact ⟨(wrap64 (x67_3 + 1)), (by first | rfl | (simp; done) | (simp [*]; done)), H', ⟨by have := HK1.out; have := HJ23.out; have := HK3.out; omega⟩, ⟨by (with_reducible repeat (first | apply Kd.R_alloc | apply Kd.R_drewN | apply Kd.R_drew)); exact Kd.R_mono (Kd.R_far (p := ⟨gb186, 1, none⟩) (Kd.R_far (p := ⟨gb186, 0, none⟩) (Kd.R_mono HO_65.out (fun k_ hk => (⟨hk, hk.2⟩ : _ ∧ k_ ≠ gb186))) (fun _ hk => hk.2) (.string ((rd_T28 t181 x67_3).f0))) (fun _ hk => hk.2) (.int .i64 ((rd_T28 t181 x67_3).f1))) (fun _ hk => trivial)⟩, ⟨by repeat (first | (with_reducible first | exact HB.out | apply below_alloc | apply pw_below_drewN | apply below_drew1 | refine below_set ?_ GE186.out) | exact HB.out)⟩⟩
                              · rw [if_neg c34] at H
                                have c34b0 : (((rd_T28 t181 x67_3).f0).toList == (rdOf ByteArray.empty l0 x67_3).toList) = false := beq_eq_false_iff_ne.mpr c34
                                have c34b1 : (((rd_T28 t181 x67_3).f0).toList != (rdOf ByteArray.empty l0 x67_3).toList) = true := bne_iff_ne.mpr c34
                                obtain rfl := Option.some.inj H
                                have p185 : 0 ≤ (x67_3 : Int) := of_decide_eq_true (by first | (with_reducible assumption) | assumption)
                                have q185 : x67_3 < (t181.length : Int) := of_decide_eq_true (by first | (with_reducible assumption) | assumption)
                                obtain ⟨ad185, e185, hx185_0, hx185_1⟩ := at_T28 (Kd.R_reads' HO_65.out).2.2 x67_3 p185 q185
                                cases e185
                                replace p185 := eq_true p185
                                replace q185 := eq_true q185
                                go_wp2_with (first | ((with_reducible refine gate_dst (N := 11) rfl ?_); (try (refine gate_guard (by rfl) ?_; dsimp only)); refine box_event ?hg (N := 11) ?hd (cs := #[.string (⟨#[]⟩ : ByteArray), .int .i64 0]) (t := 28) ?hr ?_; (case hd => rfl); (case hg => rfl); (case hr => first | (go_simp; done) | (go_simp; rfl)); intro gb186 hg w37 hbox hb; have n0_ := Aside0.mk (Kd.R_below (Kd.R_elderB (by (with_reducible repeat (first | apply Kd.R_alloc | apply Kd.R_drewN | apply Kd.R_drew)); exact HO_65.out) gb186 (Nat.le_of_eq hg.symm)) hb); have n1_ := Aside0.mk (below_step (by repeat (first | (with_reducible first | exact HB.out | apply below_alloc | apply pw_below_drewN | apply below_drew1) | exact HB.out)) hb); have n2_ := Aside0.mk (hbox); have n3_ := Aside0.mk ((by rw [hg]; exact (below_size (by repeat (first | (with_reducible first | exact HB.out | apply below_alloc | apply pw_below_drewN | apply below_drew1) | exact HB.out))) : w.heap.size ≤ gb186)); have n4_ := Aside0.mk ((by rw [hg]; exact (below_size (by repeat (first | (with_reducible first | exact HB.out | apply below_alloc | apply pw_below_drewN | apply below_drew1) | exact HB.out))) : w.heap.size ≤ gb186)); clear HO_65; clear HB; have HO_65 := n0_; have HB := n1_; have BK186 := n2_; have GW186 := n3_; have GE186 := n4_; clear n0_ n1_ n2_ n3_ n4_; clear hb hbox hg; have hcz38_0 : w37.cell? ⟨gb186, 0, none⟩ = some (.string (⟨#[]⟩ : ByteArray)) := (blk_cell BK186.out 0).trans rfl; have hcz38_1 : w37.cell? ⟨gb186, 1, none⟩ = some (.int .i64 0) := (blk_cell BK186.out 1).trans rfl; have hfz38_0 := blk_frozen BK186.out 0; have hfz38_1 := blk_frozen BK186.out 1; have p187 : 0 ≤ (x67_3 : Int) := of_decide_eq_true (by first | (with_reducible assumption) | assumption); have q187 : x67_3 < (l0.length : Int) := of_decide_eq_true (by first | (with_reducible assumption) | assumption); obtain ⟨ad187, e187, hx187_0⟩ := Kd.at_string HR0.out x67_3 p187 q187; cases e187; have hn187_0 : ad187.block ≠ gb186 := Nat.ne_of_lt (Nat.lt_of_lt_of_le (by have := World.block_lt_of_cell? _ _ hx187_0; first | rwa [add_block] at this | exact this) GW186.out); have hn187_1 : ad187.block ≠ gb186 := Nat.ne_of_lt (Nat.lt_of_lt_of_le (by have := World.block_lt_of_cell? _ _ hx187_0; first | rwa [add_block] at this | exact this) GW186.out); replace hx187_0 := (HB.out.cell (World.block_lt_of_cell? w _ hx187_0)).trans hx187_0; replace hx187_0 := (cell_far (p := ⟨gb186, 0, none⟩) (by first | (rw [add_block]; exact hn187_0) | (show (Addr.add _ _).block ≠ _; rw [add_block]; exact hn187_0) | exact hn187_0) (.string ((rd_T28 t181 x67_3).f0))).trans hx187_0; replace hx187_0 := (cell_far (p := ⟨gb186, 1, none⟩) (by first | (rw [add_block]; exact hn187_1) | (show (Addr.add _ _).block ≠ _; rw [add_block]; exact hn187_1) | exact hn187_1) (.int .i64 ((rd_T28 t181 x67_3).f1))).trans hx187_0; (try have hy187_0 := fun (n_ : Nat) => (show ((((w37.drewN n_).setCell ⟨gb186, 0, none⟩ (.string ((rd_T28 t181 x67_3).f0))).setCell ⟨gb186, 1, none⟩ (.int .i64 ((rd_T28 t181 x67_3).f1)))).cell? _ = some _ from hx187_0)); clear hn187_0; clear hn187_1; replace p187 := eq_true p187; replace q187 := eq_true q187))
                                repeat (go_quiet (first | ((with_reducible refine gate_dst (N := 11) rfl ?_); (try (refine gate_guard (by rfl) ?_; dsimp only)); refine box_event ?hg (N := 11) ?hd (cs := #[.string (⟨#[]⟩ : ByteArray), .int .i64 0]) (t := 28) ?hr ?_; (case hd => rfl); (case hg => rfl); (case hr => first | (go_simp; done) | (go_simp; rfl)); intro gb186 hg w37 hbox hb; have n0_ := Aside0.mk (Kd.R_below (Kd.R_elderB (by (with_reducible repeat (first | apply Kd.R_alloc | apply Kd.R_drewN | apply Kd.R_drew)); exact HO_65.out) gb186 (Nat.le_of_eq hg.symm)) hb); have n1_ := Aside0.mk (below_step (by repeat (first | (with_reducible first | exact HB.out | apply below_alloc | apply pw_below_drewN | apply below_drew1) | exact HB.out)) hb); have n2_ := Aside0.mk (hbox); have n3_ := Aside0.mk ((by rw [hg]; exact (below_size (by repeat (first | (with_reducible first | exact HB.out | apply below_alloc | apply pw_below_drewN | apply below_drew1) | exact HB.out))) : w.heap.size ≤ gb186)); have n4_ := Aside0.mk ((by rw [hg]; exact (below_size (by repeat (first | (with_reducible first | exact HB.out | apply below_alloc | apply pw_below_drewN | apply below_drew1) | exact HB.out))) : w.heap.size ≤ gb186)); clear HO_65; clear HB; have HO_65 := n0_; have HB := n1_; have BK186 := n2_; have GW186 := n3_; have GE186 := n4_; clear n0_ n1_ n2_ n3_ n4_; clear hb hbox hg; have hcz38_0 : w37.cell? ⟨gb186, 0, none⟩ = some (.string (⟨#[]⟩ : ByteArray)) := (blk_cell BK186.out 0).trans rfl; have hcz38_1 : w37.cell? ⟨gb186, 1, none⟩ = some (.int .i64 0) := (blk_cell BK186.out 1).trans rfl; have hfz38_0 := blk_frozen BK186.out 0; have hfz38_1 := blk_frozen BK186.out 1; have p187 : 0 ≤ (x67_3 : Int) := of_decide_eq_true (by first | (with_reducible assumption) | assumption); have q187 : x67_3 < (l0.length : Int) := of_decide_eq_true (by first | (with_reducible assumption) | assumption); obtain ⟨ad187, e187, hx187_0⟩ := Kd.at_string HR0.out x67_3 p187 q187; cases e187; have hn187_0 : ad187.block ≠ gb186 := Nat.ne_of_lt (Nat.lt_of_lt_of_le (by have := World.block_lt_of_cell? _ _ hx187_0; first | rwa [add_block] at this | exact this) GW186.out); have hn187_1 : ad187.block ≠ gb186 := Nat.ne_of_lt (Nat.lt_of_lt_of_le (by have := World.block_lt_of_cell? _ _ hx187_0; first | rwa [add_block] at this | exact this) GW186.out); replace hx187_0 := (HB.out.cell (World.block_lt_of_cell? w _ hx187_0)).trans hx187_0; replace hx187_0 := (cell_far (p := ⟨gb186, 0, none⟩) (by first | (rw [add_block]; exact hn187_0) | (show (Addr.add _ _).block ≠ _; rw [add_block]; exact hn187_0) | exact hn187_0) (.string ((rd_T28 t181 x67_3).f0))).trans hx187_0; replace hx187_0 := (cell_far (p := ⟨gb186, 1, none⟩) (by first | (rw [add_block]; exact hn187_1) | (show (Addr.add _ _).block ≠ _; rw [add_block]; exact hn187_1) | exact hn187_1) (.int .i64 ((rd_T28 t181 x67_3).f1))).trans hx187_0; (try have hy187_0 := fun (n_ : Nat) => (show ((((w37.drewN n_).setCell ⟨gb186, 0, none⟩ (.string ((rd_T28 t181 x67_3).f0))).setCell ⟨gb186, 1, none⟩ (.int .i64 ((rd_T28 t181 x67_3).f1)))).cell? _ = some _ from hx187_0)); clear hn187_0; clear hn187_1; replace p187 := eq_true p187; replace q187 := eq_true q187)); try go_wp2_with (first | ((with_reducible refine gate_dst (N := 11) rfl ?_); (try (refine gate_guard (by rfl) ?_; dsimp only)); refine box_event ?hg (N := 11) ?hd (cs := #[.string (⟨#[]⟩ : ByteArray), .int .i64 0]) (t := 28) ?hr ?_; (case hd => rfl); (case hg => rfl); (case hr => first | (go_simp; done) | (go_simp; rfl)); intro gb186 hg w37 hbox hb; have n0_ := Aside0.mk (Kd.R_below (Kd.R_elderB (by (with_reducible repeat (first | apply Kd.R_alloc | apply Kd.R_drewN | apply Kd.R_drew)); exact HO_65.out) gb186 (Nat.le_of_eq hg.symm)) hb); have n1_ := Aside0.mk (below_step (by repeat (first | (with_reducible first | exact HB.out | apply below_alloc | apply pw_below_drewN | apply below_drew1) | exact HB.out)) hb); have n2_ := Aside0.mk (hbox); have n3_ := Aside0.mk ((by rw [hg]; exact (below_size (by repeat (first | (with_reducible first | exact HB.out | apply below_alloc | apply pw_below_drewN | apply below_drew1) | exact HB.out))) : w.heap.size ≤ gb186)); have n4_ := Aside0.mk ((by rw [hg]; exact (below_size (by repeat (first | (with_reducible first | exact HB.out | apply below_alloc | apply pw_below_drewN | apply below_drew1) | exact HB.out))) : w.heap.size ≤ gb186)); clear HO_65; clear HB; have HO_65 := n0_; have HB := n1_; have BK186 := n2_; have GW186 := n3_; have GE186 := n4_; clear n0_ n1_ n2_ n3_ n4_; clear hb hbox hg; have hcz38_0 : w37.cell? ⟨gb186, 0, none⟩ = some (.string (⟨#[]⟩ : ByteArray)) := (blk_cell BK186.out 0).trans rfl; have hcz38_1 : w37.cell? ⟨gb186, 1, none⟩ = some (.int .i64 0) := (blk_cell BK186.out 1).trans rfl; have hfz38_0 := blk_frozen BK186.out 0; have hfz38_1 := blk_frozen BK186.out 1; have p187 : 0 ≤ (x67_3 : Int) := of_decide_eq_true (by first | (with_reducible assumption) | assumption); have q187 : x67_3 < (l0.length : Int) := of_decide_eq_true (by first | (with_reducible assumption) | assumption); obtain ⟨ad187, e187, hx187_0⟩ := Kd.at_string HR0.out x67_3 p187 q187; cases e187; have hn187_0 : ad187.block ≠ gb186 := Nat.ne_of_lt (Nat.lt_of_lt_of_le (by have := World.block_lt_of_cell? _ _ hx187_0; first | rwa [add_block] at this | exact this) GW186.out); have hn187_1 : ad187.block ≠ gb186 := Nat.ne_of_lt (Nat.lt_of_lt_of_le (by have := World.block_lt_of_cell? _ _ hx187_0; first | rwa [add_block] at this | exact this) GW186.out); replace hx187_0 := (HB.out.cell (World.block_lt_of_cell? w _ hx187_0)).trans hx187_0; replace hx187_0 := (cell_far (p := ⟨gb186, 0, none⟩) (by first | (rw [add_block]; exact hn187_0) | (show (Addr.add _ _).block ≠ _; rw [add_block]; exact hn187_0) | exact hn187_0) (.string ((rd_T28 t181 x67_3).f0))).trans hx187_0; replace hx187_0 := (cell_far (p := ⟨gb186, 1, none⟩) (by first | (rw [add_block]; exact hn187_1) | (show (Addr.add _ _).block ≠ _; rw [add_block]; exact hn187_1) | exact hn187_1) (.int .i64 ((rd_T28 t181 x67_3).f1))).trans hx187_0; (try have hy187_0 := fun (n_ : Nat) => (show ((((w37.drewN n_).setCell ⟨gb186, 0, none⟩ (.string ((rd_T28 t181 x67_3).f0))).setCell ⟨gb186, 1, none⟩ (.int .i64 ((rd_T28 t181 x67_3).f1)))).cell? _ = some _ from hx187_0)); clear hn187_0; clear hn187_1; replace p187 := eq_true p187; replace q187 := eq_true q187)))
                                go_ret
                                exact ⟨by first | rfl | (simp [errW_none, errW_some] <;> rfl) | (simp [*, errW_none, errW_some] <;> rfl), by repeat (first | (with_reducible first | exact HB.out | apply below_alloc | apply pw_below_drewN | apply below_drew1 | refine below_set ?_ GE186.out) | exact HB.out)⟩
                            · rw [if_neg c33] at H
                              exact absurd H (by simp)
                          · rw [if_neg c32] at H
                            exact absurd H (by simp)
                        · rw [if_neg c31] at H
                          exact absurd H (by simp)
                      · rw [if_neg c30] at H
                        have c30b0 : decide (x67_3 < (t181.length : Int)) = false := decide_eq_false c30
                        clear c30
                        obtain rfl := Option.some.inj H
                        go_wp2
                        repeat (go_quiet (fail); try go_wp2)
                        go_ret
                        exact ⟨by first | rfl | (simp [errW_none, errW_some] <;> rfl) | (simp [*, errW_none, errW_some] <;> rfl), by repeat (first | (with_reducible first | exact HB.out | apply below_alloc | apply pw_below_drewN | apply below_drew1) | exact HB.out)⟩
  · replace c4 := Bool.eq_false_iff.mpr c4
    subst c4
    have H1 : (some true) = some r := by rw [if_neg (show ¬ (false = true) by decide)] at H; exact H
    clear H
    have H := H1
    clear H1
    obtain rfl := Option.some.inj H
    go_enter Tryf.func4, Tryf.ntmps4
    go_wp2_with (first | (go_at_call 7; (with_reducible refine (laws_zzFits1.calls k _ _ l0 false _ ?side1 ?side2 A3.out).mono ?_); (case side1 => repeat (first | exact HR0.out | (with_reducible refine Kd.C_alloc ?_ _) | (with_reducible refine Kd.C_drewN ?_ _) | (with_reducible refine Kd.C_drew ?_))); (case side2 => exact HC0.out); rintro e w' ⟨rfl, ⟨nd, rfl⟩⟩; (try first | exact ⟨rfl, _, World.drewN_drewN _ _ _⟩ | exact ⟨rfl, _, Eq.trans (World.drewN_drewN _ _ _) (congrArg (World.drewN _) (Nat.add_assoc _ _ _))⟩)))
    repeat (go_quiet (first | (go_at_call 7; (with_reducible refine (laws_zzFits1.calls k _ _ l0 false _ ?side1 ?side2 A3.out).mono ?_); (case side1 => repeat (first | exact HR0.out | (with_reducible refine Kd.C_alloc ?_ _) | (with_reducible refine Kd.C_drewN ?_ _) | (with_reducible refine Kd.C_drew ?_))); (case side2 => exact HC0.out); rintro e w' ⟨rfl, ⟨nd, rfl⟩⟩; (try first | exact ⟨rfl, _, World.drewN_drewN _ _ _⟩ | exact ⟨rfl, _, Eq.trans (World.drewN_drewN _ _ _) (congrArg (World.drewN _) (Nat.add_assoc _ _ _))⟩))); try go_wp2_with (first | (go_at_call 7; (with_reducible refine (laws_zzFits1.calls k _ _ l0 false _ ?side1 ?side2 A3.out).mono ?_); (case side1 => repeat (first | exact HR0.out | (with_reducible refine Kd.C_alloc ?_ _) | (with_reducible refine Kd.C_drewN ?_ _) | (with_reducible refine Kd.C_drew ?_))); (case side2 => exact HC0.out); rintro e w' ⟨rfl, ⟨nd, rfl⟩⟩; (try first | exact ⟨rfl, _, World.drewN_drewN _ _ _⟩ | exact ⟨rfl, _, Eq.trans (World.drewN_drewN _ _ _) (congrArg (World.drewN _) (Nat.add_assoc _ _ _))⟩))))
    go_ret
    exact ⟨by first | rfl | (simp [errW_none, errW_some] <;> rfl) | (simp [*, errW_none, errW_some] <;> rfl), by repeat (first | (with_reducible first | exact HB.out | apply below_alloc | apply pw_below_drewN | apply below_drew1) | exact HB.out)⟩

end Go.Proofs.YtcjiafjahfmdoaaFmt.A
