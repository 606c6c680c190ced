/- impl.Unparened at trees of expressions: it takes the parentheses away, and nothing else. -/
import Derived.Test.YtdcaabjkklppjaaGreatDoorGUnp
import Derived.Test.YtdcaabjkklppjaaGreatDoorGEq
namespace Go.Proofs.YtdcaabjkklppjaaGreatDoor.A
open Go.RowKit Go.Proofs.YtdcaabjkklppjaaGreatDoorW.PrintWords Go.Proofs.YtdcaabjkklppjaaGreatDoorW.PrintLast Go.Proofs.YtdcaabjkklppjaaGreatDoorW.PrintMore
set_option linter.unusedVariables false
set_option linter.unusedSimpArgs false
attribute [local go_sem ↓] Go.wp_at_zero Go.wp_at_succ

theorem parens_le : ∀ (D : Nat) (n : S24), parens D n ≤ D
  | 0, _ => Nat.le_refl _
  | D + 1, n => by
    unfold parens
    split
    · exact Nat.succ_le_succ (parens_le D _)
    · exact Nat.zero_le _

theorem bin_ne (T : Nat) (hT : ¬ T = 35) (b e : Nat) (w : World) : (binOp .neq 32 (.iface 35 (.pointer (some ⟨b, 0, none⟩))) (.iface T (.pointer (some ⟨e, 0, none⟩)))).run Tryz.prog w = .ok (.bool true) w := by
  have h1 := Tryz.underlying32
  have h := eqd_ne 9998 T hT b e w
  have h0 : Op.equal 32 (.iface 35 (.pointer (some ⟨b, 0, none⟩))) (.iface T (.pointer (some ⟨e, 0, none⟩))) = Op.equalIn (9998 + 2) 32 (.iface 35 (.pointer (some ⟨b, 0, none⟩))) (.iface T (.pointer (some ⟨e, 0, none⟩))) := rfl
  unfold binOp
  go_simp
theorem bin_same {T : Nat} (hT : OkT T) (b : Nat) (w : World) : (binOp .neq 32 (.iface T (.pointer (some ⟨b, 0, none⟩))) (.iface T (.pointer (some ⟨b, 0, none⟩)))).run Tryz.prog w = .ok (.bool false) w := by
  have h1 := Tryz.underlying32
  have h := eqd_same hT 9998 b w
  have h0 : Op.equal 32 (.iface T (.pointer (some ⟨b, 0, none⟩))) (.iface T (.pointer (some ⟨b, 0, none⟩))) = Op.equalIn (9998 + 2) 32 (.iface T (.pointer (some ⟨b, 0, none⟩))) (.iface T (.pointer (some ⟨b, 0, none⟩))) := rfl
  unfold binOp
  go_simp

set_option maxHeartbeats 1000000 in
set_option maxRecDepth 100000 in
theorem unparened_any (S : Nat → ByteArray) (D : Nat) (hD : D ≤ 1000) (n : S24) (A : Option Addr) (c : Nat) (w : World) (hg : Good S D n) (hr : Kd.C k24 w A n.f2.length n.f2) (hc : n.f2.length ≤ c) (hT : TokTab S w) :
    Calls Tryz.prog 6 #[.agg #[.string n.f0, .string n.f1, .slice A n.f2.length c]] w fun e w' => e = .returned (.tuple #[.int .i64 (parens D n : Int), .bool true]) ∧ Below w.heap.size w w' := by
  have HG := Aside0.mk hg
  have HR := Aside0.mk hr
  have HC := Aside0.mk hc
  have HTT := Aside0.mk hT
  have HB := Aside0.mk (Below.refl w.heap.size w)
  have hple := parens_le D n
  have HAL : Aside0 (∀ o : Obj, Below w.heap.size w (w.alloc o)) := ⟨fun o => (Below.refl _ _).alloc (Nat.le_refl _) o⟩
  clear hg hr hc hT
  go_enter Tryz.func6, Tryz.ntmps6
  go_wp2_with (first
    | (go_at_call 10; refine (expr_all S D n A c _ HG.out ?h1 HC.out ?h2).mono ?_; (case h1 => exact Kd.C_below HR.out (HAL.out _)); (case h2 => exact HTT.out.below (HAL.out _)); rintro e w1 ⟨v, rfl, hch, hb1⟩; obtain ⟨T, e', hOK, hP⟩ := hch.par; have HP := Aside0.mk hP; have HOK := Aside0.mk hOK; have HB1 := Aside0.mk ((HAL.out _).trans (hb1.mono (HAL.out _).size)); obtain ⟨U, b', rfl⟩ := hP.form; clear hP hOK hb1 hch)
    | (go_at_call 11; refine (unparen_any _ _ T e' _ HOK.out HP.out).mono ?_; rintro r w2 ⟨rfl, rfl⟩))
  have hne : ¬ T = 35 := fun e => by have h := HOK.out; rw [e] at h; revert h; decide
  go_loopg [4, 5] (parens D n) (fun kq v4 v5 w' => ∃ i : Nat, v5 = .int .i64 (i : Int) ∧ Hid (kq + i = parens D n) ∧ Aside0 (Par w2 kq v4 T e') ∧ w' = w2)
  case atStart => exact ⟨0, rfl, Nat.add_zero _, HP, rfl⟩
  case round =>
    obtain ⟨i, rfl, HM, HQ, rfl⟩ := hrel
    have e1 := fun b w => bin_same HOK.out b w
    have e2 := fun b e w => bin_ne T hne b e w
    have hi : (i : Int) + 1 < 9223372036854775808 := by have := HM.out; omega
    have hty := ta_yes
    rcases HQ.out with ⟨_, _, h35⟩ | ⟨j', b, v', _, _, hcell, hP⟩
    · have hip : i = parens D n := by have := HM.out; omega
      subst hip
      go_wp2
      go_ret2
      exact ⟨rfl, HB1.out⟩
    · obtain ⟨U, b2, rfl⟩ := hP.form
      have HP' := Aside0.mk hP
      clear hP
      go_wp2
      go_roundg j'
      case measure => omega
      case rel => exact ⟨i + 1, by go_num, by have := HM.out; show _ = _; omega, HP', rfl⟩
end Go.Proofs.YtdcaabjkklppjaaGreatDoor.A
