/- ast.Unparen and impl.Unparened at trees of expressions. -/
import Derived.Test.YtdcaabjkklppjaaGreatDoorGTreef
namespace Go.Proofs.YtdcaabjkklppjaaGreatDoor.A
open Go.RowKit Go.Proofs.YtdcaabjkklppjaaGreatDoorW.PrintWords Go.Proofs.YtdcaabjkklppjaaGreatDoorW.PrintLast Go.Proofs.YtdcaabjkklppjaaGreatDoorW.PrintMore
set_option linter.unusedVariables false
set_option linter.unusedSimpArgs false
attribute [local go_sem ↓] Go.wp_at_zero Go.wp_at_succ

/-- Parentheses j times, and an end without. -/
inductive Par (W : World) : Nat → Value → Nat → Nat → Prop
  | stop (T b : Nat) (h : OkT T) : Par W 0 (.iface T (.pointer (some ⟨b, 0, none⟩))) T b
  | step (j b : Nat) (v : Value) (T e : Nat) (hc : W.cell? ⟨b, 1, none⟩ = some v) (h : Par W j v T e) : Par W (j + 1) (.iface 35 (.pointer (some ⟨b, 0, none⟩))) T e

/-- How many parentheses stand around a node. -/
def parens : Nat → S24 → Nat
  | 0, _ => 0
  | D + 1, n => if n.f0 = bParen then parens D (rd_T24 n.f2 ((0 : Nat) : Int)) + 1 else 0

theorem Chain.par {W : World} : ∀ {D : Nat} {n : S24} {v : Value}, Chain W D n v → ∃ T e, OkT T ∧ Par W (parens D n) v T e
  | 0, _, _, h => h.elim
  | D + 1, n, v, h => by
    unfold Chain at h
    unfold parens
    split at h
    · rename_i hp
      obtain ⟨b, v', rfl, h1, h2⟩ := h
      obtain ⟨T, e, hT, hP⟩ := Chain.par h2
      rw [if_pos hp]
      exact ⟨T, e, hT, .step _ b v' T e h1 hP⟩
    · rename_i hp
      obtain ⟨T, b, rfl, hT⟩ := h
      rw [if_neg hp]
      exact ⟨T, b, hT, .stop T b hT⟩
theorem Par.form {W : World} {j : Nat} {v : Value} {T e : Nat} (h : Par W j v T e) : ∃ U b, v = .iface U (.pointer (some ⟨b, 0, none⟩)) := by
  cases h with
  | stop _ _ _ => exact ⟨_, _, rfl⟩
  | step _ b v' _ _ _ _ => exact ⟨_, _, rfl⟩

theorem zero35 (w : World) : (zeroValue 35).run Tryz.prog w = .ok (.pointer none) w := by kernel_rfl
theorem ta_no (T : Nat) (hT : ¬ T = 35) (a : Addr) (w : World) : (Instr.typeAssert (.iface T (.pointer (some a))) 32 35 true).run Tryz.prog w = .ok (.tuple #[.pointer none, .bool false]) w := by
  have h1 := Tryz.underlying35
  have h2 := zero35 w
  unfold Instr.typeAssert
  go_simp
theorem ta_yes (a : Addr) (w : World) : (Instr.typeAssert (.iface 35 (.pointer (some a))) 32 35 true).run Tryz.prog w = .ok (.tuple #[.pointer (some a), .bool true]) w := by kernel_rfl

set_option maxHeartbeats 1000000 in
set_option maxRecDepth 100000 in
theorem unparen_any (j : Nat) (v : Value) (T e : Nat) (w : World) (hT : OkT T) (h : Par w j v T e) :
    Calls Tryz.prog 11 #[v] w fun r w' => r = .returned (.iface T (.pointer (some ⟨e, 0, none⟩))) ∧ w' = w := by
  have HP := Aside0.mk h
  have hta := ta_no T (fun e => by rw [e] at hT; revert hT; decide)
  have hty := ta_yes
  clear h
  go_enter Tryz.func11, Tryz.ntmps11
  go_wp2
  go_loopg [0] j (fun kq v0 w' => Aside0 (Par w kq v0 T e) ∧ w' = w)
  case atStart => exact ⟨HP, rfl⟩
  case round =>
    obtain ⟨HQ, rfl⟩ := hrel
    rcases HQ.out with ⟨_, _, h35⟩ | ⟨j', b, v', _, _, hc, hP⟩
    · go_wp2
      go_ret
      exact ⟨rfl, rfl⟩
    · obtain ⟨U, b', rfl⟩ := hP.form
      have HP' := Aside0.mk hP
      clear hP
      go_wp2
      go_roundg j'
      case measure => omega
      case rel => exact ⟨HP', rfl⟩
end Go.Proofs.YtdcaabjkklppjaaGreatDoor.A
