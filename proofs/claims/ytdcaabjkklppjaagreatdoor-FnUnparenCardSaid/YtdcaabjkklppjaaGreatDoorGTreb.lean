/- impl.exprOf at unary operators. -/
import Derived.Test.YtdcaabjkklppjaaGreatDoorGTree
import Derived.Test.YtdcaabjkklppjaaGreatDoorGTrea
namespace Go.Proofs.YtdcaabjkklppjaaGreatDoor.A
open Go.RowKit Go.Proofs.YtdcaabjkklppjaaGreatDoorW.PrintWords Go.Proofs.YtdcaabjkklppjaaGreatDoorW.PrintLast Go.Proofs.YtdcaabjkklppjaaGreatDoorW.PrintMore
set_option linter.unusedVariables false
set_option linter.unusedSimpArgs false
attribute [local go_sem ↓] Go.wp_at_zero Go.wp_at_succ



theorem OpText.call {S : Nat → ByteArray} {s : ByteArray} (h : OpText S s) (w : World) (hT : TokTab S w) :
    Calls Tryz.prog 19 #[.string s] w fun e w' => ∃ t : Int, e = .returned (.int .i64 t) ∧ w' = w := by
  obtain ⟨j, h1, h2, rfl, h3⟩ := h
  exact tokenOf_any S j h1 h2 h3 w hT

set_option maxHeartbeats 2000000 in
set_option maxRecDepth 100000 in
theorem expr_un (S : Nat → ByteArray) (D : Nat) (IH : ExprC S D) (t : ByteArray) (A : Option Addr) (c : Nat) (kids : List S24) (w : World) (hop : OpText S t) (hs : ¬ t.toList = ([42] : List UInt8)) (hlen : kids.length = 1) (hg : Good S D (rd_T24 kids ((0 : Nat) : Int))) (hr : Kd.C k24 w A kids.length kids) (hc : kids.length ≤ c) (hT : TokTab S w) :
    Calls Tryz.prog 10 #[.agg #[.string bUn, .string t, .slice A kids.length c]] w fun e w' => ∃ b, e = .returned (.iface 79 (.pointer (some ⟨b, 0, none⟩))) ∧ Below w.heap.size w w' := by
  have HG0 := Aside0.mk hg
  have HOP := Aside0.mk hop
  have hsb : (t.toList == ([42] : List UInt8)) = false := beq_eq_false_iff_ne.2 hs
  obtain ⟨ad, A2, c2, eA, hK, hl2, hi2⟩ := kid_at hr 0 (by omega)
  cases eA
  have e0 : ad.add (0 * 3) = ad := by cases ad; rfl
  rw [e0] at hK
  obtain ⟨bk, o, sp⟩ := ad
  obtain rfl : sp = none := cell_spot hK.1
  clear e0
  have HL := Aside0.mk hl2
  clear hl2 hr hg hop hs
  rw [hlen]
  unfold bUn
  have hb0 : Below w.heap.size w (w.alloc (.cells #[.string ⟨#[117, 110, 97, 114, 121]⟩, .string t, .slice (some ⟨bk, o, none⟩) 1 c] 24)) := (Below.refl w.heap.size w).alloc (Nat.le_refl _) _
  have hL0 := lies_new w ⟨#[117, 110, 97, 114, 121]⟩ t (.slice (some ⟨bk, o, none⟩) 1 c)
  have HB0 := Aside0.mk hb0
  have HI := Aside0.mk (Kd.C_below hi2 hb0)
  have HT := Aside0.mk (hT.below hb0)
  have HK0 := Aside0.mk (hK.below hb0)
  have HL0 := Aside0.mk hL0
  clear hi2 hT hK hL0 hb0
  go_enter Tryz.func10, Tryz.ntmps10
  go_wp2
  generalize w.alloc (.cells #[.string ⟨#[117, 110, 97, 114, 121]⟩, .string t, .slice (some ⟨bk, o, none⟩) 1 c] 24) = W0 at HB0 HI HT HK0 HL0 ⊢
  obtain ⟨p0, p1, p2⟩ := HL0.out
  obtain ⟨q0, q1, q2⟩ := HK0.out
  have HD := Aside0.mk (below_drew (Below.refl W0.heap.size W0))
  have HId := Aside0.mk (Kd.C_below HI.out HD.out)
  have HTd := Aside0.mk (HT.out.below HD.out)
  go_region_with (first
    | (go_at_call 19; refine (HOP.out.call _ ?h0).mono ?_; (case h0 => exact HTd.out); rintro e w1 ⟨z, rfl, rfl⟩)
    | (go_at_call 10; refine (IH _ _ _ _ HG0.out ?h1 HL.out ?h2).mono ?_; (case h1 => exact HId.out); (case h2 => exact HTd.out); rintro e w1 ⟨v1, rfl, hch, hb1⟩; obtain ⟨T1, b1, rfl⟩ := hch.form; have HB1 := Aside0.mk (HD.out.trans hb1); clear hb1 hch))
  all_goals
    go_wp2_with fail
    go_ret
    have h1 := HB0.out.trans (HB1.out.mono HB0.out.size)
    exact ⟨_, rfl, h1.alloc h1.size _⟩
end Go.Proofs.YtdcaabjkklppjaaGreatDoor.A
