/- impl.exprOf at calls. -/
import Derived.Test.YtdcaabjkklppjaaGreatDoorGTree
import Derived.Test.YtdcaabjkklppjaaGreatDoorGTred
namespace Go.Proofs.YtdcaabjkklppjaaGreatDoor.A
open Go.RowKit Go.Proofs.YtdcaabjkklppjaaGreatDoorW.PrintWords Go.Proofs.YtdcaabjkklppjaaGreatDoorW.PrintLast Go.Proofs.YtdcaabjkklppjaaGreatDoorW.PrintMore
set_option linter.unusedVariables false
set_option linter.unusedSimpArgs false
attribute [local go_sem ↓] Go.wp_at_zero Go.wp_at_succ




set_option maxHeartbeats 2000000 in
set_option maxRecDepth 100000 in
theorem expr_call (S : Nat → ByteArray) (D : Nat) (IH : ExprC S D) (t : ByteArray) (A : Option Addr) (c : Nat) (kids : List S24) (w : World) (h1n : 1 ≤ kids.length) (hmax : kids.length ≤ 1000000) (hg : ∀ i : Nat, i < kids.length → Good S D (rd_T24 kids (i : Int))) (hr : Kd.C k24 w A kids.length kids) (hc : kids.length ≤ c) (hT : TokTab S w) :
    Calls Tryz.prog 10 #[.agg #[.string bCall, .string t, .slice A kids.length c]] w fun e w' => ∃ b, e = .returned (.iface 87 (.pointer (some ⟨b, 0, none⟩))) ∧ Below w.heap.size w w' := by
  have HG0 := Aside0.mk (hg 0 (by omega))
  have hdr : ∀ i : Nat, i < (kids.drop 1).length → Good S D (rd_T24 (kids.drop 1) (i : Int)) := by
    intro i hi
    rw [List.length_drop] at hi
    have := hg (i + 1) (by omega)
    have e : rd_T24 (kids.drop 1) (i : Int) = rd_T24 kids ((i + 1 : Nat) : Int) := by
      unfold rd_T24
      rw [Int.toNat_natCast, Int.toNat_natCast, List.getD_eq_getElem?_getD, List.getD_eq_getElem?_getD, List.getElem?_drop, Nat.add_comm 1 i]
    rw [e]
    exact this
  obtain ⟨ad, A2, c2, eA, hK, hl2, hi2⟩ := kid_at hr 0 (by omega)
  cases eA
  have e0 : ad.add (0 * 3) = ad := by cases ad; rfl
  rw [e0] at hK
  obtain ⟨bk, o, sp⟩ := ad
  obtain rfl : sp = none := cell_spot hK.1
  clear e0
  have hCd := Kd.C_drop hr h1n hc
  have hX : ∀ (W : World), Below w.heap.size w W → Calls Tryz.prog 16 #[.slice (if c = 1 then some ⟨bk, o, none⟩ else some ⟨bk, o + 3, none⟩) (kids.length - 1) (c - 1)] W fun e w' => ∃ A' n c', e = .returned (.slice A' n c') ∧ Below W.heap.size W w' := by
    intro W hb
    have := exprs_any S D IH _ (c - 1) (kids.drop 1) W (by rw [List.length_drop]; omega) hdr (Kd.C_below hCd hb) (hT.below hb)
    rw [List.length_drop] at this
    exact this
  obtain ⟨As, hif⟩ : ∃ As : Addr, (if c = 1 then some (⟨bk, o, none⟩ : Addr) else some ⟨bk, o + 3, none⟩) = some As := by
    split
    · exact ⟨_, rfl⟩
    · exact ⟨_, rfl⟩
  rw [hif] at hX
  have HX := Aside0.mk hX
  have HL := Aside0.mk hl2
  have hlt : (0 : Int) < (kids.length : Int) := by omega
  have hle : (1 : Int) ≤ (kids.length : Int) := by omega
  clear hl2 hr hg hdr hCd hX
  unfold bCall
  have hb0 : Below w.heap.size w (w.alloc (.cells #[.string ⟨#[99, 97, 108, 108]⟩, .string t, .slice (some ⟨bk, o, none⟩) kids.length c] 24)) := (Below.refl w.heap.size w).alloc (Nat.le_refl _) _
  have hL0 := lies_new w ⟨#[99, 97, 108, 108]⟩ t (.slice (some ⟨bk, o, none⟩) kids.length c)
  have HB0 := Aside0.mk hb0
  have HI := Aside0.mk (Kd.C_below hi2 hb0)
  have HT := Aside0.mk (hT.below hb0)
  have HK0 := Aside0.mk (hK.below hb0)
  have HL0 := Aside0.mk hL0
  clear hi2 hT hK hL0 hb0
  go_enter Tryz.func10, Tryz.ntmps10
  go_wp2
  generalize w.alloc (.cells #[.string ⟨#[99, 97, 108, 108]⟩, .string t, .slice (some ⟨bk, o, none⟩) kids.length c] 24) = W0 at HB0 HI HT HK0 HL0 ⊢
  obtain ⟨p0, p1, p2⟩ := HL0.out
  obtain ⟨q0, q1, q2⟩ := HK0.out
  have HD := Aside0.mk (below_drew (Below.refl W0.heap.size W0))
  have HId := Aside0.mk (Kd.C_below HI.out HD.out)
  have HTd := Aside0.mk (HT.out.below HD.out)
  go_region_with (first
    | (go_at_call 10; refine (IH _ _ _ _ HG0.out ?h1 HL.out ?h2).mono ?_; (case h1 => exact HId.out); (case h2 => exact HTd.out); rintro e w1 ⟨v1, rfl, hch, hb1⟩; obtain ⟨T1, b1, rfl⟩ := hch.form; obtain ⟨r0, r1, r2⟩ := HL0.out.below (HD.out.trans hb1); have HB1 := Aside0.mk (HB0.out.trans ((HD.out.trans hb1).mono HB0.out.size)); have HL1 := Aside0.mk (HL0.out.below (HD.out.trans hb1)); clear hb1 hch)
    | (go_at_call 16; refine (HX.out _ ?h0).mono ?_; (case h0 => exact HB1.out); rintro e w2 ⟨A', n', c', rfl, hb2⟩; obtain ⟨x0, x1, x2⟩ := HL1.out.below hb2; have HB2 := Aside0.mk (HB1.out.trans (hb2.mono HB1.out.size)); clear hb2))
  all_goals
    have y1 := fun o => (((Below.refl w2.heap.size w2).alloc (Nat.le_refl _) o).cell (World.block_lt_of_cell? w2 _ x1)).trans x1
    cases htb : (t.toList == ([46, 46, 46] : List UInt8))
    · go_wp2_with fail
      go_ret
      exact ⟨_, rfl, HB2.out.alloc HB2.out.size _⟩
    · go_wp2_with fail
      go_ret
      exact ⟨_, rfl, HB2.out.alloc HB2.out.size _⟩
end Go.Proofs.YtdcaabjkklppjaaGreatDoor.A
