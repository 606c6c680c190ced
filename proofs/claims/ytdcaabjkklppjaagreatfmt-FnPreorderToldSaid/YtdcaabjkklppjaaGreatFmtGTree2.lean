/- impl.exprOf at calls. -/
import Derived.Test.YtdcaabjkklppjaaGreatFmtGTree
import Derived.Test.YtdcaabjkklppjaaGreatFmtGTred
namespace Go.Proofs.YtdcaabjkklppjaaGreatFmt.A
open Go.RowKit Go.Proofs.YtdcaabjkklppjaaGreatFmtW.PrintWords Go.Proofs.YtdcaabjkklppjaaGreatFmtW.PrintLast Go.Proofs.YtdcaabjkklppjaaGreatFmtW.PrintMore
set_option linter.unusedVariables false
set_option linter.unusedSimpArgs false
attribute [local go_sem ↓] Go.wp_at_zero Go.wp_at_succ




set_option maxHeartbeats 2000000 in
set_option maxRecDepth 100000 in
theorem expr_call (S : Nat → ByteArray) (D : Nat) (IH : ExprC S D) (t : ByteArray) (A : Option Addr) (c : Nat) (kids : List S24) (w : World) (h1n : 1 ≤ kids.length) (hmax : kids.length ≤ 1000000) (hg : ∀ i : Nat, i < kids.length → Good S D (rd_T24 kids (i : Int))) (hr : Kd.C k24 w A kids.length kids) (hc : kids.length ≤ c) (hT : TokTab S w) :
    Calls Tryz.prog 33 #[.agg #[.string bCall, .string t, .slice A kids.length c]] w fun e w' => ∃ v, e = .returned v ∧ Tree (From w.heap.size) w' (D + 1) ⟨bCall, t, kids⟩ v ∧ Below w.heap.size w w' := by
  have HN : ∀ x, (⟨bCall, t, kids⟩ : S24) = x → x.f0 = bCall ∧ x.f1 = t ∧ x.f2 = kids := fun x e => by rw [← e]; exact ⟨rfl, rfl, rfl⟩
  generalize (⟨bCall, t, kids⟩ : S24) = nn at HN ⊢
  obtain ⟨HN0, HN1, HN2⟩ := HN _ rfl
  have HN0 := Aside0.mk HN0
  have HN1 := Aside0.mk HN1
  have HN2 := Aside0.mk HN2
  have HLN := Aside0.mk h1n
  clear HN
  have HG0 := Aside0.mk (hg 0 (by omega))
  have hdE : ∀ i : Nat, rd_T24 (kids.drop 1) (i : Int) = rd_T24 kids ((i + 1 : Nat) : Int) := by
    intro i
    unfold rd_T24
    rw [Int.toNat_natCast, Int.toNat_natCast, List.getD_eq_getElem?_getD, List.getD_eq_getElem?_getD, List.getElem?_drop, Nat.add_comm 1 i]
  have hdr : ∀ i : Nat, i < (kids.drop 1).length → Good S D (rd_T24 (kids.drop 1) (i : Int)) := by
    intro i hi
    rw [List.length_drop] at hi
    have := hg (i + 1) (by omega)
    have e : rd_T24 (kids.drop 1) (i : Int) = rd_T24 kids ((i + 1 : Nat) : Int) := by
      unfold rd_T24
      rw [Int.toNat_natCast, Int.toNat_natCast, List.getD_eq_getElem?_getD, List.getD_eq_getElem?_getD, List.getElem?_drop, Nat.add_comm 1 i]
    rw [e]
    exact this
  obtain ⟨ad, A2, c2, eA, hK, hl2, hi2⟩ := kid_at hr 0 (by omega)
  cases eA
  have e0 : ad.add (0 * 3) = ad := by cases ad; rfl
  rw [e0] at hK
  obtain ⟨bk, o, sp⟩ := ad
  obtain rfl : sp = none := cell_spot hK.1
  clear e0
  have hCd := Kd.C_drop hr h1n hc
  have hX : ∀ (W : World), Below w.heap.size w W → Calls Tryz.prog 48 #[.slice (if c = 1 then some ⟨bk, o, none⟩ else some ⟨bk, o + 3, none⟩) (kids.length - 1) (c - 1)] W fun e w' => ∃ A' c', e = .returned (.slice A' (kids.length - 1) c') ∧ (∀ i : Nat, i + 1 < kids.length → ∃ a v1, A' = some a ∧ W.heap.size ≤ (a.add i).block ∧ w'.cell? (a.add i) = some v1 ∧ Tree (From W.heap.size) w' D (rd_T24 kids ((i + 1 : Nat) : Int)) v1) ∧ Below W.heap.size W w' := by
    intro W hb
    have := exprs_any S D IH _ (c - 1) (kids.drop 1) W (by rw [List.length_drop]; omega) hdr (Kd.C_below hCd hb) (hT.below hb)
    rw [List.length_drop] at this
    refine this.mono ?_
    rintro e w' ⟨A', c', h1, h2, h3⟩
    refine ⟨A', c', h1, fun i hi => ?_, h3⟩
    have h2 := h2 i (by omega)
    rw [hdE] at h2
    exact h2
  obtain ⟨As, hif⟩ : ∃ As : Addr, (if c = 1 then some (⟨bk, o, none⟩ : Addr) else some ⟨bk, o + 3, none⟩) = some As := by
    split
    · exact ⟨_, rfl⟩
    · exact ⟨_, rfl⟩
  rw [hif] at hX
  have HX := Aside0.mk hX
  have HL := Aside0.mk hl2
  have hlt : (0 : Int) < (kids.length : Int) := by omega
  have hle : (1 : Int) ≤ (kids.length : Int) := by omega
  clear hl2 hr hg hdr hCd hX
  unfold bCall
  have hb0 : Below w.heap.size w (w.alloc (.cells #[.string ⟨#[99, 97, 108, 108]⟩, .string t, .slice (some ⟨bk, o, none⟩) kids.length c] 24)) := (Below.refl w.heap.size w).alloc (Nat.le_refl _) _
  have hL0 := lies_new w ⟨#[99, 97, 108, 108]⟩ t (.slice (some ⟨bk, o, none⟩) kids.length c)
  have HB0 := Aside0.mk hb0
  have HI := Aside0.mk (Kd.C_below hi2 hb0)
  have HT := Aside0.mk (hT.below hb0)
  have HK0 := Aside0.mk (hK.below hb0)
  have HL0 := Aside0.mk hL0
  clear hi2 hT hK hL0 hb0
  go_enter Tryz.func33, Tryz.ntmps33
  go_wp2
  generalize w.alloc (.cells #[.string ⟨#[99, 97, 108, 108]⟩, .string t, .slice (some ⟨bk, o, none⟩) kids.length c] 24) = W0 at HB0 HI HT HK0 HL0 ⊢
  obtain ⟨p0, p1, p2⟩ := HL0.out
  obtain ⟨q0, q1, q2⟩ := HK0.out
  have HD := Aside0.mk (below_drew (Below.refl W0.heap.size W0))
  have HId := Aside0.mk (Kd.C_below HI.out HD.out)
  have HTd := Aside0.mk (HT.out.below HD.out)
  go_region_with (first
    | (go_at_call 33; refine (IH _ _ _ _ HG0.out ?h1 HL.out ?h2).mono ?_; (case h1 => exact HId.out); (case h2 => exact HTd.out); rintro e w1 ⟨v1, rfl, hch, hb1⟩; obtain ⟨T1, b1, rfl⟩ := hch.form; obtain ⟨r0, r1, r2⟩ := HL0.out.below (HD.out.trans hb1); have HB1 := Aside0.mk (HB0.out.trans ((HD.out.trans hb1).mono HB0.out.size)); have HL1 := Aside0.mk (HL0.out.below (HD.out.trans hb1)); have HC1 := Aside0.mk (hch.from_ (Nat.le_trans HB0.out.size HD.out.size)); clear hb1 hch)
    | (go_at_call 48; refine (HX.out _ ?h0).mono ?_; (case h0 => exact HB1.out); rintro e w2 ⟨A', c', rfl, hxs, hb2⟩; have HXS := Aside0.mk hxs; have HBB := Aside0.mk hb2; obtain ⟨x0, x1, x2⟩ := HL1.out.below hb2; have HB2 := Aside0.mk (HB1.out.trans (hb2.mono HB1.out.size)); clear hb2 hxs))
  all_goals
    have y1 := fun o => (((Below.refl w2.heap.size w2).alloc (Nat.le_refl _) o).cell (World.block_lt_of_cell? w2 _ x1)).trans x1
    cases htb : (t.toList == ([46, 46, 46] : List UInt8))
    · go_wp2_with fail
      go_ret
      refine ⟨_, rfl, ?_, HB2.out.alloc HB2.out.size _⟩
      unfold Tree
      rw [HN2.out]
      exact .inr (.inr (.inr (.inr (.inr (.inr (.inr ⟨HN0.out, HLN.out, _, _, _, _, rfl, HB2.out.size, (blk_cell (heap_alloc_new w2 _) 0).trans rfl, (blk_cell (heap_alloc_new w2 _) 2).trans rfl, (HC1.out.below HBB.out).al _, fun i hi => by
        obtain ⟨a, v1, e1, e2, e3, e4⟩ := HXS.out i hi
        exact ⟨a, v1, e1, Nat.le_trans HB1.out.size e2, al_ e3 _, (e4.from_ HB1.out.size).al _⟩⟩))))))
    · go_wp2_with fail
      go_ret
      refine ⟨_, rfl, ?_, HB2.out.alloc HB2.out.size _⟩
      unfold Tree
      rw [HN2.out]
      exact .inr (.inr (.inr (.inr (.inr (.inr (.inr ⟨HN0.out, HLN.out, _, _, _, _, rfl, HB2.out.size, (blk_cell (heap_alloc_new w2 _) 0).trans rfl, (blk_cell (heap_alloc_new w2 _) 2).trans rfl, (HC1.out.below HBB.out).al _, fun i hi => by
        obtain ⟨a, v1, e1, e2, e3, e4⟩ := HXS.out i hi
        exact ⟨a, v1, e1, Nat.le_trans HB1.out.size e2, al_ e3 _, (e4.from_ HB1.out.size).al _⟩⟩))))))
end Go.Proofs.YtdcaabjkklppjaaGreatFmt.A
