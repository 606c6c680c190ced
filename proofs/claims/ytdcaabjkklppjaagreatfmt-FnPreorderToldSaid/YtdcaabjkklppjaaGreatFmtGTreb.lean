/- impl.exprOf at unary operators. -/
import Derived.Test.YtdcaabjkklppjaaGreatFmtGTree
import Derived.Test.YtdcaabjkklppjaaGreatFmtGTrea
namespace Go.Proofs.YtdcaabjkklppjaaGreatFmt.A
open Go.RowKit Go.Proofs.YtdcaabjkklppjaaGreatFmtW.PrintWords Go.Proofs.YtdcaabjkklppjaaGreatFmtW.PrintLast Go.Proofs.YtdcaabjkklppjaaGreatFmtW.PrintMore
set_option linter.unusedVariables false
set_option linter.unusedSimpArgs false
attribute [local go_sem ↓] Go.wp_at_zero Go.wp_at_succ



theorem OpText.call {S : Nat → ByteArray} {s : ByteArray} (h : OpText S s) (w : World) (hT : TokTab S w) :
    Calls Tryz.prog 51 #[.string s] w fun e w' => ∃ t : Int, e = .returned (.int .i64 t) ∧ w' = w := by
  obtain ⟨j, h1, h2, rfl, h3⟩ := h
  exact tokenOf_any S j h1 h2 h3 w hT

set_option maxHeartbeats 2000000 in
set_option maxRecDepth 100000 in
theorem expr_un (S : Nat → ByteArray) (D : Nat) (IH : ExprC S D) (t : ByteArray) (A : Option Addr) (c : Nat) (kids : List S24) (w : World) (hop : OpText S t) (hs : ¬ t.toList = ([42] : List UInt8)) (hlen : kids.length = 1) (hg : Good S D (rd_T24 kids ((0 : Nat) : Int))) (hr : Kd.C k24 w A kids.length kids) (hc : kids.length ≤ c) (hT : TokTab S w) :
    Calls Tryz.prog 33 #[.agg #[.string bUn, .string t, .slice A kids.length c]] w fun e w' => ∃ v, e = .returned v ∧ Tree (From w.heap.size) w' (D + 1) ⟨bUn, t, kids⟩ v ∧ Below w.heap.size w w' := by
  have HN : ∀ x, (⟨bUn, t, kids⟩ : S24) = x → x.f0 = bUn ∧ x.f1 = t ∧ x.f2 = kids := fun x e => by rw [← e]; exact ⟨rfl, rfl, rfl⟩
  generalize (⟨bUn, t, kids⟩ : S24) = nn at HN ⊢
  obtain ⟨HN0, HN1, HN2⟩ := HN _ rfl
  have HN0 := Aside0.mk HN0
  have HN1 := Aside0.mk HN1
  have HN2 := Aside0.mk HN2
  have HLN := Aside0.mk hlen
  clear HN
  have HG0 := Aside0.mk hg
  have HOP := Aside0.mk hop
  have hsb : (t.toList == ([42] : List UInt8)) = false := beq_eq_false_iff_ne.2 hs
  obtain ⟨ad, A2, c2, eA, hK, hl2, hi2⟩ := kid_at hr 0 (by omega)
  cases eA
  have e0 : ad.add (0 * 3) = ad := by cases ad; rfl
  rw [e0] at hK
  obtain ⟨bk, o, sp⟩ := ad
  obtain rfl : sp = none := cell_spot hK.1
  clear e0
  have HL := Aside0.mk hl2
  clear hl2 hr hg hop hs
  rw [hlen]
  unfold bUn
  have hb0 : Below w.heap.size w (w.alloc (.cells #[.string ⟨#[117, 110, 97, 114, 121]⟩, .string t, .slice (some ⟨bk, o, none⟩) 1 c] 24)) := (Below.refl w.heap.size w).alloc (Nat.le_refl _) _
  have hL0 := lies_new w ⟨#[117, 110, 97, 114, 121]⟩ t (.slice (some ⟨bk, o, none⟩) 1 c)
  have HB0 := Aside0.mk hb0
  have HI := Aside0.mk (Kd.C_below hi2 hb0)
  have HT := Aside0.mk (hT.below hb0)
  have HK0 := Aside0.mk (hK.below hb0)
  have HL0 := Aside0.mk hL0
  clear hi2 hT hK hL0 hb0
  go_enter Tryz.func33, Tryz.ntmps33
  go_wp2
  generalize w.alloc (.cells #[.string ⟨#[117, 110, 97, 114, 121]⟩, .string t, .slice (some ⟨bk, o, none⟩) 1 c] 24) = W0 at HB0 HI HT HK0 HL0 ⊢
  obtain ⟨p0, p1, p2⟩ := HL0.out
  obtain ⟨q0, q1, q2⟩ := HK0.out
  have HD := Aside0.mk (below_drew (Below.refl W0.heap.size W0))
  have HId := Aside0.mk (Kd.C_below HI.out HD.out)
  have HTd := Aside0.mk (HT.out.below HD.out)
  go_region_with (first
    | (go_at_call 51; refine (HOP.out.call _ ?h0).mono ?_; (case h0 => exact HTd.out); rintro e w1 ⟨z, rfl, rfl⟩)
    | (go_at_call 33; refine (IH _ _ _ _ HG0.out ?h1 HL.out ?h2).mono ?_; (case h1 => exact HId.out); (case h2 => exact HTd.out); rintro e w1 ⟨v1, rfl, hch, hb1⟩; obtain ⟨T1, b1, rfl⟩ := hch.form; have HB1 := Aside0.mk (HD.out.trans hb1); have HC1 := Aside0.mk (hch.from_ (Nat.le_trans HB0.out.size HD.out.size)); clear hb1 hch))
  all_goals
    go_wp2_with fail
    go_ret
    have h1 := HB0.out.trans (HB1.out.mono HB0.out.size)
    refine ⟨_, rfl, ?_, h1.alloc h1.size _⟩
    unfold Tree
    rw [HN2.out]
    exact .inr (.inr (.inr (.inr (.inl ⟨HN0.out, HLN.out, _, _, h1.size, .inr ⟨rfl, (blk_cell (heap_alloc_new w1 _) 2).trans rfl⟩, HC1.out.al _⟩))))
end Go.Proofs.YtdcaabjkklppjaaGreatFmt.A
