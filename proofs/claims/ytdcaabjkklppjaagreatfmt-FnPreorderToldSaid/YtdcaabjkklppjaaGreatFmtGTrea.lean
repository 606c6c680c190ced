/- impl.exprOf at indices, operators and calls. -/
import Derived.Test.YtdcaabjkklppjaaGreatFmtGTree
import Derived.Lib.LaidU8
namespace Go.Proofs.YtdcaabjkklppjaaGreatFmt.A
open Go.RowKit Go.Proofs.YtdcaabjkklppjaaGreatFmtW.PrintWords Go.Proofs.YtdcaabjkklppjaaGreatFmtW.PrintLast Go.Proofs.YtdcaabjkklppjaaGreatFmtW.PrintMore
set_option linter.unusedVariables false
set_option linter.unusedSimpArgs false
attribute [local go_sem ↓] Go.wp_at_zero Go.wp_at_succ


/-- Element i of a row of nodes: its cells in the world, and the row below it. -/
theorem kid_at {w : World} {A : Option Addr} {n : Nat} {kids : List S24} (hr : Kd.C k24 w A n kids) (i : Nat) (hi : i < n) : ∃ ad A2 c2, A = some ad ∧ Kid w (ad.add (i * 3)) (rd_T24 kids (i : Int)) A2 c2 ∧ (rd_T24 kids (i : Int)).f2.length ≤ c2 ∧ Kd.C k24 w A2 (rd_T24 kids (i : Int)).f2.length (rd_T24 kids (i : Int)).f2 := by
  obtain ⟨ad, A2, c2, eA, hx0, hx1, hx2, hl2, hi2⟩ := at_T24 hr (i : Int) (by omega) (by omega)
  rw [Int.toNat_natCast] at hx0 hx1 hx2
  exact ⟨ad, A2, c2, eA, ⟨hx0, hx1, hx2⟩, hl2, hi2⟩

/-- The kinds of a good tree. -/
theorem Good.kind {S : Nat → ByteArray} : ∀ {D : Nat} {n : S24}, Good S D n → n.f0 = bName ∨ n.f0 = bInt ∨ n.f0 = bParen ∨ n.f0 = bSel ∨ n.f0 = bUn ∨ n.f0 = bBin ∨ n.f0 = bIdx ∨ n.f0 = bCall
  | 0, _, h => h.elim
  | D + 1, n, h => by
    unfold Good at h
    rcases h.1 with h | h | h | h | h | h | h | h
    · exact .inl h
    · exact .inr (.inl h)
    · exact .inr (.inr (.inl h.1))
    · exact .inr (.inr (.inr (.inl h.1)))
    · exact .inr (.inr (.inr (.inr (.inl h.1))))
    · exact .inr (.inr (.inr (.inr (.inr (.inl h.1)))))
    · exact .inr (.inr (.inr (.inr (.inr (.inr (.inl h.1))))))
    · exact .inr (.inr (.inr (.inr (.inr (.inr (.inr h.1))))))
theorem Good.no_list {S : Nat → ByteArray} {D : Nat} {n : S24} (h : Good S D n) : (n.f0.toList == ([108, 105, 115, 116] : List UInt8)) = false := by
  rcases h.kind with h | h | h | h | h | h | h | h <;> rw [h] <;> decide +kernel

set_option maxHeartbeats 2000000 in
set_option maxRecDepth 100000 in
theorem expr_idx (S : Nat → ByteArray) (D : Nat) (IH : ExprC S D) (t : ByteArray) (A : Option Addr) (c : Nat) (kids : List S24) (w : World) (hlen : kids.length = 2) (hg : Good S D (rd_T24 kids ((0 : Nat) : Int))) (hg1 : Good S D (rd_T24 kids ((1 : Nat) : Int))) (hr : Kd.C k24 w A kids.length kids) (hc : kids.length ≤ c) (hT : TokTab S w) :
    Calls Tryz.prog 33 #[.agg #[.string bIdx, .string t, .slice A kids.length c]] w fun e w' => ∃ v, e = .returned v ∧ Tree (From w.heap.size) w' (D + 1) ⟨bIdx, t, kids⟩ v ∧ Below w.heap.size w w' := by
  have HN : ∀ x, (⟨bIdx, t, kids⟩ : S24) = x → x.f0 = bIdx ∧ x.f1 = t ∧ x.f2 = kids := fun x e => by rw [← e]; exact ⟨rfl, rfl, rfl⟩
  generalize (⟨bIdx, t, kids⟩ : S24) = nn at HN ⊢
  obtain ⟨HN0, HN1, HN2⟩ := HN _ rfl
  have HN0 := Aside0.mk HN0
  have HN1 := Aside0.mk HN1
  have HN2 := Aside0.mk HN2
  have HLN := Aside0.mk hlen
  clear HN
  have HG0 := Aside0.mk hg
  have HG1 := Aside0.mk hg1
  have hnl : ((rd_T24 kids 1).f0.toList == ([108, 105, 115, 116] : List UInt8)) = false := hg1.no_list
  obtain ⟨ad, A2, c2, eA, hK, hl2, hi2⟩ := kid_at hr 0 (by omega)
  obtain ⟨ad', A3, c3, eA', hK3, hl3, hi3⟩ := kid_at hr 1 (by omega)
  cases eA
  cases eA'
  have e0 : ad.add (0 * 3) = ad := by cases ad; rfl
  rw [e0] at hK
  obtain ⟨bk, o, sp⟩ := ad
  obtain rfl : sp = none := cell_spot hK.1
  have hK3 : Kid w ⟨bk, o + 3, none⟩ (rd_T24 kids ((1 : Nat) : Int)) A3 c3 := hK3
  clear e0
  have HL := Aside0.mk hl2
  have HL3 := Aside0.mk hl3
  clear hl2 hl3 hr hg hg1
  rw [hlen]
  unfold bIdx
  have hb0 : Below w.heap.size w (w.alloc (.cells #[.string ⟨#[105, 110, 100, 101, 120]⟩, .string t, .slice (some ⟨bk, o, none⟩) 2 c] 24)) := (Below.refl w.heap.size w).alloc (Nat.le_refl _) _
  have hL0 := lies_new w ⟨#[105, 110, 100, 101, 120]⟩ t (.slice (some ⟨bk, o, none⟩) 2 c)
  have HB0 := Aside0.mk hb0
  have HI := Aside0.mk (Kd.C_below hi2 hb0)
  have HI3 := Aside0.mk (Kd.C_below hi3 hb0)
  have HT := Aside0.mk (hT.below hb0)
  have HK0 := Aside0.mk (hK.below hb0)
  have HK3 := Aside0.mk (hK3.below hb0)
  have HL0 := Aside0.mk hL0
  have z0 : (w.alloc (.cells #[.string ⟨#[105, 110, 100, 101, 120]⟩, .string t, .slice (some ⟨bk, o, none⟩) 2 c] 24)).cell? ⟨bk, o + 3, none⟩ = some (.string (rd_T24 kids ((1 : Nat) : Int)).f0) := (hK3.below hb0).1
  clear hi2 hi3 hT hK hK3 hL0 hb0
  go_enter Tryz.func33, Tryz.ntmps33
  go_wp2
  clear z0
  generalize w.alloc (.cells #[.string ⟨#[105, 110, 100, 101, 120]⟩, .string t, .slice (some ⟨bk, o, none⟩) 2 c] 24) = W0 at HB0 HI HI3 HT HK0 HK3 HL0 ⊢
  obtain ⟨p0, p1, p2⟩ := HL0.out
  obtain ⟨q0, q1, q2⟩ := HK0.out
  obtain ⟨s0, s1, s2⟩ := HK3.out
  have s1' : W0.cell? ⟨bk, o + 4, none⟩ = some (.string (rd_T24 kids ((1 : Nat) : Int)).f1) := s1
  have s2' : W0.cell? ⟨bk, o + 5, none⟩ = some (.slice A3 (rd_T24 kids ((1 : Nat) : Int)).f2.length c3) := s2
  have HD := Aside0.mk (below_drew (Below.refl W0.heap.size W0))
  have HId := Aside0.mk (Kd.C_below HI.out HD.out)
  have HTd := Aside0.mk (HT.out.below HD.out)
  go_region_with (first
    | (go_at_call_of 33 (rd_T24 kids 0); refine (IH _ _ _ _ HG0.out ?h1 HL.out ?h2).mono ?_; (case h1 => exact HId.out); (case h2 => exact HTd.out); rintro e w1 ⟨v1, rfl, hch, hb1⟩; obtain ⟨T1, b1, rfl⟩ := hch.form; obtain ⟨r0, r1, r2⟩ := HL0.out.below (HD.out.trans hb1); obtain ⟨u0, u1, u2⟩ := HK3.out.below (HD.out.trans hb1); have u1' : w1.cell? ⟨bk, o + 4, none⟩ = some (.string (rd_T24 kids ((1 : Nat) : Int)).f1) := u1; have u2' : w1.cell? ⟨bk, o + 5, none⟩ = some (.slice A3 (rd_T24 kids ((1 : Nat) : Int)).f2.length c3) := u2; have HI3d := Aside0.mk (Kd.C_below HI3.out (HD.out.trans hb1)); have HTe := Aside0.mk (HT.out.below (HD.out.trans hb1)); have HB1 := Aside0.mk (HD.out.trans hb1); have HC1 := Aside0.mk (hch.from_ (Nat.le_trans HB0.out.size HD.out.size)); clear hb1 hch)
    | (go_at_call_of 33 (rd_T24 kids 1); refine (IH _ _ _ _ HG1.out ?h1 HL3.out ?h2).mono ?_; (case h1 => exact HI3d.out); (case h2 => exact HTe.out); rintro e w2 ⟨v2, rfl, hch2, hb2⟩; obtain ⟨T2, b2, rfl⟩ := hch2.form; have HB2 := Aside0.mk hb2; have HC2 := Aside0.mk (hch2.from_ (Nat.le_trans HB0.out.size HB1.out.size)); clear hb2 hch2))
  all_goals
    go_wp2_with fail
    go_ret
    have h1 := HB0.out.trans ((HB1.out.trans (HB2.out.mono HB1.out.size)).mono HB0.out.size)
    refine ⟨_, rfl, ?_, h1.alloc h1.size _⟩
    unfold Tree
    rw [HN2.out]
    exact .inr (.inr (.inr (.inr (.inr (.inr (.inl ⟨HN0.out, HLN.out, _, _, _, rfl, h1.size, (blk_cell (heap_alloc_new w2 _) 0).trans rfl, (blk_cell (heap_alloc_new w2 _) 2).trans rfl, (HC1.out.below HB2.out).al _, HC2.out.al _⟩))))))
end Go.Proofs.YtdcaabjkklppjaaGreatFmt.A
