/- impl.exprOf at every tree of an expression: the whole tree that it builds; impl.nodeOf. -/
import Derived.Test.YtdcaabjkklppjaaGreatFmtGTrec
import Derived.Test.YtdcaabjkklppjaaGreatFmtGTree2
namespace Go.Proofs.YtdcaabjkklppjaaGreatFmt.A
open Go.RowKit Go.Proofs.YtdcaabjkklppjaaGreatFmtW.PrintWords Go.Proofs.YtdcaabjkklppjaaGreatFmtW.PrintLast Go.Proofs.YtdcaabjkklppjaaGreatFmtW.PrintMore
set_option linter.unusedVariables false
set_option linter.unusedSimpArgs false
attribute [local go_sem ↓] Go.wp_at_zero Go.wp_at_succ

theorem expr_all (S : Nat → ByteArray) : ∀ D, ExprC S D
  | 0 => fun n A c w hg hr hc hT => hg.elim
  | D + 1 => by
    have IH := expr_all S D
    intro n A c w hg hr hc hT
    obtain ⟨f0, f1, f2⟩ := n
    obtain ⟨hk, hkids⟩ := hg
    have kid : ∀ i : Nat, ¬ (f0 = bName ∨ f0 = bInt) → i < f2.length → Good S D (rd_T24 f2 (i : Int)) := fun i hn hi => hkids.resolve_left hn i hi
    rcases hk with h | h | ⟨h, hl⟩ | ⟨h, hl⟩ | ⟨h, hop, hl⟩ | ⟨h, hop, hl⟩ | ⟨h, hl⟩ | ⟨h, hl, hm⟩
    · have h : f0 = bName := h
      subst h
      exact expr_name D f2 f1 A _ c w
    · have h : f0 = bInt := h
      subst h
      exact expr_int D f2 f1 A _ c w
    · have h : f0 = bParen := h
      have hl : f2.length = 1 := hl
      subst h
      exact expr_paren S D IH f1 A c f2 w hl (kid 0 (by decide +kernel) (by omega)) hr hc hT
    · have h : f0 = bSel := h
      have hl : f2.length = 1 := hl
      subst h
      exact expr_sel S D IH f1 A c f2 w hl (kid 0 (by decide +kernel) (by omega)) hr hc hT
    · have h : f0 = bUn := h
      have hl : f2.length = 1 := hl
      have hop : OpText S f1 := hop
      subst h
      by_cases hs : f1.toList = ([42] : List UInt8)
      · have e : f1 = ⟨#[42]⟩ := by
          rw [Go.Lib.toList_data] at hs
          cases f1 with
          | mk d => cases d with
            | mk l => simp at hs; rw [hs]
        subst e
        exact expr_star S D IH A c f2 w hl (kid 0 (by decide +kernel) (by omega)) hr hc hT
      · exact expr_un S D IH f1 A c f2 w hop hs hl (kid 0 (by decide +kernel) (by omega)) hr hc hT
    · have h : f0 = bBin := h
      have hl : f2.length = 2 := hl
      have hop : OpText S f1 := hop
      subst h
      exact expr_bin S D IH f1 A c f2 w hop hl (kid 0 (by decide +kernel) (by omega)) (kid 1 (by decide +kernel) (by omega)) hr hc hT
    · have h : f0 = bIdx := h
      have hl : f2.length = 2 := hl
      subst h
      exact expr_idx S D IH f1 A c f2 w hl (kid 0 (by decide +kernel) (by omega)) (kid 1 (by decide +kernel) (by omega)) hr hc hT
    · have h : f0 = bCall := h
      have hl : 1 ≤ f2.length := hl
      have hm : f2.length ≤ 1000000 := hm
      subst h
      exact expr_call S D IH f1 A c f2 w hl hm (fun i hi => kid i (by decide +kernel) hi) hr hc hT

set_option maxHeartbeats 1000000 in
set_option maxRecDepth 100000 in
/-- impl.nodeOf: the same. -/
theorem node_any (S : Nat → ByteArray) (D : Nat) (n : S24) (A : Option Addr) (c : Nat) (w : World) (hg : Good S D n) (hr : Kd.C k24 w A n.f2.length n.f2) (hc : n.f2.length ≤ c) (hT : TokTab S w) :
    Calls Tryz.prog 22 #[.agg #[.string n.f0, .string n.f1, .slice A n.f2.length c]] w fun e w' => ∃ v, e = .returned v ∧ Tree (From w.heap.size) w' D n v ∧ Below w.heap.size w w' := by
  have HG := Aside0.mk hg
  have HC := Aside0.mk hc
  have hb0 : Below w.heap.size w (w.alloc (.cells #[.string n.f0, .string n.f1, .slice A n.f2.length c] 24)) := (Below.refl w.heap.size w).alloc (Nat.le_refl _) _
  have HB0 := Aside0.mk hb0
  have HR := Aside0.mk (Kd.C_below hr hb0)
  have HT := Aside0.mk (hT.below hb0)
  clear hg hc hr hT hb0
  go_enter Tryz.func22, Tryz.ntmps22
  go_wp2_with (first | (go_at_call 33; refine (expr_all S D n A c _ HG.out HR.out HC.out HT.out).mono ?_; rintro e w1 ⟨v1, rfl, hch, hb1⟩; obtain ⟨T1, b1, rfl⟩ := hch.form; have HB1 := Aside0.mk hb1; have HC1 := Aside0.mk hch; clear hb1 hch))
  go_ret
  exact ⟨_, rfl, HC1.out.from_ HB0.out.size, HB0.out.trans (HB1.out.mono HB0.out.size)⟩
end Go.Proofs.YtdcaabjkklppjaaGreatFmt.A
