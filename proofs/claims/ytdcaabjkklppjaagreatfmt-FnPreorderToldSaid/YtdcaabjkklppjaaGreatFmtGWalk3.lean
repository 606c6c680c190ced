/- ast.Walk: lists, calls, every tree of an expression. -/
import Derived.Test.YtdcaabjkklppjaaGreatFmtGWalk2
namespace Go.Proofs.YtdcaabjkklppjaaGreatFmt.A
open Go.RowKit Go.Proofs.YtdcaabjkklppjaaGreatFmtW.PrintWords Go.Proofs.YtdcaabjkklppjaaGreatFmtW.PrintLast Go.Proofs.YtdcaabjkklppjaaGreatFmtW.PrintMore
set_option linter.unusedVariables false
set_option linter.unusedSimpArgs false
attribute [local go_sem ↓] Go.wp_at_zero Go.wp_at_succ

theorem sumTo_ge (c : Nat → Nat) : ∀ m, (∀ i, i < m → 1 ≤ c i) → m ≤ sumTo c m
  | 0, _ => Nat.le_refl _
  | m + 1, h => by
    have h1 := sumTo_ge c m (fun i hi => h i (by omega))
    have h2 := h m (by omega)
    rw [sumTo]
    omega
theorem Tree.pos {K : Nat → Prop} {W : World} : ∀ {D : Nat} {n : S24} {v : Value}, Tree K W D n v → 1 ≤ cnt D n
  | 0, _, _, h => h.elim
  | D + 1, n, v, h => by rw [cnt]; omega
theorem cnt_pos {K : Nat → Prop} {W : World} {D : Nat} {n : S24} {v : Value} (h : Tree K W D n v) : 8 ≤ cnt D n := by
  cases D with
  | zero => exact h.elim
  | succ D => rw [cnt]; omega

set_option maxHeartbeats 2000000 in
set_option maxRecDepth 100000 in
theorem walkList_any {β σ : Type} (V : Vis β σ) (D : Nat) (IH : WalkC V D) (b1 : β) (s1 : σ) (A : Option Addr) (m c : Nat) (kid : Nat → S24) (W : World) (hM : m ≤ 1000000)
    (hcells : ∀ i : Nat, i < m → ∃ a v1, A = some a ∧ V.K (a.add i).block ∧ W.cell? (a.add i) = some v1 ∧ Tree V.K W D (kid i) v1) (hi : V.inv s1 W) (hl : V.len s1 + sumTo (fun i => cnt D (kid i)) m ≤ V.M) :
    Calls Tryz.prog 38 #[.iface V.T (V.xv b1), .slice A m c] W fun e W' => e = .returned (.tuple #[]) ∧ V.inv (foldTo (fun s i => V.trav D b1 s (kid i)) s1 m) W' ∧ Fr V.K W W' := by
  have HCS := Aside0.mk hcells
  have HI0 := Aside0.mk hi
  have HLL := Aside0.mk hl
  have HF0 := Aside0.mk (Fr.refl V.K W)
  clear hcells hi hl
  go_enter Tryz.func38, Tryz.ntmps38
  go_wp2
  go_loopg [8] m (fun kq v8 w' => ∃ i : Nat, v8 = .int .i64 (i : Int) ∧ i ≤ m ∧ Hid (kq = m - i) ∧ Aside0 (V.inv (foldTo (fun s i => V.trav D b1 s (kid i)) s1 i) w') ∧ Aside0 (Fr V.K W w'))
  case atStart => exact ⟨0, rfl, Nat.zero_le _, rfl, HI0, HF0⟩
  case round =>
    obtain ⟨i, rfl, hi, HM, HI, HF⟩ := hrel
    by_cases hlt : i < m
    · obtain ⟨a, v1, rfl, ka, hca, hta⟩ := HCS.out i hlt
      have hc1 := HF.out.cell ka hca
      have ht1 := HF.out.tree hta
      have hfl := fold_len V.len (fun s i => V.trav D b1 s (kid i)) (fun i => cnt D (kid i)) (fun s i => V.trav_len D b1 s _) s1 i
      have hsl := sumTo_le (fun i => cnt D (kid i)) hlt
      have hcall := IH b1 (foldTo (fun s i => V.trav D b1 s (kid i)) s1 i) (kid i) v1 wr ht1 HI.out (by have := HLL.out; omega)
      have HCALL := Aside0.mk hcall
      clear hcall ht1 hfl hsl hca hta
      have p0 : (0 : Int) ≤ (i : Int) := by omega
      have p1 : (i : Int) < (m : Int) := by omega
      go_wp2_with (first | (go_at_call 26; (with_reducible refine HCALL.out.mono ?_); rintro e w2 ⟨rfl, hI2, hF2⟩; have HI2 := Aside0.mk hI2; have HF2 := Aside0.mk (HF.out.trans hF2); clear hI2 hF2))
      go_roundg (gk - 1)
      case measure => have := HM.out; omega
      case rel => exact ⟨i + 1, by go_num, by omega, by have := HM.out; show _ = _; omega, HI2, HF2⟩
    · have p1 : ¬ (i : Int) < (m : Int) := by omega
      have hil : i = m := by omega
      subst hil
      go_wp2
      first | (refine bodyPost_ret (results_none rfl _ _ _) rfl ?_) | go_end0
      exact ⟨rfl, HI.out, HF.out⟩

set_option maxHeartbeats 2000000 in
set_option maxRecDepth 100000 in
theorem walk_atCall {β σ : Type} (V : Vis β σ) (D : Nat) (IH : WalkC V D) (b b1 : β) (s s1 : σ) (bk : Nat) (W : World) (hst : V.step b s (some (bCall, ⟨#[]⟩)) = (s1, some b1)) (hi : V.inv s W) (kb : V.K bk) (m0 : S24) (v0 : Value) (hc0 : W.cell? ⟨bk, 0, none⟩ = some v0) (ht0 : Tree V.K W D m0 v0)
    (A : Option Addr) (m c : Nat) (kid : Nat → S24) (hM : m ≤ 1000000) (hcA : W.cell? ⟨bk, 2, none⟩ = some (.slice A m c)) (hcells : ∀ i : Nat, i < m → ∃ a v1, A = some a ∧ V.K (a.add i).block ∧ W.cell? (a.add i) = some v1 ∧ Tree V.K W D (kid i) v1)
    (hl : V.len s + (8 + (cnt D m0 + sumTo (fun i => cnt D (kid i)) m)) ≤ V.M) :
    Calls Tryz.prog 26 #[.iface V.T (V.xv b), .iface 80 (.pointer (some ⟨bk, 0, none⟩))] W fun e W' => e = .returned (.tuple #[]) ∧ V.inv (V.step b1 (foldTo (fun s i => V.trav D b1 s (kid i)) (V.trav D b1 s1 m0) m) none).1 W' ∧ Fr V.K W W' := by
  have hl1 := V.step_len hst
  have hl2 := V.trav_len D b1 s1 m0
  have hl3 := fold_len V.len (fun s i => V.trav D b1 s (kid i)) (fun i => cnt D (kid i)) (fun s i => V.trav_len D b1 s _) (V.trav D b1 s1 m0) m
  have HK0 := Aside0.mk (fun W1 (h : V.inv s1 W1) (hf : Fr V.K W W1) => IH b1 s1 m0 v0 W1 (hf.tree ht0) h (by omega))
  have HKL := Aside0.mk (fun W1 (h : V.inv (V.trav D b1 s1 m0) W1) (hf : Fr V.K W W1) => walkList_any V D IH b1 (V.trav D b1 s1 m0) A m c kid W1 hM (fun i hi => by
    obtain ⟨a, v1, e1, ka, h1, h2⟩ := hcells i hi
    exact ⟨a, v1, e1, ka, hf.cell ka h1, hf.tree h2⟩) h (by omega))
  have HC := Aside0.mk (V.go_call hst (by omega) hi (v := .iface 80 (.pointer (some ⟨bk, 0, none⟩))) (by simp) (.call bk))
  have HE := Aside0.mk (V.end_call b1 (foldTo (fun s i => V.trav D b1 s (kid i)) (V.trav D b1 s1 m0) m) (by omega))
  have HKB := Aside0.mk kb
  have HC0 := Aside0.mk hc0
  have HCA := Aside0.mk hcA
  have hm := V.hm
  have hcf := V.hcf
  have n85 := no85 80 (by decide)
  have n86 := no86 80 (by decide)
  have n91 := no91 80 (by decide)
  have n96 := no96 80 (by decide)
  have n101 := no101 80 (by decide)
  have n56 := no56 80 (by decide)
  have n70 := no70 80 (by decide)
  have n102 := no102 80 (by decide)
  have n105 := no105 80 (by decide)
  have n110 := no110 80 (by decide)
  have n74 := no74 80 (by decide)
  have n75 := no75 80 (by decide)
  have n76 := no76 80 (by decide)
  have n121 := no121 80 (by decide)
  have n124 := no124 80 (by decide)
  have n127 := no127 80 (by decide)
  have y80 := yes80
  clear hst hi kb hl hl1 hl2 hl3 hc0 ht0 hcA hcells IH hM
  go_enter Tryz.func26, Tryz.ntmps26
  go_wp2_with (first
    | ((with_reducible refine HC.out.mono ?_); rintro e W1 ⟨rfl, hI1, hF1⟩; have HI1 := Aside0.mk hI1; have HF1 := Aside0.mk hF1; have c0 := hF1.cell HKB.out HC0.out; clear hI1 hF1)
    | ((with_reducible refine (HK0.out _ ?hI ?hF).mono ?_); (case hI => exact HI1.out); (case hF => exact HF1.out); rintro e W2 ⟨rfl, hI, hF⟩; have HI2 := Aside0.mk hI; have c1 := (HF1.out.trans hF).cell HKB.out HCA.out; have HF2 := Aside0.mk (HF1.out.trans hF); clear hI hF)
    | ((with_reducible refine (HKL.out _ ?hI ?hF).mono ?_); (case hI => exact HI2.out); (case hF => exact HF2.out); rintro e W3 ⟨rfl, hI, hF⟩; have HI3 := Aside0.mk hI; have HF3 := Aside0.mk (HF2.out.trans hF); clear hI hF)
    | ((with_reducible refine (HE.out _ ?hI).mono ?_); (case hI => exact HI3.out); rintro e W9 ⟨ve, rfl, hI9, hF9⟩; have HI9 := Aside0.mk hI9; have HF9 := Aside0.mk hF9; clear hI9 hF9))
  first | (refine bodyPost_ret (results_none rfl _ _ _) rfl ?_) | (refine bodyPost_end (results_none rfl _ _ _) rfl ?_)
  exact ⟨rfl, HI9.out, HF3.out.trans HF9.out⟩

theorem nk_kids {n : S24} (h : ¬ (n.f0 = bName ∨ n.f0 = bInt)) : nk n = n.f2.length := by unfold nk; rw [if_neg h]
theorem walk_all {β σ : Type} (V : Vis β σ) (hVM : V.M ≤ 1000000) : ∀ D, WalkC V D
  | 0 => fun b s n v W ht _ _ => ht.elim
  | D + 1 => by
    have IH := walk_all V hVM D
    intro b s n v W ht hi hl
    have hform := ht.form
    have hseen := ht.seen
    rw [Vis.trav]
    rcases hst : V.step b s (some (kindB n, textB n)) with ⟨s1, _ | b1⟩
    · obtain ⟨T, bk, rfl⟩ := hform
      exact walk_stop V b s s1 _ _ _ W hst (by have := cnt_pos ht; omega) hi (by simp) hseen
    · clear hform hseen
      dsimp only
      rw [cnt] at hl
      unfold Tree at ht
      have K : ∀ {k : ByteArray}, n.f0 = k → (k = bName ∨ k = bInt → False) → kindB n = k ∧ textB n = ⟨#[]⟩ ∧ nk n = n.f2.length := by
        intro k h0 hne
        have h2 : ¬ (n.f0 = bName ∨ n.f0 = bInt) := fun h => hne (by rw [← h0]; exact h)
        exact ⟨by unfold kindB; rw [if_neg (fun h => h2 (.inr h))]; exact h0, by unfold textB; rw [if_neg h2], nk_kids h2⟩
      have NS : n.f0 ≠ bSel → ∀ s, V.sel b1 n s = s := fun h s => by unfold Vis.sel; rw [if_neg h]
      rcases ht with ⟨h0, bk, rfl, kb, c1⟩ | ⟨h0, bk, rfl, kb, c1⟩ | ⟨h0, hlen, bk, v0, rfl, kb, c1, t0⟩ | ⟨h0, hlen, bk, v0, bi, rfl, kb, c1, c2, kb1, c3, t0⟩ | ⟨h0, hlen, bk, v0, kb, ⟨rfl, c1⟩ | ⟨rfl, c1⟩, t0⟩ | ⟨h0, hlen, bk, v0, v1, rfl, kb, c1, c2, t0, t1⟩ | ⟨h0, hlen, bk, v0, v1, rfl, kb, c1, c2, t0, t1⟩ | ⟨h0, hlen, bk, v0, A, c, rfl, kb, c1, c2, t0, ts⟩
      · have e1 : kindB n = bName := by unfold kindB; rw [if_neg (by rw [h0]; decide +kernel), h0]
        have e2 : textB n = n.f1 := by unfold textB; rw [if_pos (.inl h0)]
        have e3 : nk n = 0 := by unfold nk; rw [if_pos (.inl h0)]
        rw [e1, e2] at hst
        rw [e3, NS (by rw [h0]; decide +kernel)]
        exact walk_name V b b1 s s1 bk W n.f1 hst hi kb c1 (by omega)
      · have e1 : kindB n = bLit := by unfold kindB; rw [if_pos h0]
        have e2 : textB n = n.f1 := by unfold textB; rw [if_pos (.inr h0)]
        have e3 : nk n = 0 := by unfold nk; rw [if_pos (.inr h0)]
        rw [e1, e2] at hst
        rw [e3, NS (by rw [h0]; decide +kernel)]
        exact walk_lit V b b1 s s1 bk W n.f1 hst hi kb c1 (by omega)
      · obtain ⟨e1, e2, e3⟩ := K h0 (by decide +kernel)
        rw [e1, e2] at hst
        rw [e3, hlen] at hl
        rw [e3, hlen, NS (by rw [h0]; decide +kernel)]
        have hl : V.len s + (8 + (0 + cnt D (rd_T24 n.f2 ((0 : Nat) : Int)))) ≤ V.M := hl
        exact walk_paren V D IH b b1 s s1 bk W hst hi kb (rd_T24 n.f2 ((0 : Nat) : Int)) v0 c1 t0 (by omega)
      · obtain ⟨e1, e2, e3⟩ := K h0 (by decide +kernel)
        rw [e1, e2] at hst
        rw [e3, hlen] at hl
        rw [e3, hlen]
        have hl : V.len s + (8 + (0 + cnt D (rd_T24 n.f2 ((0 : Nat) : Int)))) ≤ V.M := hl
        unfold Vis.sel
        rw [if_pos h0]
        exact walk_sel V D IH b b1 s s1 bk W hst hi kb (rd_T24 n.f2 ((0 : Nat) : Int)) v0 c1 t0 bi n.f1 c2 kb1 c3 (by omega)
      · obtain ⟨e1, e2, e3⟩ := K h0 (by decide +kernel)
        rw [e1, e2] at hst
        rw [e3, hlen] at hl
        rw [e3, hlen, NS (by rw [h0]; decide +kernel)]
        have hl : V.len s + (8 + (0 + cnt D (rd_T24 n.f2 ((0 : Nat) : Int)))) ≤ V.M := hl
        exact walk_star V D IH b b1 s s1 bk W hst hi kb (rd_T24 n.f2 ((0 : Nat) : Int)) v0 c1 t0 (by omega)
      · obtain ⟨e1, e2, e3⟩ := K h0 (by decide +kernel)
        rw [e1, e2] at hst
        rw [e3, hlen] at hl
        rw [e3, hlen, NS (by rw [h0]; decide +kernel)]
        have hl : V.len s + (8 + (0 + cnt D (rd_T24 n.f2 ((0 : Nat) : Int)))) ≤ V.M := hl
        exact walk_un V D IH b b1 s s1 bk W hst hi kb (rd_T24 n.f2 ((0 : Nat) : Int)) v0 c1 t0 (by omega)
      · obtain ⟨e1, e2, e3⟩ := K h0 (by decide +kernel)
        rw [e1, e2] at hst
        rw [e3, hlen] at hl
        rw [e3, hlen, NS (by rw [h0]; decide +kernel)]
        have hl : V.len s + (8 + (0 + cnt D (rd_T24 n.f2 ((0 : Nat) : Int)) + cnt D (rd_T24 n.f2 ((1 : Nat) : Int)))) ≤ V.M := hl
        exact walk_bin V D IH b b1 s s1 bk W hst hi kb (rd_T24 n.f2 ((0 : Nat) : Int)) v0 c1 t0 (rd_T24 n.f2 ((1 : Nat) : Int)) v1 c2 t1 (by omega)
      · obtain ⟨e1, e2, e3⟩ := K h0 (by decide +kernel)
        rw [e1, e2] at hst
        rw [e3, hlen] at hl
        rw [e3, hlen, NS (by rw [h0]; decide +kernel)]
        have hl : V.len s + (8 + (0 + cnt D (rd_T24 n.f2 ((0 : Nat) : Int)) + cnt D (rd_T24 n.f2 ((1 : Nat) : Int)))) ≤ V.M := hl
        exact walk_idx V D IH b b1 s s1 bk W hst hi kb (rd_T24 n.f2 ((0 : Nat) : Int)) v0 c1 t0 (rd_T24 n.f2 ((1 : Nat) : Int)) v1 c2 t1 (by omega)
      · obtain ⟨e1, e2, e3⟩ := K h0 (by decide +kernel)
        rw [e1, e2] at hst
        obtain ⟨m, hm⟩ : ∃ m, n.f2.length = m + 1 := ⟨n.f2.length - 1, by omega⟩
        rw [e3, hm, sumTo_front] at hl
        rw [e3, hm, NS (by rw [h0]; decide +kernel), foldTo_front]
        rw [hm] at ts c2
        rw [Nat.add_sub_cancel] at c2
        have hcells : ∀ i : Nat, i < m → ∃ a v1, A = some a ∧ V.K (a.add i).block ∧ W.cell? (a.add i) = some v1 ∧ Tree V.K W D (rd_T24 n.f2 ((i + 1 : Nat) : Int)) v1 := fun i hi => ts i (by omega)
        have hmM := sumTo_ge (fun i => cnt D (rd_T24 n.f2 ((i + 1 : Nat) : Int))) m (fun i hi => by
          obtain ⟨_, _, _, _, _, h⟩ := hcells i hi
          exact h.pos)
        exact walk_atCall V D IH b b1 s s1 bk W hst hi kb (rd_T24 n.f2 ((0 : Nat) : Int)) v0 c1 t0 A m c (fun i => rd_T24 n.f2 ((i + 1 : Nat) : Int)) (by omega) c2 hcells (by omega)
end Go.Proofs.YtdcaabjkklppjaaGreatFmt.A
