/- ast.Walk at each kind of node of an expression, for whatever visitor that goes on. -/
import Derived.Test.YtdcaabjkklppjaaGreatFmtGWalk
namespace Go.Proofs.YtdcaabjkklppjaaGreatFmt.A
open Go.RowKit Go.Proofs.YtdcaabjkklppjaaGreatFmtW.PrintWords Go.Proofs.YtdcaabjkklppjaaGreatFmtW.PrintLast Go.Proofs.YtdcaabjkklppjaaGreatFmtW.PrintMore
set_option linter.unusedVariables false
set_option linter.unusedSimpArgs false
attribute [local go_sem ↓] Go.wp_at_zero Go.wp_at_succ

theorem Vis.go_call {β σ : Type} (V : Vis β σ) {b b1 : β} {s s1 : σ} {k t : ByteArray} {v : Value} {W : World} (hst : V.step b s (some (k, t)) = (s1, some b1)) (hl : V.len s < V.M) (hi : V.inv s W) (hn : v ≠ .nilIface) (hs : Seen W v k t) :
    Calls Tryz.prog V.fn #[V.rc b, v] W fun e W' => e = .returned (.iface V.T (V.xv b1)) ∧ V.inv s1 W' ∧ Fr V.K W W' := by
  have hcall := V.call b s (some (k, t)) v W hl hi ⟨hn, hs⟩
  rw [hst] at hcall
  exact hcall
theorem Vis.end_call {β σ : Type} (V : Vis β σ) (b : β) (s : σ) (hl : V.len s < V.M) (W : World) (hi : V.inv s W) :
    Calls Tryz.prog V.fn #[V.rc b, .nilIface] W fun e W' => ∃ ve, e = .returned ve ∧ V.inv (V.step b s none).1 W' ∧ Fr V.K W W' :=
  (V.call b s none .nilIface W hl hi rfl).mono fun e W' ⟨h1, h2, h3⟩ => ⟨_, h1, h2, h3⟩

set_option maxHeartbeats 2000000 in
set_option maxRecDepth 100000 in
theorem walk_name {β σ : Type} (V : Vis β σ) (b b1 : β) (s s1 : σ) (bk : Nat) (W : World) (t : ByteArray) (hst : V.step b s (some (bName, t)) = (s1, some b1)) (hi : V.inv s W) (kb : V.K bk) (hx : W.cell? ⟨bk, 1, none⟩ = some (.string t)) (hl : V.len s + 4 ≤ V.M) :
    Calls Tryz.prog 26 #[.iface V.T (V.xv b), .iface 56 (.pointer (some ⟨bk, 0, none⟩))] W fun e W' => e = .returned (.tuple #[]) ∧ V.inv (V.step b1 s1 none).1 W' ∧ Fr V.K W W' := by
  have hl1 := V.step_len hst
  have HC := Aside0.mk (V.go_call hst (by omega) hi (v := .iface 56 (.pointer (some ⟨bk, 0, none⟩))) (by simp) (.name bk t hx))
  have HE := Aside0.mk (V.end_call b1 s1 (by omega))
  have HKB := Aside0.mk kb
  have hm := V.hm
  have hcf := V.hcf
  have n85 := no85 56 (by decide)
  have n86 := no86 56 (by decide)
  have n91 := no91 56 (by decide)
  have n96 := no96 56 (by decide)
  have n101 := no101 56 (by decide)
  have n70 := no70 56 (by decide)
  have y56 := yes56
  clear hst hi kb hl hl1 hx
  go_enter Tryz.func26, Tryz.ntmps26
  go_wp2_with (first
    | ((with_reducible refine HC.out.mono ?_); rintro e W1 ⟨rfl, hI1, hF1⟩; have HI1 := Aside0.mk hI1; have HF1 := Aside0.mk hF1; clear hI1 hF1)
    | ((with_reducible refine (HE.out _ ?hI).mono ?_); (case hI => exact HI1.out); rintro e W9 ⟨ve, rfl, hI9, hF9⟩; have HI9 := Aside0.mk hI9; have HF9 := Aside0.mk hF9; clear hI9 hF9))
  first | (refine bodyPost_ret (results_none rfl _ _ _) rfl ?_) | (refine bodyPost_end (results_none rfl _ _ _) rfl ?_)
  exact ⟨rfl, HI9.out, HF1.out.trans HF9.out⟩

set_option maxHeartbeats 2000000 in
set_option maxRecDepth 100000 in
theorem walk_lit {β σ : Type} (V : Vis β σ) (b b1 : β) (s s1 : σ) (bk : Nat) (W : World) (t : ByteArray) (hst : V.step b s (some (bLit, t)) = (s1, some b1)) (hi : V.inv s W) (kb : V.K bk) (hx : W.cell? ⟨bk, 3, none⟩ = some (.string t)) (hl : V.len s + 4 ≤ V.M) :
    Calls Tryz.prog 26 #[.iface V.T (V.xv b), .iface 70 (.pointer (some ⟨bk, 0, none⟩))] W fun e W' => e = .returned (.tuple #[]) ∧ V.inv (V.step b1 s1 none).1 W' ∧ Fr V.K W W' := by
  have hl1 := V.step_len hst
  have HC := Aside0.mk (V.go_call hst (by omega) hi (v := .iface 70 (.pointer (some ⟨bk, 0, none⟩))) (by simp) (.lit bk t hx))
  have HE := Aside0.mk (V.end_call b1 s1 (by omega))
  have HKB := Aside0.mk kb
  have hm := V.hm
  have hcf := V.hcf
  have n85 := no85 70 (by decide)
  have n86 := no86 70 (by decide)
  have n91 := no91 70 (by decide)
  have n96 := no96 70 (by decide)
  have n101 := no101 70 (by decide)
  have n56 := no56 70 (by decide)
  have y70 := yes70
  clear hst hi kb hl hl1 hx
  go_enter Tryz.func26, Tryz.ntmps26
  go_wp2_with (first
    | ((with_reducible refine HC.out.mono ?_); rintro e W1 ⟨rfl, hI1, hF1⟩; have HI1 := Aside0.mk hI1; have HF1 := Aside0.mk hF1; clear hI1 hF1)
    | ((with_reducible refine (HE.out _ ?hI).mono ?_); (case hI => exact HI1.out); rintro e W9 ⟨ve, rfl, hI9, hF9⟩; have HI9 := Aside0.mk hI9; have HF9 := Aside0.mk hF9; clear hI9 hF9))
  first | (refine bodyPost_ret (results_none rfl _ _ _) rfl ?_) | (refine bodyPost_end (results_none rfl _ _ _) rfl ?_)
  exact ⟨rfl, HI9.out, HF1.out.trans HF9.out⟩

/-- A name: whatever the visitor says. -/
theorem walk_ident {β σ : Type} (V : Vis β σ) (b : β) (s : σ) (bk : Nat) (t : ByteArray) (W : World) (hi : V.inv s W) (kb : V.K bk) (hx : W.cell? ⟨bk, 1, none⟩ = some (.string t)) (hl : V.len s + 4 ≤ V.M) :
    Calls Tryz.prog 26 #[.iface V.T (V.xv b), .iface 56 (.pointer (some ⟨bk, 0, none⟩))] W fun e W' => e = .returned (.tuple #[]) ∧ V.inv (V.leaf b s bName t) W' ∧ Fr V.K W W' := by
  unfold Vis.leaf
  rcases hs : V.step b s (some (bName, t)) with ⟨s1, _ | b1⟩
  · exact walk_stop V b s s1 bName t _ W hs (by omega) hi (by simp) (.name bk t hx)
  · exact walk_name V b b1 s s1 bk W t hs hi kb hx hl

set_option maxHeartbeats 2000000 in
set_option maxRecDepth 100000 in
theorem walk_paren {β σ : Type} (V : Vis β σ) (D : Nat) (IH : WalkC V D) (b b1 : β) (s s1 : σ) (bk : Nat) (W : World) (hst : V.step b s (some (bParen, ⟨#[]⟩)) = (s1, some b1)) (hi : V.inv s W) (kb : V.K bk) (m0 : S24) (v0 : Value) (hc0 : W.cell? ⟨bk, 1, none⟩ = some v0) (ht0 : Tree V.K W D m0 v0) (hl : V.len s + (8 + cnt D m0) ≤ V.M) :
    Calls Tryz.prog 26 #[.iface V.T (V.xv b), .iface 74 (.pointer (some ⟨bk, 0, none⟩))] W fun e W' => e = .returned (.tuple #[]) ∧ V.inv (V.step b1 (V.trav D b1 s1 m0) none).1 W' ∧ Fr V.K W W' := by
  have hl1 := V.step_len hst
  have hl2 := V.trav_len D b1 s1 m0
  have HK0 := Aside0.mk (fun W1 (h : V.inv s1 W1) (hf : Fr V.K W W1) => IH b1 s1 m0 v0 W1 (hf.tree ht0) h (by omega))
  have HC := Aside0.mk (V.go_call hst (by omega) hi (v := .iface 74 (.pointer (some ⟨bk, 0, none⟩))) (by simp) (.paren bk))
  have HE := Aside0.mk (V.end_call b1 (V.trav D b1 s1 m0) (by omega))
  have HKB := Aside0.mk kb
  have HC0 := Aside0.mk hc0
  have hm := V.hm
  have hcf := V.hcf
  have n85 := no85 74 (by decide)
  have n86 := no86 74 (by decide)
  have n91 := no91 74 (by decide)
  have n96 := no96 74 (by decide)
  have n101 := no101 74 (by decide)
  have n56 := no56 74 (by decide)
  have n70 := no70 74 (by decide)
  have n102 := no102 74 (by decide)
  have n105 := no105 74 (by decide)
  have n110 := no110 74 (by decide)
  have y74 := yes74
  clear hst hi kb hl hl1 hl2 ht0 hc0 IH
  go_enter Tryz.func26, Tryz.ntmps26
  go_wp2_with (first
    | ((with_reducible refine HC.out.mono ?_); rintro e W1 ⟨rfl, hI1, hF1⟩; have HI1 := Aside0.mk hI1; have HF1 := Aside0.mk hF1; have c0 := hF1.cell HKB.out HC0.out; clear hI1 hF1)
    | ((with_reducible refine (HK0.out _ ?hI ?hF).mono ?_); (case hI => exact HI1.out); (case hF => exact HF1.out); rintro e W2 ⟨rfl, hI, hF⟩; have HI2 := Aside0.mk hI; have HF2 := Aside0.mk (HF1.out.trans hF); clear hI hF)
    | ((with_reducible refine (HE.out _ ?hI).mono ?_); (case hI => exact HI2.out); rintro e W9 ⟨ve, rfl, hI9, hF9⟩; have HI9 := Aside0.mk hI9; have HF9 := Aside0.mk hF9; clear hI9 hF9))
  first | (refine bodyPost_ret (results_none rfl _ _ _) rfl ?_) | (refine bodyPost_end (results_none rfl _ _ _) rfl ?_)
  exact ⟨rfl, HI9.out, HF2.out.trans HF9.out⟩

set_option maxHeartbeats 2000000 in
set_option maxRecDepth 100000 in
theorem walk_star {β σ : Type} (V : Vis β σ) (D : Nat) (IH : WalkC V D) (b b1 : β) (s s1 : σ) (bk : Nat) (W : World) (hst : V.step b s (some (bUn, ⟨#[]⟩)) = (s1, some b1)) (hi : V.inv s W) (kb : V.K bk) (m0 : S24) (v0 : Value) (hc0 : W.cell? ⟨bk, 1, none⟩ = some v0) (ht0 : Tree V.K W D m0 v0) (hl : V.len s + (8 + cnt D m0) ≤ V.M) :
    Calls Tryz.prog 26 #[.iface V.T (V.xv b), .iface 77 (.pointer (some ⟨bk, 0, none⟩))] W fun e W' => e = .returned (.tuple #[]) ∧ V.inv (V.step b1 (V.trav D b1 s1 m0) none).1 W' ∧ Fr V.K W W' := by
  have hl1 := V.step_len hst
  have hl2 := V.trav_len D b1 s1 m0
  have HK0 := Aside0.mk (fun W1 (h : V.inv s1 W1) (hf : Fr V.K W W1) => IH b1 s1 m0 v0 W1 (hf.tree ht0) h (by omega))
  have HC := Aside0.mk (V.go_call hst (by omega) hi (v := .iface 77 (.pointer (some ⟨bk, 0, none⟩))) (by simp) (.star bk))
  have HE := Aside0.mk (V.end_call b1 (V.trav D b1 s1 m0) (by omega))
  have HKB := Aside0.mk kb
  have HC0 := Aside0.mk hc0
  have hm := V.hm
  have hcf := V.hcf
  have n85 := no85 77 (by decide)
  have n86 := no86 77 (by decide)
  have n91 := no91 77 (by decide)
  have n96 := no96 77 (by decide)
  have n101 := no101 77 (by decide)
  have n56 := no56 77 (by decide)
  have n70 := no70 77 (by decide)
  have n102 := no102 77 (by decide)
  have n105 := no105 77 (by decide)
  have n110 := no110 77 (by decide)
  have n74 := no74 77 (by decide)
  have n75 := no75 77 (by decide)
  have n76 := no76 77 (by decide)
  have n121 := no121 77 (by decide)
  have n124 := no124 77 (by decide)
  have n127 := no127 77 (by decide)
  have n80 := no80 77 (by decide)
  have y77 := yes77
  clear hst hi kb hl hl1 hl2 ht0 hc0 IH
  go_enter Tryz.func26, Tryz.ntmps26
  go_wp2_with (first
    | ((with_reducible refine HC.out.mono ?_); rintro e W1 ⟨rfl, hI1, hF1⟩; have HI1 := Aside0.mk hI1; have HF1 := Aside0.mk hF1; have c0 := hF1.cell HKB.out HC0.out; clear hI1 hF1)
    | ((with_reducible refine (HK0.out _ ?hI ?hF).mono ?_); (case hI => exact HI1.out); (case hF => exact HF1.out); rintro e W2 ⟨rfl, hI, hF⟩; have HI2 := Aside0.mk hI; have HF2 := Aside0.mk (HF1.out.trans hF); clear hI hF)
    | ((with_reducible refine (HE.out _ ?hI).mono ?_); (case hI => exact HI2.out); rintro e W9 ⟨ve, rfl, hI9, hF9⟩; have HI9 := Aside0.mk hI9; have HF9 := Aside0.mk hF9; clear hI9 hF9))
  first | (refine bodyPost_ret (results_none rfl _ _ _) rfl ?_) | (refine bodyPost_end (results_none rfl _ _ _) rfl ?_)
  exact ⟨rfl, HI9.out, HF2.out.trans HF9.out⟩

set_option maxHeartbeats 2000000 in
set_option maxRecDepth 100000 in
theorem walk_un {β σ : Type} (V : Vis β σ) (D : Nat) (IH : WalkC V D) (b b1 : β) (s s1 : σ) (bk : Nat) (W : World) (hst : V.step b s (some (bUn, ⟨#[]⟩)) = (s1, some b1)) (hi : V.inv s W) (kb : V.K bk) (m0 : S24) (v0 : Value) (hc0 : W.cell? ⟨bk, 2, none⟩ = some v0) (ht0 : Tree V.K W D m0 v0) (hl : V.len s + (8 + cnt D m0) ≤ V.M) :
    Calls Tryz.prog 26 #[.iface V.T (V.xv b), .iface 78 (.pointer (some ⟨bk, 0, none⟩))] W fun e W' => e = .returned (.tuple #[]) ∧ V.inv (V.step b1 (V.trav D b1 s1 m0) none).1 W' ∧ Fr V.K W W' := by
  have hl1 := V.step_len hst
  have hl2 := V.trav_len D b1 s1 m0
  have HK0 := Aside0.mk (fun W1 (h : V.inv s1 W1) (hf : Fr V.K W W1) => IH b1 s1 m0 v0 W1 (hf.tree ht0) h (by omega))
  have HC := Aside0.mk (V.go_call hst (by omega) hi (v := .iface 78 (.pointer (some ⟨bk, 0, none⟩))) (by simp) (.un bk))
  have HE := Aside0.mk (V.end_call b1 (V.trav D b1 s1 m0) (by omega))
  have HKB := Aside0.mk kb
  have HC0 := Aside0.mk hc0
  have hm := V.hm
  have hcf := V.hcf
  have n85 := no85 78 (by decide)
  have n86 := no86 78 (by decide)
  have n91 := no91 78 (by decide)
  have n96 := no96 78 (by decide)
  have n101 := no101 78 (by decide)
  have n56 := no56 78 (by decide)
  have n70 := no70 78 (by decide)
  have n102 := no102 78 (by decide)
  have n105 := no105 78 (by decide)
  have n110 := no110 78 (by decide)
  have n74 := no74 78 (by decide)
  have n75 := no75 78 (by decide)
  have n76 := no76 78 (by decide)
  have n121 := no121 78 (by decide)
  have n124 := no124 78 (by decide)
  have n127 := no127 78 (by decide)
  have n80 := no80 78 (by decide)
  have n77 := no77 78 (by decide)
  have y78 := yes78
  clear hst hi kb hl hl1 hl2 ht0 hc0 IH
  go_enter Tryz.func26, Tryz.ntmps26
  go_wp2_with (first
    | ((with_reducible refine HC.out.mono ?_); rintro e W1 ⟨rfl, hI1, hF1⟩; have HI1 := Aside0.mk hI1; have HF1 := Aside0.mk hF1; have c0 := hF1.cell HKB.out HC0.out; clear hI1 hF1)
    | ((with_reducible refine (HK0.out _ ?hI ?hF).mono ?_); (case hI => exact HI1.out); (case hF => exact HF1.out); rintro e W2 ⟨rfl, hI, hF⟩; have HI2 := Aside0.mk hI; have HF2 := Aside0.mk (HF1.out.trans hF); clear hI hF)
    | ((with_reducible refine (HE.out _ ?hI).mono ?_); (case hI => exact HI2.out); rintro e W9 ⟨ve, rfl, hI9, hF9⟩; have HI9 := Aside0.mk hI9; have HF9 := Aside0.mk hF9; clear hI9 hF9))
  first | (refine bodyPost_ret (results_none rfl _ _ _) rfl ?_) | (refine bodyPost_end (results_none rfl _ _ _) rfl ?_)
  exact ⟨rfl, HI9.out, HF2.out.trans HF9.out⟩

set_option maxHeartbeats 2000000 in
set_option maxRecDepth 100000 in
theorem walk_bin {β σ : Type} (V : Vis β σ) (D : Nat) (IH : WalkC V D) (b b1 : β) (s s1 : σ) (bk : Nat) (W : World) (hst : V.step b s (some (bBin, ⟨#[]⟩)) = (s1, some b1)) (hi : V.inv s W) (kb : V.K bk) (m0 : S24) (v0 : Value) (hc0 : W.cell? ⟨bk, 0, none⟩ = some v0) (ht0 : Tree V.K W D m0 v0) (m1 : S24) (v1 : Value) (hc1 : W.cell? ⟨bk, 3, none⟩ = some v1) (ht1 : Tree V.K W D m1 v1) (hl : V.len s + (8 + cnt D m0 + cnt D m1) ≤ V.M) :
    Calls Tryz.prog 26 #[.iface V.T (V.xv b), .iface 79 (.pointer (some ⟨bk, 0, none⟩))] W fun e W' => e = .returned (.tuple #[]) ∧ V.inv (V.step b1 (V.trav D b1 (V.trav D b1 s1 m0) m1) none).1 W' ∧ Fr V.K W W' := by
  have hl1 := V.step_len hst
  have hl2 := V.trav_len D b1 s1 m0
  have HK0 := Aside0.mk (fun W1 (h : V.inv s1 W1) (hf : Fr V.K W W1) => IH b1 s1 m0 v0 W1 (hf.tree ht0) h (by omega))
  have hl3 := V.trav_len D b1 (V.trav D b1 s1 m0) m1
  have HK1 := Aside0.mk (fun W1 (h : V.inv (V.trav D b1 s1 m0) W1) (hf : Fr V.K W W1) => IH b1 (V.trav D b1 s1 m0) m1 v1 W1 (hf.tree ht1) h (by omega))
  have HC := Aside0.mk (V.go_call hst (by omega) hi (v := .iface 79 (.pointer (some ⟨bk, 0, none⟩))) (by simp) (.bin bk))
  have HE := Aside0.mk (V.end_call b1 (V.trav D b1 (V.trav D b1 s1 m0) m1) (by omega))
  have HKB := Aside0.mk kb
  have HC0 := Aside0.mk hc0
  have HC1 := Aside0.mk hc1
  have hm := V.hm
  have hcf := V.hcf
  have n85 := no85 79 (by decide)
  have n86 := no86 79 (by decide)
  have n91 := no91 79 (by decide)
  have n96 := no96 79 (by decide)
  have n101 := no101 79 (by decide)
  have n56 := no56 79 (by decide)
  have n70 := no70 79 (by decide)
  have n102 := no102 79 (by decide)
  have n105 := no105 79 (by decide)
  have n110 := no110 79 (by decide)
  have n74 := no74 79 (by decide)
  have n75 := no75 79 (by decide)
  have n76 := no76 79 (by decide)
  have n121 := no121 79 (by decide)
  have n124 := no124 79 (by decide)
  have n127 := no127 79 (by decide)
  have n80 := no80 79 (by decide)
  have n77 := no77 79 (by decide)
  have n78 := no78 79 (by decide)
  have y79 := yes79
  clear hst hi kb hl hl1 hl2 ht0 hc0 hl3 ht1 hc1 IH
  go_enter Tryz.func26, Tryz.ntmps26
  go_wp2_with (first
    | ((with_reducible refine HC.out.mono ?_); rintro e W1 ⟨rfl, hI1, hF1⟩; have HI1 := Aside0.mk hI1; have HF1 := Aside0.mk hF1; have c0 := hF1.cell HKB.out HC0.out; clear hI1 hF1)
    | ((with_reducible refine (HK0.out _ ?hI ?hF).mono ?_); (case hI => exact HI1.out); (case hF => exact HF1.out); rintro e W2 ⟨rfl, hI, hF⟩; have HI2 := Aside0.mk hI; have c1 := (HF1.out.trans hF).cell HKB.out HC1.out; have HF2 := Aside0.mk (HF1.out.trans hF); clear hI hF)
    | ((with_reducible refine (HK1.out _ ?hI ?hF).mono ?_); (case hI => exact HI2.out); (case hF => exact HF2.out); rintro e W3 ⟨rfl, hI, hF⟩; have HI3 := Aside0.mk hI; have HF3 := Aside0.mk (HF2.out.trans hF); clear hI hF)
    | ((with_reducible refine (HE.out _ ?hI).mono ?_); (case hI => exact HI3.out); rintro e W9 ⟨ve, rfl, hI9, hF9⟩; have HI9 := Aside0.mk hI9; have HF9 := Aside0.mk hF9; clear hI9 hF9))
  first | (refine bodyPost_ret (results_none rfl _ _ _) rfl ?_) | (refine bodyPost_end (results_none rfl _ _ _) rfl ?_)
  exact ⟨rfl, HI9.out, HF3.out.trans HF9.out⟩

set_option maxHeartbeats 2000000 in
set_option maxRecDepth 100000 in
theorem walk_idx {β σ : Type} (V : Vis β σ) (D : Nat) (IH : WalkC V D) (b b1 : β) (s s1 : σ) (bk : Nat) (W : World) (hst : V.step b s (some (bIdx, ⟨#[]⟩)) = (s1, some b1)) (hi : V.inv s W) (kb : V.K bk) (m0 : S24) (v0 : Value) (hc0 : W.cell? ⟨bk, 0, none⟩ = some v0) (ht0 : Tree V.K W D m0 v0) (m1 : S24) (v1 : Value) (hc1 : W.cell? ⟨bk, 2, none⟩ = some v1) (ht1 : Tree V.K W D m1 v1) (hl : V.len s + (8 + cnt D m0 + cnt D m1) ≤ V.M) :
    Calls Tryz.prog 26 #[.iface V.T (V.xv b), .iface 76 (.pointer (some ⟨bk, 0, none⟩))] W fun e W' => e = .returned (.tuple #[]) ∧ V.inv (V.step b1 (V.trav D b1 (V.trav D b1 s1 m0) m1) none).1 W' ∧ Fr V.K W W' := by
  have hl1 := V.step_len hst
  have hl2 := V.trav_len D b1 s1 m0
  have HK0 := Aside0.mk (fun W1 (h : V.inv s1 W1) (hf : Fr V.K W W1) => IH b1 s1 m0 v0 W1 (hf.tree ht0) h (by omega))
  have hl3 := V.trav_len D b1 (V.trav D b1 s1 m0) m1
  have HK1 := Aside0.mk (fun W1 (h : V.inv (V.trav D b1 s1 m0) W1) (hf : Fr V.K W W1) => IH b1 (V.trav D b1 s1 m0) m1 v1 W1 (hf.tree ht1) h (by omega))
  have HC := Aside0.mk (V.go_call hst (by omega) hi (v := .iface 76 (.pointer (some ⟨bk, 0, none⟩))) (by simp) (.idx bk))
  have HE := Aside0.mk (V.end_call b1 (V.trav D b1 (V.trav D b1 s1 m0) m1) (by omega))
  have HKB := Aside0.mk kb
  have HC0 := Aside0.mk hc0
  have HC1 := Aside0.mk hc1
  have hm := V.hm
  have hcf := V.hcf
  have n85 := no85 76 (by decide)
  have n86 := no86 76 (by decide)
  have n91 := no91 76 (by decide)
  have n96 := no96 76 (by decide)
  have n101 := no101 76 (by decide)
  have n56 := no56 76 (by decide)
  have n70 := no70 76 (by decide)
  have n102 := no102 76 (by decide)
  have n105 := no105 76 (by decide)
  have n110 := no110 76 (by decide)
  have n74 := no74 76 (by decide)
  have n75 := no75 76 (by decide)
  have y76 := yes76
  clear hst hi kb hl hl1 hl2 ht0 hc0 hl3 ht1 hc1 IH
  go_enter Tryz.func26, Tryz.ntmps26
  go_wp2_with (first
    | ((with_reducible refine HC.out.mono ?_); rintro e W1 ⟨rfl, hI1, hF1⟩; have HI1 := Aside0.mk hI1; have HF1 := Aside0.mk hF1; have c0 := hF1.cell HKB.out HC0.out; clear hI1 hF1)
    | ((with_reducible refine (HK0.out _ ?hI ?hF).mono ?_); (case hI => exact HI1.out); (case hF => exact HF1.out); rintro e W2 ⟨rfl, hI, hF⟩; have HI2 := Aside0.mk hI; have c1 := (HF1.out.trans hF).cell HKB.out HC1.out; have HF2 := Aside0.mk (HF1.out.trans hF); clear hI hF)
    | ((with_reducible refine (HK1.out _ ?hI ?hF).mono ?_); (case hI => exact HI2.out); (case hF => exact HF2.out); rintro e W3 ⟨rfl, hI, hF⟩; have HI3 := Aside0.mk hI; have HF3 := Aside0.mk (HF2.out.trans hF); clear hI hF)
    | ((with_reducible refine (HE.out _ ?hI).mono ?_); (case hI => exact HI3.out); rintro e W9 ⟨ve, rfl, hI9, hF9⟩; have HI9 := Aside0.mk hI9; have HF9 := Aside0.mk hF9; clear hI9 hF9))
  first | (refine bodyPost_ret (results_none rfl _ _ _) rfl ?_) | (refine bodyPost_end (results_none rfl _ _ _) rfl ?_)
  exact ⟨rfl, HI9.out, HF3.out.trans HF9.out⟩

set_option maxHeartbeats 2000000 in
set_option maxRecDepth 100000 in
theorem walk_sel {β σ : Type} (V : Vis β σ) (D : Nat) (IH : WalkC V D) (b b1 : β) (s s1 : σ) (bk : Nat) (W : World) (hst : V.step b s (some (bSel, ⟨#[]⟩)) = (s1, some b1)) (hi : V.inv s W) (kb : V.K bk) (m0 : S24) (v0 : Value) (hc0 : W.cell? ⟨bk, 0, none⟩ = some v0) (ht0 : Tree V.K W D m0 v0) (bi : Nat) (ti : ByteArray) (hci : W.cell? ⟨bk, 1, none⟩ = some (.pointer (some ⟨bi, 0, none⟩))) (ki : V.K bi) (hti : W.cell? ⟨bi, 1, none⟩ = some (.string ti)) (hl : V.len s + (8 + cnt D m0) ≤ V.M) :
    Calls Tryz.prog 26 #[.iface V.T (V.xv b), .iface 75 (.pointer (some ⟨bk, 0, none⟩))] W fun e W' => e = .returned (.tuple #[]) ∧ V.inv (V.step b1 (V.leaf b1 (V.trav D b1 s1 m0) bName ti) none).1 W' ∧ Fr V.K W W' := by
  have hl1 := V.step_len hst
  have hl2 := V.trav_len D b1 s1 m0
  have HK0 := Aside0.mk (fun W1 (h : V.inv s1 W1) (hf : Fr V.K W W1) => IH b1 s1 m0 v0 W1 (hf.tree ht0) h (by omega))
  have hl9 := V.leaf_len b1 (V.trav D b1 s1 m0) bName ti
  have HKI := Aside0.mk (fun W1 (h : V.inv (V.trav D b1 s1 m0) W1) (hf : Fr V.K W W1) => walk_ident V b1 (V.trav D b1 s1 m0) bi ti W1 h ki (hf.cell ki hti) (by omega))
  have HC := Aside0.mk (V.go_call hst (by omega) hi (v := .iface 75 (.pointer (some ⟨bk, 0, none⟩))) (by simp) (.sel bk))
  have HE := Aside0.mk (V.end_call b1 (V.leaf b1 (V.trav D b1 s1 m0) bName ti) (by omega))
  have HKB := Aside0.mk kb
  have HC0 := Aside0.mk hc0
  have HCI := Aside0.mk hci
  have hm := V.hm
  have hcf := V.hcf
  have n85 := no85 75 (by decide)
  have n86 := no86 75 (by decide)
  have n91 := no91 75 (by decide)
  have n96 := no96 75 (by decide)
  have n101 := no101 75 (by decide)
  have n56 := no56 75 (by decide)
  have n70 := no70 75 (by decide)
  have n102 := no102 75 (by decide)
  have n105 := no105 75 (by decide)
  have n110 := no110 75 (by decide)
  have n74 := no74 75 (by decide)
  have y75 := yes75
  clear hst hi kb hl hl1 hl2 ht0 hc0 hl9 hci ki hti IH
  go_enter Tryz.func26, Tryz.ntmps26
  go_wp2_with (first
    | ((with_reducible refine HC.out.mono ?_); rintro e W1 ⟨rfl, hI1, hF1⟩; have HI1 := Aside0.mk hI1; have HF1 := Aside0.mk hF1; have c0 := hF1.cell HKB.out HC0.out; clear hI1 hF1)
    | ((with_reducible refine (HK0.out _ ?hI ?hF).mono ?_); (case hI => exact HI1.out); (case hF => exact HF1.out); rintro e W2 ⟨rfl, hI, hF⟩; have HI2 := Aside0.mk hI; have c1 := (HF1.out.trans hF).cell HKB.out HCI.out; have HF2 := Aside0.mk (HF1.out.trans hF); clear hI hF)
    | ((with_reducible refine (HKI.out _ ?hI ?hF).mono ?_); (case hI => exact HI2.out); (case hF => exact HF2.out); rintro e W3 ⟨rfl, hI, hF⟩; have HI3 := Aside0.mk hI; have HF3 := Aside0.mk (HF2.out.trans hF); clear hI hF)
    | ((with_reducible refine (HE.out _ ?hI).mono ?_); (case hI => exact HI3.out); rintro e W9 ⟨ve, rfl, hI9, hF9⟩; have HI9 := Aside0.mk hI9; have HF9 := Aside0.mk hF9; clear hI9 hF9))
  first | (refine bodyPost_ret (results_none rfl _ _ _) rfl ?_) | (refine bodyPost_end (results_none rfl _ _ _) rfl ?_)
  exact ⟨rfl, HI9.out, HF3.out.trans HF9.out⟩

end Go.Proofs.YtdcaabjkklppjaaGreatFmt.A
