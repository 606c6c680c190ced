/- ast.Walk at a tree of an expression, for whatever visitor: an end is told of only where one is due; the node's value is told of. -/
import Derived.Test.YtdcaabjkklppjaaGreatFmtGWalk3
namespace Go.Proofs.YtdcaabjkklppjaaGreatFmt.A.St
open Go.RowKit Go.Proofs.YtdcaabjkklppjaaGreatFmtW.PrintWords Go.Proofs.YtdcaabjkklppjaaGreatFmtW.PrintLast Go.Proofs.YtdcaabjkklppjaaGreatFmtW.PrintMore
set_option linter.unusedVariables false
set_option linter.unusedSimpArgs false
attribute [local go_sem ↓] Go.wp_at_zero Go.wp_at_succ

/-- The types of the pointers to nodes. -/
abbrev OkN (T : Nat) : Prop := T ∈ [56, 70, 74, 75, 76, 77, 78, 79, 80]
/-- What a visitor is handed: a node, told by its kind and its text, its block of the kind K; or nil. -/
def SeenO (K : Nat → Prop) (W : World) (v : Value) : Option (ByteArray × ByteArray) → Prop
  | some x => Seen W v x.1 x.2 ∧ ∃ T b, OkN T ∧ v = .iface T (.pointer (some ⟨b, 0, none⟩)) ∧ K b
  | none => v = .nilIface
/-- A visitor: dep: how many ends are due. -/
structure Vis (β σ : Type) where
  T : Nat
  fn : Nat
  xv : β → Value
  rc : β → Value
  step : β → σ → Option (ByteArray × ByteArray) → σ × Option β
  len : σ → Nat
  dep : σ → Nat
  inv : σ → World → Prop
  K : Nat → Prop
  M : Nat
  hm : ∀ b w, (method 429 T (xv b) "Visit").run Tryz.prog w = .ok (fn, rc b) w
  hcf : ∀ args w, (callFunc fn args).run Tryz.prog w = .ok (.enter fn args) w
  hlen : ∀ b s x, len (step b s x).1 ≤ len s + 1
  hgo : ∀ {b s x s1 b1}, step b s (some x) = (s1, some b1) → dep s1 = dep s + 1
  hsp : ∀ {b s x s1}, step b s (some x) = (s1, none) → dep s1 = dep s
  hnil : ∀ b s, 0 < dep s → dep (step b s none).1 + 1 = dep s
  call : ∀ b s x v W, len s < M → (x = none → 0 < dep s) → inv s W → SeenO K W v x → Calls Tryz.prog fn #[rc b, v] W fun e W' => e = .returned (match (step b s x).2 with | none => .nilIface | some b' => .iface T (xv b')) ∧ inv (step b s x).1 W' ∧ Fr K W W'

namespace Vis
variable {β σ : Type} (V : Vis β σ)
/-- The visit of a name that a selector selects. -/
def leaf (b : β) (s : σ) (k t : ByteArray) : σ := match V.step b s (some (k, t)) with
  | (s1, none) => s1
  | (s1, some b1) => (V.step b1 s1 none).1
def sel (b : β) (n : S24) (s : σ) : σ := if n.f0 = bSel then V.leaf b s bName n.f1 else s
/-- What a walk over a tree leaves noted. -/
def trav : Nat → β → σ → S24 → σ
  | 0, _, s, _ => s
  | D + 1, b, s, n => match V.step b s (some (kindB n, textB n)) with
    | (s1, none) => s1
    | (s1, some b1) => (V.step b1 (V.sel b1 n (foldTo (fun s i => trav D b1 s (rd_T24 n.f2 (i : Int))) s1 (nk n))) none).1
theorem step_len {b : β} {s : σ} {x : Option (ByteArray × ByteArray)} {s1 : σ} {o : Option β} (h : V.step b s x = (s1, o)) : V.len s1 ≤ V.len s + 1 := by
  have := V.hlen b s x
  rw [h] at this
  exact this
theorem leaf_len (b : β) (s : σ) (k t : ByteArray) : V.len (V.leaf b s k t) ≤ V.len s + 2 := by
  unfold leaf
  split
  next s1 h => have := V.step_len h; omega
  next s1 b1 h =>
    have := V.step_len h
    have := V.hlen b1 s1 none
    omega
theorem trav_len : ∀ (D : Nat) (b : β) (s : σ) (n : S24), V.len (V.trav D b s n) ≤ V.len s + cnt D n
  | 0, _, s, _ => Nat.le_refl _
  | D + 1, b, s, n => by
    rw [trav, cnt]
    split
    next s1 h => have := V.step_len h; omega
    next s1 b1 h =>
      have h1 := V.step_len h
      have h2 := fold_len V.len (fun s i => V.trav D b1 s (rd_T24 n.f2 (i : Int))) (fun i => cnt D (rd_T24 n.f2 (i : Int))) (fun s i => trav_len D b1 s _) s1 (nk n)
      have h3 : V.len (V.sel b1 n (foldTo (fun s i => V.trav D b1 s (rd_T24 n.f2 (i : Int))) s1 (nk n))) ≤ V.len (foldTo (fun s i => V.trav D b1 s (rd_T24 n.f2 (i : Int))) s1 (nk n)) + 2 := by
        unfold sel
        split
        · exact V.leaf_len _ _ _ _
        · omega
      have h4 := V.hlen b1 (V.sel b1 n (foldTo (fun s i => V.trav D b1 s (rd_T24 n.f2 (i : Int))) s1 (nk n))) none
      omega
theorem leaf_dep (b : β) (s : σ) (k t : ByteArray) : V.dep (V.leaf b s k t) = V.dep s := by
  unfold leaf
  split
  next s1 h => exact V.hsp h
  next s1 b1 h =>
    have h1 := V.hgo h
    have h2 := V.hnil b1 s1 (by omega)
    show V.dep (V.step b1 s1 none).1 = V.dep s
    omega
theorem fold_dep_of (f : σ → Nat → σ) (h : ∀ s i, V.dep (f s i) = V.dep s) (s : σ) : ∀ m, V.dep (foldTo f s m) = V.dep s
  | 0 => rfl
  | m + 1 => by rw [foldTo, h, fold_dep_of f h s m]
theorem trav_dep : ∀ (D : Nat) (b : β) (s : σ) (n : S24), V.dep (V.trav D b s n) = V.dep s
  | 0, _, s, _ => rfl
  | D + 1, b, s, n => by
    rw [trav]
    split
    next s1 h => exact V.hsp h
    next s1 b1 h =>
      have h1 := V.hgo h
      have h2 := V.fold_dep_of (fun s i => V.trav D b1 s (rd_T24 n.f2 (i : Int))) (fun s i => trav_dep D b1 s _) s1 (nk n)
      have h3 : V.dep (V.sel b1 n (foldTo (fun s i => V.trav D b1 s (rd_T24 n.f2 (i : Int))) s1 (nk n))) = V.dep (foldTo (fun s i => V.trav D b1 s (rd_T24 n.f2 (i : Int))) s1 (nk n)) := by
        unfold sel
        split
        · exact V.leaf_dep _ _ _ _
        · rfl
      have h4 := V.hnil b1 (V.sel b1 n (foldTo (fun s i => V.trav D b1 s (rd_T24 n.f2 (i : Int))) s1 (nk n))) (by omega)
      show V.dep (V.step b1 (V.sel b1 n (foldTo (fun s i => V.trav D b1 s (rd_T24 n.f2 (i : Int))) s1 (nk n))) none).1 = V.dep s
      omega
theorem fold_dep (D : Nat) (b : β) (s : σ) (kid : Nat → S24) (m : Nat) : V.dep (foldTo (fun s i => V.trav D b s (kid i)) s m) = V.dep s := V.fold_dep_of _ (fun s i => V.trav_dep D b s _) s m
end Vis
/-- The walk's contract at trees so deep. -/
def WalkC {β σ : Type} (V : Vis β σ) (D : Nat) : Prop := ∀ (b : β) (s : σ) (n : S24) (v : Value) (W : World), Tree V.K W D n v → V.inv s W → V.len s + cnt D n ≤ V.M →
    Calls Tryz.prog 26 #[.iface V.T (V.xv b), v] W fun e W' => e = .returned (.tuple #[]) ∧ V.inv (V.trav D b s n) W' ∧ Fr V.K W W'

set_option maxHeartbeats 1000000 in
set_option maxRecDepth 100000 in
/-- The visitor says no more. -/
theorem walk_stop {β σ : Type} (V : Vis β σ) (b : β) (s s1 : σ) (k t : ByteArray) (v : Value) (W : World) (hst : V.step b s (some (k, t)) = (s1, none)) (hl : V.len s < V.M) (hi : V.inv s W) {T bk : Nat} (hT : OkN T) (kb : V.K bk) (hv : v = .iface T (.pointer (some ⟨bk, 0, none⟩))) (hs : Seen W v k t) :
    Calls Tryz.prog 26 #[.iface V.T (V.xv b), v] W fun e W' => e = .returned (.tuple #[]) ∧ V.inv s1 W' ∧ Fr V.K W W' := by
  have hcall := V.call b s (some (k, t)) v W hl (fun h => by cases h) hi ⟨hs, T, bk, hT, hv, kb⟩
  rw [hst] at hcall
  have HC := Aside0.mk hcall
  have hm := V.hm b
  have hcf := V.hcf
  clear hcall hst hl hi hv hs hT kb
  go_enter Tryz.func26, Tryz.ntmps26
  go_wp2_with (first | ((with_reducible refine HC.out.mono ?_); rintro e W1 ⟨rfl, hI1, hF1⟩; have HI1 := Aside0.mk hI1; have HF1 := Aside0.mk hF1; clear hI1 hF1))
  refine bodyPost_ret (results_none rfl _ _ _) rfl ?_
  exact ⟨rfl, HI1.out, HF1.out⟩
theorem formN {K : Nat → Prop} {W : World} {D : Nat} {n : S24} {v : Value} (h : Tree K W D n v) : ∃ T b, v = .iface T (.pointer (some ⟨b, 0, none⟩)) ∧ OkN T ∧ K b := by
  cases D with
  | zero => exact h.elim
  | succ D =>
    unfold Tree at h
    rcases h with ⟨h0, bk, rfl, kb, c1⟩ | ⟨h0, bk, rfl, kb, c1⟩ | ⟨h0, hlen, bk, v0, rfl, kb, c1, t0⟩ | ⟨h0, hlen, bk, v0, bi, rfl, kb, c1, c2, kb1, c3, t0⟩ | ⟨h0, hlen, bk, v0, kb, ⟨rfl, c1⟩ | ⟨rfl, c1⟩, t0⟩ | ⟨h0, hlen, bk, v0, v1, rfl, kb, c1, c2, t0, t1⟩ | ⟨h0, hlen, bk, v0, v1, rfl, kb, c1, c2, t0, t1⟩ | ⟨h0, hlen, bk, v0, A, c, rfl, kb, c1, c2, t0, ts⟩
    all_goals exact ⟨_, bk, rfl, by decide, kb⟩
theorem Vis.go_call {β σ : Type} (V : Vis β σ) {b b1 : β} {s s1 : σ} {k t : ByteArray} {W : World} (hst : V.step b s (some (k, t)) = (s1, some b1)) (hl : V.len s < V.M) (hi : V.inv s W) {T bk : Nat} (hT : OkN T) (kb : V.K bk) (hs : Seen W (.iface T (.pointer (some ⟨bk, 0, none⟩))) k t) :
    Calls Tryz.prog V.fn #[V.rc b, .iface T (.pointer (some ⟨bk, 0, none⟩))] W fun e W' => e = .returned (.iface V.T (V.xv b1)) ∧ V.inv s1 W' ∧ Fr V.K W W' := by
  have hcall := V.call b s (some (k, t)) _ W hl (fun h => by cases h) hi ⟨hs, T, bk, hT, rfl, kb⟩
  rw [hst] at hcall
  exact hcall
theorem Vis.end_call {β σ : Type} (V : Vis β σ) (b : β) (s : σ) (hl : V.len s < V.M) (hd : 0 < V.dep s) (W : World) (hi : V.inv s W) :
    Calls Tryz.prog V.fn #[V.rc b, .nilIface] W fun e W' => ∃ ve, e = .returned ve ∧ V.inv (V.step b s none).1 W' ∧ Fr V.K W W' :=
  (V.call b s none .nilIface W hl (fun _ => hd) hi rfl).mono fun e W' ⟨h1, h2, h3⟩ => ⟨_, h1, h2, h3⟩

set_option maxHeartbeats 2000000 in
set_option maxRecDepth 100000 in
theorem walk_name {β σ : Type} (V : Vis β σ) (b b1 : β) (s s1 : σ) (bk : Nat) (W : World) (t : ByteArray) (hst : V.step b s (some (bName, t)) = (s1, some b1)) (hi : V.inv s W) (kb : V.K bk) (hx : W.cell? ⟨bk, 1, none⟩ = some (.string t)) (hl : V.len s + 4 ≤ V.M) :
    Calls Tryz.prog 26 #[.iface V.T (V.xv b), .iface 56 (.pointer (some ⟨bk, 0, none⟩))] W fun e W' => e = .returned (.tuple #[]) ∧ V.inv (V.step b1 s1 none).1 W' ∧ Fr V.K W W' := by
  have hl1 := V.step_len hst
  have HC := Aside0.mk (V.go_call hst (by omega) hi (T := 56) (bk := bk) (by decide) kb (.name bk t hx))
  have HE := Aside0.mk (V.end_call b1 s1 (by omega) (by have h9 := V.hgo hst; first | omega | (simp only [V.fold_dep, V.trav_dep, V.leaf_dep]; omega)))
  have HKB := Aside0.mk kb
  have hm := V.hm
  have hcf := V.hcf
  have n85 := no85 56 (by decide)
  have n86 := no86 56 (by decide)
  have n91 := no91 56 (by decide)
  have n96 := no96 56 (by decide)
  have n101 := no101 56 (by decide)
  have n70 := no70 56 (by decide)
  have y56 := yes56
  clear hst hi kb hl hl1 hx
  go_enter Tryz.func26, Tryz.ntmps26
  go_wp2_with (first
    | ((with_reducible refine HC.out.mono ?_); rintro e W1 ⟨rfl, hI1, hF1⟩; have HI1 := Aside0.mk hI1; have HF1 := Aside0.mk hF1; clear hI1 hF1)
    | ((with_reducible refine (HE.out _ ?hI).mono ?_); (case hI => exact HI1.out); rintro e W9 ⟨ve, rfl, hI9, hF9⟩; have HI9 := Aside0.mk hI9; have HF9 := Aside0.mk hF9; clear hI9 hF9))
  first | (refine bodyPost_ret (results_none rfl _ _ _) rfl ?_) | (refine bodyPost_end (results_none rfl _ _ _) rfl ?_)
  exact ⟨rfl, HI9.out, HF1.out.trans HF9.out⟩

set_option maxHeartbeats 2000000 in
set_option maxRecDepth 100000 in
theorem walk_lit {β σ : Type} (V : Vis β σ) (b b1 : β) (s s1 : σ) (bk : Nat) (W : World) (t : ByteArray) (hst : V.step b s (some (bLit, t)) = (s1, some b1)) (hi : V.inv s W) (kb : V.K bk) (hx : W.cell? ⟨bk, 3, none⟩ = some (.string t)) (hl : V.len s + 4 ≤ V.M) :
    Calls Tryz.prog 26 #[.iface V.T (V.xv b), .iface 70 (.pointer (some ⟨bk, 0, none⟩))] W fun e W' => e = .returned (.tuple #[]) ∧ V.inv (V.step b1 s1 none).1 W' ∧ Fr V.K W W' := by
  have hl1 := V.step_len hst
  have HC := Aside0.mk (V.go_call hst (by omega) hi (T := 70) (bk := bk) (by decide) kb (.lit bk t hx))
  have HE := Aside0.mk (V.end_call b1 s1 (by omega) (by have h9 := V.hgo hst; first | omega | (simp only [V.fold_dep, V.trav_dep, V.leaf_dep]; omega)))
  have HKB := Aside0.mk kb
  have hm := V.hm
  have hcf := V.hcf
  have n85 := no85 70 (by decide)
  have n86 := no86 70 (by decide)
  have n91 := no91 70 (by decide)
  have n96 := no96 70 (by decide)
  have n101 := no101 70 (by decide)
  have n56 := no56 70 (by decide)
  have y70 := yes70
  clear hst hi kb hl hl1 hx
  go_enter Tryz.func26, Tryz.ntmps26
  go_wp2_with (first
    | ((with_reducible refine HC.out.mono ?_); rintro e W1 ⟨rfl, hI1, hF1⟩; have HI1 := Aside0.mk hI1; have HF1 := Aside0.mk hF1; clear hI1 hF1)
    | ((with_reducible refine (HE.out _ ?hI).mono ?_); (case hI => exact HI1.out); rintro e W9 ⟨ve, rfl, hI9, hF9⟩; have HI9 := Aside0.mk hI9; have HF9 := Aside0.mk hF9; clear hI9 hF9))
  first | (refine bodyPost_ret (results_none rfl _ _ _) rfl ?_) | (refine bodyPost_end (results_none rfl _ _ _) rfl ?_)
  exact ⟨rfl, HI9.out, HF1.out.trans HF9.out⟩

/-- A name: whatever the visitor says. -/
theorem walk_ident {β σ : Type} (V : Vis β σ) (b : β) (s : σ) (bk : Nat) (t : ByteArray) (W : World) (hi : V.inv s W) (kb : V.K bk) (hx : W.cell? ⟨bk, 1, none⟩ = some (.string t)) (hl : V.len s + 4 ≤ V.M) :
    Calls Tryz.prog 26 #[.iface V.T (V.xv b), .iface 56 (.pointer (some ⟨bk, 0, none⟩))] W fun e W' => e = .returned (.tuple #[]) ∧ V.inv (V.leaf b s bName t) W' ∧ Fr V.K W W' := by
  unfold Vis.leaf
  rcases hs : V.step b s (some (bName, t)) with ⟨s1, _ | b1⟩
  · exact walk_stop V b s s1 bName t _ W hs (by omega) hi (T := 56) (bk := bk) (by decide) kb rfl (.name bk t hx)
  · exact walk_name V b b1 s s1 bk W t hs hi kb hx hl

set_option maxHeartbeats 2000000 in
set_option maxRecDepth 100000 in
theorem walk_paren {β σ : Type} (V : Vis β σ) (D : Nat) (IH : WalkC V D) (b b1 : β) (s s1 : σ) (bk : Nat) (W : World) (hst : V.step b s (some (bParen, ⟨#[]⟩)) = (s1, some b1)) (hi : V.inv s W) (kb : V.K bk) (m0 : S24) (v0 : Value) (hc0 : W.cell? ⟨bk, 1, none⟩ = some v0) (ht0 : Tree V.K W D m0 v0) (hl : V.len s + (8 + cnt D m0) ≤ V.M) :
    Calls Tryz.prog 26 #[.iface V.T (V.xv b), .iface 74 (.pointer (some ⟨bk, 0, none⟩))] W fun e W' => e = .returned (.tuple #[]) ∧ V.inv (V.step b1 (V.trav D b1 s1 m0) none).1 W' ∧ Fr V.K W W' := by
  have hl1 := V.step_len hst
  have hl2 := V.trav_len D b1 s1 m0
  have HK0 := Aside0.mk (fun W1 (h : V.inv s1 W1) (hf : Fr V.K W W1) => IH b1 s1 m0 v0 W1 (hf.tree ht0) h (by omega))
  have HC := Aside0.mk (V.go_call hst (by omega) hi (T := 74) (bk := bk) (by decide) kb (.paren bk))
  have HE := Aside0.mk (V.end_call b1 (V.trav D b1 s1 m0) (by omega) (by have h9 := V.hgo hst; first | omega | (simp only [V.fold_dep, V.trav_dep, V.leaf_dep]; omega)))
  have HKB := Aside0.mk kb
  have HC0 := Aside0.mk hc0
  have hm := V.hm
  have hcf := V.hcf
  have n85 := no85 74 (by decide)
  have n86 := no86 74 (by decide)
  have n91 := no91 74 (by decide)
  have n96 := no96 74 (by decide)
  have n101 := no101 74 (by decide)
  have n56 := no56 74 (by decide)
  have n70 := no70 74 (by decide)
  have n102 := no102 74 (by decide)
  have n105 := no105 74 (by decide)
  have n110 := no110 74 (by decide)
  have y74 := yes74
  clear hst hi kb hl hl1 hl2 ht0 hc0 IH
  go_enter Tryz.func26, Tryz.ntmps26
  go_wp2_with (first
    | ((with_reducible refine HC.out.mono ?_); rintro e W1 ⟨rfl, hI1, hF1⟩; have HI1 := Aside0.mk hI1; have HF1 := Aside0.mk hF1; have c0 := hF1.cell HKB.out HC0.out; clear hI1 hF1)
    | ((with_reducible refine (HK0.out _ ?hI ?hF).mono ?_); (case hI => exact HI1.out); (case hF => exact HF1.out); rintro e W2 ⟨rfl, hI, hF⟩; have HI2 := Aside0.mk hI; have HF2 := Aside0.mk (HF1.out.trans hF); clear hI hF)
    | ((with_reducible refine (HE.out _ ?hI).mono ?_); (case hI => exact HI2.out); rintro e W9 ⟨ve, rfl, hI9, hF9⟩; have HI9 := Aside0.mk hI9; have HF9 := Aside0.mk hF9; clear hI9 hF9))
  first | (refine bodyPost_ret (results_none rfl _ _ _) rfl ?_) | (refine bodyPost_end (results_none rfl _ _ _) rfl ?_)
  exact ⟨rfl, HI9.out, HF2.out.trans HF9.out⟩

set_option maxHeartbeats 2000000 in
set_option maxRecDepth 100000 in
theorem walk_star {β σ : Type} (V : Vis β σ) (D : Nat) (IH : WalkC V D) (b b1 : β) (s s1 : σ) (bk : Nat) (W : World) (hst : V.step b s (some (bUn, ⟨#[]⟩)) = (s1, some b1)) (hi : V.inv s W) (kb : V.K bk) (m0 : S24) (v0 : Value) (hc0 : W.cell? ⟨bk, 1, none⟩ = some v0) (ht0 : Tree V.K W D m0 v0) (hl : V.len s + (8 + cnt D m0) ≤ V.M) :
    Calls Tryz.prog 26 #[.iface V.T (V.xv b), .iface 77 (.pointer (some ⟨bk, 0, none⟩))] W fun e W' => e = .returned (.tuple #[]) ∧ V.inv (V.step b1 (V.trav D b1 s1 m0) none).1 W' ∧ Fr V.K W W' := by
  have hl1 := V.step_len hst
  have hl2 := V.trav_len D b1 s1 m0
  have HK0 := Aside0.mk (fun W1 (h : V.inv s1 W1) (hf : Fr V.K W W1) => IH b1 s1 m0 v0 W1 (hf.tree ht0) h (by omega))
  have HC := Aside0.mk (V.go_call hst (by omega) hi (T := 77) (bk := bk) (by decide) kb (.star bk))
  have HE := Aside0.mk (V.end_call b1 (V.trav D b1 s1 m0) (by omega) (by have h9 := V.hgo hst; first | omega | (simp only [V.fold_dep, V.trav_dep, V.leaf_dep]; omega)))
  have HKB := Aside0.mk kb
  have HC0 := Aside0.mk hc0
  have hm := V.hm
  have hcf := V.hcf
  have n85 := no85 77 (by decide)
  have n86 := no86 77 (by decide)
  have n91 := no91 77 (by decide)
  have n96 := no96 77 (by decide)
  have n101 := no101 77 (by decide)
  have n56 := no56 77 (by decide)
  have n70 := no70 77 (by decide)
  have n102 := no102 77 (by decide)
  have n105 := no105 77 (by decide)
  have n110 := no110 77 (by decide)
  have n74 := no74 77 (by decide)
  have n75 := no75 77 (by decide)
  have n76 := no76 77 (by decide)
  have n121 := no121 77 (by decide)
  have n124 := no124 77 (by decide)
  have n127 := no127 77 (by decide)
  have n80 := no80 77 (by decide)
  have y77 := yes77
  clear hst hi kb hl hl1 hl2 ht0 hc0 IH
  go_enter Tryz.func26, Tryz.ntmps26
  go_wp2_with (first
    | ((with_reducible refine HC.out.mono ?_); rintro e W1 ⟨rfl, hI1, hF1⟩; have HI1 := Aside0.mk hI1; have HF1 := Aside0.mk hF1; have c0 := hF1.cell HKB.out HC0.out; clear hI1 hF1)
    | ((with_reducible refine (HK0.out _ ?hI ?hF).mono ?_); (case hI => exact HI1.out); (case hF => exact HF1.out); rintro e W2 ⟨rfl, hI, hF⟩; have HI2 := Aside0.mk hI; have HF2 := Aside0.mk (HF1.out.trans hF); clear hI hF)
    | ((with_reducible refine (HE.out _ ?hI).mono ?_); (case hI => exact HI2.out); rintro e W9 ⟨ve, rfl, hI9, hF9⟩; have HI9 := Aside0.mk hI9; have HF9 := Aside0.mk hF9; clear hI9 hF9))
  first | (refine bodyPost_ret (results_none rfl _ _ _) rfl ?_) | (refine bodyPost_end (results_none rfl _ _ _) rfl ?_)
  exact ⟨rfl, HI9.out, HF2.out.trans HF9.out⟩

set_option maxHeartbeats 2000000 in
set_option maxRecDepth 100000 in
theorem walk_un {β σ : Type} (V : Vis β σ) (D : Nat) (IH : WalkC V D) (b b1 : β) (s s1 : σ) (bk : Nat) (W : World) (hst : V.step b s (some (bUn, ⟨#[]⟩)) = (s1, some b1)) (hi : V.inv s W) (kb : V.K bk) (m0 : S24) (v0 : Value) (hc0 : W.cell? ⟨bk, 2, none⟩ = some v0) (ht0 : Tree V.K W D m0 v0) (hl : V.len s + (8 + cnt D m0) ≤ V.M) :
    Calls Tryz.prog 26 #[.iface V.T (V.xv b), .iface 78 (.pointer (some ⟨bk, 0, none⟩))] W fun e W' => e = .returned (.tuple #[]) ∧ V.inv (V.step b1 (V.trav D b1 s1 m0) none).1 W' ∧ Fr V.K W W' := by
  have hl1 := V.step_len hst
  have hl2 := V.trav_len D b1 s1 m0
  have HK0 := Aside0.mk (fun W1 (h : V.inv s1 W1) (hf : Fr V.K W W1) => IH b1 s1 m0 v0 W1 (hf.tree ht0) h (by omega))
  have HC := Aside0.mk (V.go_call hst (by omega) hi (T := 78) (bk := bk) (by decide) kb (.un bk))
  have HE := Aside0.mk (V.end_call b1 (V.trav D b1 s1 m0) (by omega) (by have h9 := V.hgo hst; first | omega | (simp only [V.fold_dep, V.trav_dep, V.leaf_dep]; omega)))
  have HKB := Aside0.mk kb
  have HC0 := Aside0.mk hc0
  have hm := V.hm
  have hcf := V.hcf
  have n85 := no85 78 (by decide)
  have n86 := no86 78 (by decide)
  have n91 := no91 78 (by decide)
  have n96 := no96 78 (by decide)
  have n101 := no101 78 (by decide)
  have n56 := no56 78 (by decide)
  have n70 := no70 78 (by decide)
  have n102 := no102 78 (by decide)
  have n105 := no105 78 (by decide)
  have n110 := no110 78 (by decide)
  have n74 := no74 78 (by decide)
  have n75 := no75 78 (by decide)
  have n76 := no76 78 (by decide)
  have n121 := no121 78 (by decide)
  have n124 := no124 78 (by decide)
  have n127 := no127 78 (by decide)
  have n80 := no80 78 (by decide)
  have n77 := no77 78 (by decide)
  have y78 := yes78
  clear hst hi kb hl hl1 hl2 ht0 hc0 IH
  go_enter Tryz.func26, Tryz.ntmps26
  go_wp2_with (first
    | ((with_reducible refine HC.out.mono ?_); rintro e W1 ⟨rfl, hI1, hF1⟩; have HI1 := Aside0.mk hI1; have HF1 := Aside0.mk hF1; have c0 := hF1.cell HKB.out HC0.out; clear hI1 hF1)
    | ((with_reducible refine (HK0.out _ ?hI ?hF).mono ?_); (case hI => exact HI1.out); (case hF => exact HF1.out); rintro e W2 ⟨rfl, hI, hF⟩; have HI2 := Aside0.mk hI; have HF2 := Aside0.mk (HF1.out.trans hF); clear hI hF)
    | ((with_reducible refine (HE.out _ ?hI).mono ?_); (case hI => exact HI2.out); rintro e W9 ⟨ve, rfl, hI9, hF9⟩; have HI9 := Aside0.mk hI9; have HF9 := Aside0.mk hF9; clear hI9 hF9))
  first | (refine bodyPost_ret (results_none rfl _ _ _) rfl ?_) | (refine bodyPost_end (results_none rfl _ _ _) rfl ?_)
  exact ⟨rfl, HI9.out, HF2.out.trans HF9.out⟩

set_option maxHeartbeats 2000000 in
set_option maxRecDepth 100000 in
theorem walk_bin {β σ : Type} (V : Vis β σ) (D : Nat) (IH : WalkC V D) (b b1 : β) (s s1 : σ) (bk : Nat) (W : World) (hst : V.step b s (some (bBin, ⟨#[]⟩)) = (s1, some b1)) (hi : V.inv s W) (kb : V.K bk) (m0 : S24) (v0 : Value) (hc0 : W.cell? ⟨bk, 0, none⟩ = some v0) (ht0 : Tree V.K W D m0 v0) (m1 : S24) (v1 : Value) (hc1 : W.cell? ⟨bk, 3, none⟩ = some v1) (ht1 : Tree V.K W D m1 v1) (hl : V.len s + (8 + cnt D m0 + cnt D m1) ≤ V.M) :
    Calls Tryz.prog 26 #[.iface V.T (V.xv b), .iface 79 (.pointer (some ⟨bk, 0, none⟩))] W fun e W' => e = .returned (.tuple #[]) ∧ V.inv (V.step b1 (V.trav D b1 (V.trav D b1 s1 m0) m1) none).1 W' ∧ Fr V.K W W' := by
  have hl1 := V.step_len hst
  have hl2 := V.trav_len D b1 s1 m0
  have HK0 := Aside0.mk (fun W1 (h : V.inv s1 W1) (hf : Fr V.K W W1) => IH b1 s1 m0 v0 W1 (hf.tree ht0) h (by omega))
  have hl3 := V.trav_len D b1 (V.trav D b1 s1 m0) m1
  have HK1 := Aside0.mk (fun W1 (h : V.inv (V.trav D b1 s1 m0) W1) (hf : Fr V.K W W1) => IH b1 (V.trav D b1 s1 m0) m1 v1 W1 (hf.tree ht1) h (by omega))
  have HC := Aside0.mk (V.go_call hst (by omega) hi (T := 79) (bk := bk) (by decide) kb (.bin bk))
  have HE := Aside0.mk (V.end_call b1 (V.trav D b1 (V.trav D b1 s1 m0) m1) (by omega) (by have h9 := V.hgo hst; first | omega | (simp only [V.fold_dep, V.trav_dep, V.leaf_dep]; omega)))
  have HKB := Aside0.mk kb
  have HC0 := Aside0.mk hc0
  have HC1 := Aside0.mk hc1
  have hm := V.hm
  have hcf := V.hcf
  have n85 := no85 79 (by decide)
  have n86 := no86 79 (by decide)
  have n91 := no91 79 (by decide)
  have n96 := no96 79 (by decide)
  have n101 := no101 79 (by decide)
  have n56 := no56 79 (by decide)
  have n70 := no70 79 (by decide)
  have n102 := no102 79 (by decide)
  have n105 := no105 79 (by decide)
  have n110 := no110 79 (by decide)
  have n74 := no74 79 (by decide)
  have n75 := no75 79 (by decide)
  have n76 := no76 79 (by decide)
  have n121 := no121 79 (by decide)
  have n124 := no124 79 (by decide)
  have n127 := no127 79 (by decide)
  have n80 := no80 79 (by decide)
  have n77 := no77 79 (by decide)
  have n78 := no78 79 (by decide)
  have y79 := yes79
  clear hst hi kb hl hl1 hl2 ht0 hc0 hl3 ht1 hc1 IH
  go_enter Tryz.func26, Tryz.ntmps26
  go_wp2_with (first
    | ((with_reducible refine HC.out.mono ?_); rintro e W1 ⟨rfl, hI1, hF1⟩; have HI1 := Aside0.mk hI1; have HF1 := Aside0.mk hF1; have c0 := hF1.cell HKB.out HC0.out; clear hI1 hF1)
    | ((with_reducible refine (HK0.out _ ?hI ?hF).mono ?_); (case hI => exact HI1.out); (case hF => exact HF1.out); rintro e W2 ⟨rfl, hI, hF⟩; have HI2 := Aside0.mk hI; have c1 := (HF1.out.trans hF).cell HKB.out HC1.out; have HF2 := Aside0.mk (HF1.out.trans hF); clear hI hF)
    | ((with_reducible refine (HK1.out _ ?hI ?hF).mono ?_); (case hI => exact HI2.out); (case hF => exact HF2.out); rintro e W3 ⟨rfl, hI, hF⟩; have HI3 := Aside0.mk hI; have HF3 := Aside0.mk (HF2.out.trans hF); clear hI hF)
    | ((with_reducible refine (HE.out _ ?hI).mono ?_); (case hI => exact HI3.out); rintro e W9 ⟨ve, rfl, hI9, hF9⟩; have HI9 := Aside0.mk hI9; have HF9 := Aside0.mk hF9; clear hI9 hF9))
  first | (refine bodyPost_ret (results_none rfl _ _ _) rfl ?_) | (refine bodyPost_end (results_none rfl _ _ _) rfl ?_)
  exact ⟨rfl, HI9.out, HF3.out.trans HF9.out⟩

set_option maxHeartbeats 2000000 in
set_option maxRecDepth 100000 in
theorem walk_idx {β σ : Type} (V : Vis β σ) (D : Nat) (IH : WalkC V D) (b b1 : β) (s s1 : σ) (bk : Nat) (W : World) (hst : V.step b s (some (bIdx, ⟨#[]⟩)) = (s1, some b1)) (hi : V.inv s W) (kb : V.K bk) (m0 : S24) (v0 : Value) (hc0 : W.cell? ⟨bk, 0, none⟩ = some v0) (ht0 : Tree V.K W D m0 v0) (m1 : S24) (v1 : Value) (hc1 : W.cell? ⟨bk, 2, none⟩ = some v1) (ht1 : Tree V.K W D m1 v1) (hl : V.len s + (8 + cnt D m0 + cnt D m1) ≤ V.M) :
    Calls Tryz.prog 26 #[.iface V.T (V.xv b), .iface 76 (.pointer (some ⟨bk, 0, none⟩))] W fun e W' => e = .returned (.tuple #[]) ∧ V.inv (V.step b1 (V.trav D b1 (V.trav D b1 s1 m0) m1) none).1 W' ∧ Fr V.K W W' := by
  have hl1 := V.step_len hst
  have hl2 := V.trav_len D b1 s1 m0
  have HK0 := Aside0.mk (fun W1 (h : V.inv s1 W1) (hf : Fr V.K W W1) => IH b1 s1 m0 v0 W1 (hf.tree ht0) h (by omega))
  have hl3 := V.trav_len D b1 (V.trav D b1 s1 m0) m1
  have HK1 := Aside0.mk (fun W1 (h : V.inv (V.trav D b1 s1 m0) W1) (hf : Fr V.K W W1) => IH b1 (V.trav D b1 s1 m0) m1 v1 W1 (hf.tree ht1) h (by omega))
  have HC := Aside0.mk (V.go_call hst (by omega) hi (T := 76) (bk := bk) (by decide) kb (.idx bk))
  have HE := Aside0.mk (V.end_call b1 (V.trav D b1 (V.trav D b1 s1 m0) m1) (by omega) (by have h9 := V.hgo hst; first | omega | (simp only [V.fold_dep, V.trav_dep, V.leaf_dep]; omega)))
  have HKB := Aside0.mk kb
  have HC0 := Aside0.mk hc0
  have HC1 := Aside0.mk hc1
  have hm := V.hm
  have hcf := V.hcf
  have n85 := no85 76 (by decide)
  have n86 := no86 76 (by decide)
  have n91 := no91 76 (by decide)
  have n96 := no96 76 (by decide)
  have n101 := no101 76 (by decide)
  have n56 := no56 76 (by decide)
  have n70 := no70 76 (by decide)
  have n102 := no102 76 (by decide)
  have n105 := no105 76 (by decide)
  have n110 := no110 76 (by decide)
  have n74 := no74 76 (by decide)
  have n75 := no75 76 (by decide)
  have y76 := yes76
  clear hst hi kb hl hl1 hl2 ht0 hc0 hl3 ht1 hc1 IH
  go_enter Tryz.func26, Tryz.ntmps26
  go_wp2_with (first
    | ((with_reducible refine HC.out.mono ?_); rintro e W1 ⟨rfl, hI1, hF1⟩; have HI1 := Aside0.mk hI1; have HF1 := Aside0.mk hF1; have c0 := hF1.cell HKB.out HC0.out; clear hI1 hF1)
    | ((with_reducible refine (HK0.out _ ?hI ?hF).mono ?_); (case hI => exact HI1.out); (case hF => exact HF1.out); rintro e W2 ⟨rfl, hI, hF⟩; have HI2 := Aside0.mk hI; have c1 := (HF1.out.trans hF).cell HKB.out HC1.out; have HF2 := Aside0.mk (HF1.out.trans hF); clear hI hF)
    | ((with_reducible refine (HK1.out _ ?hI ?hF).mono ?_); (case hI => exact HI2.out); (case hF => exact HF2.out); rintro e W3 ⟨rfl, hI, hF⟩; have HI3 := Aside0.mk hI; have HF3 := Aside0.mk (HF2.out.trans hF); clear hI hF)
    | ((with_reducible refine (HE.out _ ?hI).mono ?_); (case hI => exact HI3.out); rintro e W9 ⟨ve, rfl, hI9, hF9⟩; have HI9 := Aside0.mk hI9; have HF9 := Aside0.mk hF9; clear hI9 hF9))
  first | (refine bodyPost_ret (results_none rfl _ _ _) rfl ?_) | (refine bodyPost_end (results_none rfl _ _ _) rfl ?_)
  exact ⟨rfl, HI9.out, HF3.out.trans HF9.out⟩

set_option maxHeartbeats 2000000 in
set_option maxRecDepth 100000 in
theorem walk_sel {β σ : Type} (V : Vis β σ) (D : Nat) (IH : WalkC V D) (b b1 : β) (s s1 : σ) (bk : Nat) (W : World) (hst : V.step b s (some (bSel, ⟨#[]⟩)) = (s1, some b1)) (hi : V.inv s W) (kb : V.K bk) (m0 : S24) (v0 : Value) (hc0 : W.cell? ⟨bk, 0, none⟩ = some v0) (ht0 : Tree V.K W D m0 v0) (bi : Nat) (ti : ByteArray) (hci : W.cell? ⟨bk, 1, none⟩ = some (.pointer (some ⟨bi, 0, none⟩))) (ki : V.K bi) (hti : W.cell? ⟨bi, 1, none⟩ = some (.string ti)) (hl : V.len s + (8 + cnt D m0) ≤ V.M) :
    Calls Tryz.prog 26 #[.iface V.T (V.xv b), .iface 75 (.pointer (some ⟨bk, 0, none⟩))] W fun e W' => e = .returned (.tuple #[]) ∧ V.inv (V.step b1 (V.leaf b1 (V.trav D b1 s1 m0) bName ti) none).1 W' ∧ Fr V.K W W' := by
  have hl1 := V.step_len hst
  have hl2 := V.trav_len D b1 s1 m0
  have HK0 := Aside0.mk (fun W1 (h : V.inv s1 W1) (hf : Fr V.K W W1) => IH b1 s1 m0 v0 W1 (hf.tree ht0) h (by omega))
  have hl9 := V.leaf_len b1 (V.trav D b1 s1 m0) bName ti
  have HKI := Aside0.mk (fun W1 (h : V.inv (V.trav D b1 s1 m0) W1) (hf : Fr V.K W W1) => walk_ident V b1 (V.trav D b1 s1 m0) bi ti W1 h ki (hf.cell ki hti) (by omega))
  have HC := Aside0.mk (V.go_call hst (by omega) hi (T := 75) (bk := bk) (by decide) kb (.sel bk))
  have HE := Aside0.mk (V.end_call b1 (V.leaf b1 (V.trav D b1 s1 m0) bName ti) (by omega) (by have h9 := V.hgo hst; first | omega | (simp only [V.fold_dep, V.trav_dep, V.leaf_dep]; omega)))
  have HKB := Aside0.mk kb
  have HC0 := Aside0.mk hc0
  have HCI := Aside0.mk hci
  have hm := V.hm
  have hcf := V.hcf
  have n85 := no85 75 (by decide)
  have n86 := no86 75 (by decide)
  have n91 := no91 75 (by decide)
  have n96 := no96 75 (by decide)
  have n101 := no101 75 (by decide)
  have n56 := no56 75 (by decide)
  have n70 := no70 75 (by decide)
  have n102 := no102 75 (by decide)
  have n105 := no105 75 (by decide)
  have n110 := no110 75 (by decide)
  have n74 := no74 75 (by decide)
  have y75 := yes75
  clear hst hi kb hl hl1 hl2 ht0 hc0 hl9 hci ki hti IH
  go_enter Tryz.func26, Tryz.ntmps26
  go_wp2_with (first
    | ((with_reducible refine HC.out.mono ?_); rintro e W1 ⟨rfl, hI1, hF1⟩; have HI1 := Aside0.mk hI1; have HF1 := Aside0.mk hF1; have c0 := hF1.cell HKB.out HC0.out; clear hI1 hF1)
    | ((with_reducible refine (HK0.out _ ?hI ?hF).mono ?_); (case hI => exact HI1.out); (case hF => exact HF1.out); rintro e W2 ⟨rfl, hI, hF⟩; have HI2 := Aside0.mk hI; have c1 := (HF1.out.trans hF).cell HKB.out HCI.out; have HF2 := Aside0.mk (HF1.out.trans hF); clear hI hF)
    | ((with_reducible refine (HKI.out _ ?hI ?hF).mono ?_); (case hI => exact HI2.out); (case hF => exact HF2.out); rintro e W3 ⟨rfl, hI, hF⟩; have HI3 := Aside0.mk hI; have HF3 := Aside0.mk (HF2.out.trans hF); clear hI hF)
    | ((with_reducible refine (HE.out _ ?hI).mono ?_); (case hI => exact HI3.out); rintro e W9 ⟨ve, rfl, hI9, hF9⟩; have HI9 := Aside0.mk hI9; have HF9 := Aside0.mk hF9; clear hI9 hF9))
  first | (refine bodyPost_ret (results_none rfl _ _ _) rfl ?_) | (refine bodyPost_end (results_none rfl _ _ _) rfl ?_)
  exact ⟨rfl, HI9.out, HF3.out.trans HF9.out⟩

set_option maxHeartbeats 2000000 in
set_option maxRecDepth 100000 in
theorem walkList_any {β σ : Type} (V : Vis β σ) (D : Nat) (IH : WalkC V D) (b1 : β) (s1 : σ) (A : Option Addr) (m c : Nat) (kid : Nat → S24) (W : World) (hM : m ≤ 1000000)
    (hcells : ∀ i : Nat, i < m → ∃ a v1, A = some a ∧ V.K (a.add i).block ∧ W.cell? (a.add i) = some v1 ∧ Tree V.K W D (kid i) v1) (hi : V.inv s1 W) (hl : V.len s1 + sumTo (fun i => cnt D (kid i)) m ≤ V.M) :
    Calls Tryz.prog 38 #[.iface V.T (V.xv b1), .slice A m c] W fun e W' => e = .returned (.tuple #[]) ∧ V.inv (foldTo (fun s i => V.trav D b1 s (kid i)) s1 m) W' ∧ Fr V.K W W' := by
  have HCS := Aside0.mk hcells
  have HI0 := Aside0.mk hi
  have HLL := Aside0.mk hl
  have HF0 := Aside0.mk (Fr.refl V.K W)
  clear hcells hi hl
  go_enter Tryz.func38, Tryz.ntmps38
  go_wp2
  go_loopg [8] m (fun kq v8 w' => ∃ i : Nat, v8 = .int .i64 (i : Int) ∧ i ≤ m ∧ Hid (kq = m - i) ∧ Aside0 (V.inv (foldTo (fun s i => V.trav D b1 s (kid i)) s1 i) w') ∧ Aside0 (Fr V.K W w'))
  case atStart => exact ⟨0, rfl, Nat.zero_le _, rfl, HI0, HF0⟩
  case round =>
    obtain ⟨i, rfl, hi, HM, HI, HF⟩ := hrel
    by_cases hlt : i < m
    · obtain ⟨a, v1, rfl, ka, hca, hta⟩ := HCS.out i hlt
      have hc1 := HF.out.cell ka hca
      have ht1 := HF.out.tree hta
      have hfl := fold_len V.len (fun s i => V.trav D b1 s (kid i)) (fun i => cnt D (kid i)) (fun s i => V.trav_len D b1 s _) s1 i
      have hsl := sumTo_le (fun i => cnt D (kid i)) hlt
      have hcall := IH b1 (foldTo (fun s i => V.trav D b1 s (kid i)) s1 i) (kid i) v1 wr ht1 HI.out (by have := HLL.out; omega)
      have HCALL := Aside0.mk hcall
      clear hcall ht1 hfl hsl hca hta
      have p0 : (0 : Int) ≤ (i : Int) := by omega
      have p1 : (i : Int) < (m : Int) := by omega
      go_wp2_with (first | (go_at_call 26; (with_reducible refine HCALL.out.mono ?_); rintro e w2 ⟨rfl, hI2, hF2⟩; have HI2 := Aside0.mk hI2; have HF2 := Aside0.mk (HF.out.trans hF2); clear hI2 hF2))
      go_roundg (gk - 1)
      case measure => have := HM.out; omega
      case rel => exact ⟨i + 1, by go_num, by omega, by have := HM.out; show _ = _; omega, HI2, HF2⟩
    · have p1 : ¬ (i : Int) < (m : Int) := by omega
      have hil : i = m := by omega
      subst hil
      go_wp2
      first | (refine bodyPost_ret (results_none rfl _ _ _) rfl ?_) | go_end0
      exact ⟨rfl, HI.out, HF.out⟩

set_option maxHeartbeats 2000000 in
set_option maxRecDepth 100000 in
theorem walk_atCall {β σ : Type} (V : Vis β σ) (D : Nat) (IH : WalkC V D) (b b1 : β) (s s1 : σ) (bk : Nat) (W : World) (hst : V.step b s (some (bCall, ⟨#[]⟩)) = (s1, some b1)) (hi : V.inv s W) (kb : V.K bk) (m0 : S24) (v0 : Value) (hc0 : W.cell? ⟨bk, 0, none⟩ = some v0) (ht0 : Tree V.K W D m0 v0)
    (A : Option Addr) (m c : Nat) (kid : Nat → S24) (hM : m ≤ 1000000) (hcA : W.cell? ⟨bk, 2, none⟩ = some (.slice A m c)) (hcells : ∀ i : Nat, i < m → ∃ a v1, A = some a ∧ V.K (a.add i).block ∧ W.cell? (a.add i) = some v1 ∧ Tree V.K W D (kid i) v1)
    (hl : V.len s + (8 + (cnt D m0 + sumTo (fun i => cnt D (kid i)) m)) ≤ V.M) :
    Calls Tryz.prog 26 #[.iface V.T (V.xv b), .iface 80 (.pointer (some ⟨bk, 0, none⟩))] W fun e W' => e = .returned (.tuple #[]) ∧ V.inv (V.step b1 (foldTo (fun s i => V.trav D b1 s (kid i)) (V.trav D b1 s1 m0) m) none).1 W' ∧ Fr V.K W W' := by
  have hl1 := V.step_len hst
  have hl2 := V.trav_len D b1 s1 m0
  have hl3 := fold_len V.len (fun s i => V.trav D b1 s (kid i)) (fun i => cnt D (kid i)) (fun s i => V.trav_len D b1 s _) (V.trav D b1 s1 m0) m
  have HK0 := Aside0.mk (fun W1 (h : V.inv s1 W1) (hf : Fr V.K W W1) => IH b1 s1 m0 v0 W1 (hf.tree ht0) h (by omega))
  have HKL := Aside0.mk (fun W1 (h : V.inv (V.trav D b1 s1 m0) W1) (hf : Fr V.K W W1) => walkList_any V D IH b1 (V.trav D b1 s1 m0) A m c kid W1 hM (fun i hi => by
    obtain ⟨a, v1, e1, ka, h1, h2⟩ := hcells i hi
    exact ⟨a, v1, e1, ka, hf.cell ka h1, hf.tree h2⟩) h (by omega))
  have HC := Aside0.mk (V.go_call hst (by omega) hi (T := 80) (bk := bk) (by decide) kb (.call bk))
  have HE := Aside0.mk (V.end_call b1 (foldTo (fun s i => V.trav D b1 s (kid i)) (V.trav D b1 s1 m0) m) (by omega) (by have h9 := V.hgo hst; first | omega | (simp only [V.fold_dep, V.trav_dep, V.leaf_dep]; omega)))
  have HKB := Aside0.mk kb
  have HC0 := Aside0.mk hc0
  have HCA := Aside0.mk hcA
  have hm := V.hm
  have hcf := V.hcf
  have n85 := no85 80 (by decide)
  have n86 := no86 80 (by decide)
  have n91 := no91 80 (by decide)
  have n96 := no96 80 (by decide)
  have n101 := no101 80 (by decide)
  have n56 := no56 80 (by decide)
  have n70 := no70 80 (by decide)
  have n102 := no102 80 (by decide)
  have n105 := no105 80 (by decide)
  have n110 := no110 80 (by decide)
  have n74 := no74 80 (by decide)
  have n75 := no75 80 (by decide)
  have n76 := no76 80 (by decide)
  have n121 := no121 80 (by decide)
  have n124 := no124 80 (by decide)
  have n127 := no127 80 (by decide)
  have y80 := yes80
  clear hst hi kb hl hl1 hl2 hl3 hc0 ht0 hcA hcells IH hM
  go_enter Tryz.func26, Tryz.ntmps26
  go_wp2_with (first
    | ((with_reducible refine HC.out.mono ?_); rintro e W1 ⟨rfl, hI1, hF1⟩; have HI1 := Aside0.mk hI1; have HF1 := Aside0.mk hF1; have c0 := hF1.cell HKB.out HC0.out; clear hI1 hF1)
    | ((with_reducible refine (HK0.out _ ?hI ?hF).mono ?_); (case hI => exact HI1.out); (case hF => exact HF1.out); rintro e W2 ⟨rfl, hI, hF⟩; have HI2 := Aside0.mk hI; have c1 := (HF1.out.trans hF).cell HKB.out HCA.out; have HF2 := Aside0.mk (HF1.out.trans hF); clear hI hF)
    | ((with_reducible refine (HKL.out _ ?hI ?hF).mono ?_); (case hI => exact HI2.out); (case hF => exact HF2.out); rintro e W3 ⟨rfl, hI, hF⟩; have HI3 := Aside0.mk hI; have HF3 := Aside0.mk (HF2.out.trans hF); clear hI hF)
    | ((with_reducible refine (HE.out _ ?hI).mono ?_); (case hI => exact HI3.out); rintro e W9 ⟨ve, rfl, hI9, hF9⟩; have HI9 := Aside0.mk hI9; have HF9 := Aside0.mk hF9; clear hI9 hF9))
  first | (refine bodyPost_ret (results_none rfl _ _ _) rfl ?_) | (refine bodyPost_end (results_none rfl _ _ _) rfl ?_)
  exact ⟨rfl, HI9.out, HF3.out.trans HF9.out⟩

theorem walk_all {β σ : Type} (V : Vis β σ) (hVM : V.M ≤ 1000000) : ∀ D, WalkC V D
  | 0 => fun b s n v W ht _ _ => ht.elim
  | D + 1 => by
    have IH := walk_all V hVM D
    intro b s n v W ht hi hl
    have hform := formN ht
    have hseen := ht.seen
    rw [Vis.trav]
    rcases hst : V.step b s (some (kindB n, textB n)) with ⟨s1, _ | b1⟩
    · obtain ⟨T, bk, rfl, hT, kb⟩ := hform
      exact walk_stop V b s s1 _ _ _ W hst (by have := cnt_pos ht; omega) hi hT kb rfl hseen
    · clear hform hseen
      dsimp only
      rw [cnt] at hl
      unfold Tree at ht
      have K : ∀ {k : ByteArray}, n.f0 = k → (k = bName ∨ k = bInt → False) → kindB n = k ∧ textB n = ⟨#[]⟩ ∧ nk n = n.f2.length := by
        intro k h0 hne
        have h2 : ¬ (n.f0 = bName ∨ n.f0 = bInt) := fun h => hne (by rw [← h0]; exact h)
        exact ⟨by unfold kindB; rw [if_neg (fun h => h2 (.inr h))]; exact h0, by unfold textB; rw [if_neg h2], nk_kids h2⟩
      have NS : n.f0 ≠ bSel → ∀ s, V.sel b1 n s = s := fun h s => by unfold Vis.sel; rw [if_neg h]
      rcases ht with ⟨h0, bk, rfl, kb, c1⟩ | ⟨h0, bk, rfl, kb, c1⟩ | ⟨h0, hlen, bk, v0, rfl, kb, c1, t0⟩ | ⟨h0, hlen, bk, v0, bi, rfl, kb, c1, c2, kb1, c3, t0⟩ | ⟨h0, hlen, bk, v0, kb, ⟨rfl, c1⟩ | ⟨rfl, c1⟩, t0⟩ | ⟨h0, hlen, bk, v0, v1, rfl, kb, c1, c2, t0, t1⟩ | ⟨h0, hlen, bk, v0, v1, rfl, kb, c1, c2, t0, t1⟩ | ⟨h0, hlen, bk, v0, A, c, rfl, kb, c1, c2, t0, ts⟩
      · have e1 : kindB n = bName := by unfold kindB; rw [if_neg (by rw [h0]; decide +kernel), h0]
        have e2 : textB n = n.f1 := by unfold textB; rw [if_pos (.inl h0)]
        have e3 : nk n = 0 := by unfold nk; rw [if_pos (.inl h0)]
        rw [e1, e2] at hst
        rw [e3, NS (by rw [h0]; decide +kernel)]
        exact walk_name V b b1 s s1 bk W n.f1 hst hi kb c1 (by omega)
      · have e1 : kindB n = bLit := by unfold kindB; rw [if_pos h0]
        have e2 : textB n = n.f1 := by unfold textB; rw [if_pos (.inr h0)]
        have e3 : nk n = 0 := by unfold nk; rw [if_pos (.inr h0)]
        rw [e1, e2] at hst
        rw [e3, NS (by rw [h0]; decide +kernel)]
        exact walk_lit V b b1 s s1 bk W n.f1 hst hi kb c1 (by omega)
      · obtain ⟨e1, e2, e3⟩ := K h0 (by decide +kernel)
        rw [e1, e2] at hst
        rw [e3, hlen] at hl
        rw [e3, hlen, NS (by rw [h0]; decide +kernel)]
        have hl : V.len s + (8 + (0 + cnt D (rd_T24 n.f2 ((0 : Nat) : Int)))) ≤ V.M := hl
        exact walk_paren V D IH b b1 s s1 bk W hst hi kb (rd_T24 n.f2 ((0 : Nat) : Int)) v0 c1 t0 (by omega)
      · obtain ⟨e1, e2, e3⟩ := K h0 (by decide +kernel)
        rw [e1, e2] at hst
        rw [e3, hlen] at hl
        rw [e3, hlen]
        have hl : V.len s + (8 + (0 + cnt D (rd_T24 n.f2 ((0 : Nat) : Int)))) ≤ V.M := hl
        unfold Vis.sel
        rw [if_pos h0]
        exact walk_sel V D IH b b1 s s1 bk W hst hi kb (rd_T24 n.f2 ((0 : Nat) : Int)) v0 c1 t0 bi n.f1 c2 kb1 c3 (by omega)
      · obtain ⟨e1, e2, e3⟩ := K h0 (by decide +kernel)
        rw [e1, e2] at hst
        rw [e3, hlen] at hl
        rw [e3, hlen, NS (by rw [h0]; decide +kernel)]
        have hl : V.len s + (8 + (0 + cnt D (rd_T24 n.f2 ((0 : Nat) : Int)))) ≤ V.M := hl
        exact walk_star V D IH b b1 s s1 bk W hst hi kb (rd_T24 n.f2 ((0 : Nat) : Int)) v0 c1 t0 (by omega)
      · obtain ⟨e1, e2, e3⟩ := K h0 (by decide +kernel)
        rw [e1, e2] at hst
        rw [e3, hlen] at hl
        rw [e3, hlen, NS (by rw [h0]; decide +kernel)]
        have hl : V.len s + (8 + (0 + cnt D (rd_T24 n.f2 ((0 : Nat) : Int)))) ≤ V.M := hl
        exact walk_un V D IH b b1 s s1 bk W hst hi kb (rd_T24 n.f2 ((0 : Nat) : Int)) v0 c1 t0 (by omega)
      · obtain ⟨e1, e2, e3⟩ := K h0 (by decide +kernel)
        rw [e1, e2] at hst
        rw [e3, hlen] at hl
        rw [e3, hlen, NS (by rw [h0]; decide +kernel)]
        have hl : V.len s + (8 + (0 + cnt D (rd_T24 n.f2 ((0 : Nat) : Int)) + cnt D (rd_T24 n.f2 ((1 : Nat) : Int)))) ≤ V.M := hl
        exact walk_bin V D IH b b1 s s1 bk W hst hi kb (rd_T24 n.f2 ((0 : Nat) : Int)) v0 c1 t0 (rd_T24 n.f2 ((1 : Nat) : Int)) v1 c2 t1 (by omega)
      · obtain ⟨e1, e2, e3⟩ := K h0 (by decide +kernel)
        rw [e1, e2] at hst
        rw [e3, hlen] at hl
        rw [e3, hlen, NS (by rw [h0]; decide +kernel)]
        have hl : V.len s + (8 + (0 + cnt D (rd_T24 n.f2 ((0 : Nat) : Int)) + cnt D (rd_T24 n.f2 ((1 : Nat) : Int)))) ≤ V.M := hl
        exact walk_idx V D IH b b1 s s1 bk W hst hi kb (rd_T24 n.f2 ((0 : Nat) : Int)) v0 c1 t0 (rd_T24 n.f2 ((1 : Nat) : Int)) v1 c2 t1 (by omega)
      · obtain ⟨e1, e2, e3⟩ := K h0 (by decide +kernel)
        rw [e1, e2] at hst
        obtain ⟨m, hm⟩ : ∃ m, n.f2.length = m + 1 := ⟨n.f2.length - 1, by omega⟩
        rw [e3, hm, sumTo_front] at hl
        rw [e3, hm, NS (by rw [h0]; decide +kernel), foldTo_front]
        rw [hm] at ts c2
        rw [Nat.add_sub_cancel] at c2
        have hcells : ∀ i : Nat, i < m → ∃ a v1, A = some a ∧ V.K (a.add i).block ∧ W.cell? (a.add i) = some v1 ∧ Tree V.K W D (rd_T24 n.f2 ((i + 1 : Nat) : Int)) v1 := fun i hi => ts i (by omega)
        have hmM := sumTo_ge (fun i => cnt D (rd_T24 n.f2 ((i + 1 : Nat) : Int))) m (fun i hi => by
          obtain ⟨_, _, _, _, _, h⟩ := hcells i hi
          exact h.pos)
        exact walk_atCall V D IH b b1 s s1 bk W hst hi kb (rd_T24 n.f2 ((0 : Nat) : Int)) v0 c1 t0 A m c (fun i => rd_T24 n.f2 ((i + 1 : Nat) : Int)) (by omega) c2 hcells (by omega)
end Go.Proofs.YtdcaabjkklppjaaGreatFmt.A.St
