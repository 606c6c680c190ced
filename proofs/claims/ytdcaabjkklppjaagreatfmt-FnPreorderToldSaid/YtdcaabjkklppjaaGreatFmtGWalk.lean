/- Visitors, and what ast.Walk does with one at a tree of an expression: the plain words. -/
import Derived.Test.YtdcaabjkklppjaaGreatFmtGVisit
namespace Go.Proofs.YtdcaabjkklppjaaGreatFmt.A
open Go.RowKit Go.Proofs.YtdcaabjkklppjaaGreatFmtW.PrintWords Go.Proofs.YtdcaabjkklppjaaGreatFmtW.PrintLast Go.Proofs.YtdcaabjkklppjaaGreatFmtW.PrintMore
set_option linter.unusedVariables false
set_option linter.unusedSimpArgs false
attribute [local go_sem ↓] Go.wp_at_zero Go.wp_at_succ

/-- Blocks of the kind K are as they were; the streams too; no block has gone. -/
structure Fr (K : Nat → Prop) (w w' : World) : Prop where
  os : w'.os = w.os
  tape : w'.tape = w.tape
  output : w'.output = w.output
  size : w.heap.size ≤ w'.heap.size
  block : ∀ k, K k → k < w.heap.size → w'.heap[k]? = w.heap[k]?
theorem Fr.refl (K : Nat → Prop) (w : World) : Fr K w w := ⟨rfl, rfl, rfl, Nat.le_refl _, fun _ _ _ => rfl⟩
theorem Fr.trans {K : Nat → Prop} {a b c : World} (h : Fr K a b) (k : Fr K b c) : Fr K a c :=
  ⟨k.os.trans h.os, k.tape.trans h.tape, k.output.trans h.output, Nat.le_trans h.size k.size, fun i hi hl => (k.block i hi (Nat.lt_of_lt_of_le hl h.size)).trans (h.block i hi hl)⟩
theorem Fr.cell {K : Nat → Prop} {w w' : World} (h : Fr K w w') {a : Addr} {v : Value} (ha : K a.block) (hc : w.cell? a = some v) : w'.cell? a = some v :=
  (World.cell?_of_block (h.block _ ha (World.block_lt_of_cell? w _ hc))).trans hc
theorem Fr.tree {K : Nat → Prop} {w w' : World} (h : Fr K w w') {D : Nat} {n : S24} {v : Value} (ht : Tree K w D n v) : Tree K w' D n v := Tree.keep (fun k hk hl => ⟨hk, h.block k hk hl⟩) ht

/-- What a visitor is handed: a node, told by its kind and its text, or nil. -/
def SeenO (W : World) (v : Value) : Option (ByteArray × ByteArray) → Prop
  | some x => v ≠ .nilIface ∧ Seen W v x.1 x.2
  | none => v = .nilIface

/-- A visitor: β: its own state (it lies in its value); σ: what it notes; step: what a visit does. -/
structure Vis (β σ : Type) where
  T : Nat
  fn : Nat
  xv : β → Value
  rc : β → Value
  step : β → σ → Option (ByteArray × ByteArray) → σ × Option β
  len : σ → Nat
  inv : σ → World → Prop
  K : Nat → Prop
  M : Nat
  hm : ∀ b w, (method 429 T (xv b) "Visit").run Tryz.prog w = .ok (fn, rc b) w
  hcf : ∀ args w, (callFunc fn args).run Tryz.prog w = .ok (.enter fn args) w
  hlen : ∀ b s x, len (step b s x).1 ≤ len s + 1
  call : ∀ b s x v W, len s < M → inv s W → SeenO W v x → Calls Tryz.prog fn #[rc b, v] W fun e W' => e = .returned (match (step b s x).2 with | none => .nilIface | some b' => .iface T (xv b')) ∧ inv (step b s x).1 W' ∧ Fr K W W'

def sumTo (c : Nat → Nat) : Nat → Nat
  | 0 => 0
  | m + 1 => sumTo c m + c m
def foldTo {σ : Type} (f : σ → Nat → σ) (s : σ) : Nat → σ
  | 0 => s
  | m + 1 => f (foldTo f s m) m
theorem foldTo_front {σ : Type} (f : σ → Nat → σ) (s : σ) : ∀ m, foldTo f s (m + 1) = foldTo (fun s i => f s (i + 1)) (f s 0) m
  | 0 => rfl
  | m + 1 => by
    rw [foldTo, foldTo_front f s m]
    rfl
theorem sumTo_front (c : Nat → Nat) : ∀ m, sumTo c (m + 1) = c 0 + sumTo (fun i => c (i + 1)) m
  | 0 => by simp [sumTo]
  | m + 1 => by
    rw [sumTo, sumTo_front c m, sumTo]
    omega
theorem sumTo_le (c : Nat → Nat) : ∀ {i m : Nat}, i < m → sumTo c i + c i ≤ sumTo c m
  | i, 0, h => absurd h (Nat.not_lt_zero _)
  | i, m + 1, h => by
    rw [sumTo]
    rcases Nat.lt_or_ge i m with h1 | h1
    · exact Nat.le_trans (sumTo_le c h1) (Nat.le_add_right _ _)
    · rw [show i = m by omega]; exact Nat.le_refl _
theorem fold_len {σ : Type} (len : σ → Nat) (f : σ → Nat → σ) (c : Nat → Nat) (h : ∀ s i, len (f s i) ≤ len s + c i) (s : σ) : ∀ m, len (foldTo f s m) ≤ len s + sumTo c m
  | 0 => Nat.le_refl _
  | m + 1 => by
    have h1 := h (foldTo f s m) m
    have h2 := fold_len len f c h s m
    rw [foldTo, sumTo]
    omega
/-- How many nodes stand below one. -/
def nk (n : S24) : Nat := if n.f0 = bName ∨ n.f0 = bInt then 0 else n.f2.length
/-- No more visits than so many. -/
def cnt : Nat → S24 → Nat
  | 0, _ => 0
  | D + 1, n => 8 + sumTo (fun i => cnt D (rd_T24 n.f2 (i : Int))) (nk n)
namespace Vis
variable {β σ : Type} (V : Vis β σ)
/-- The visit of a name that a selector selects. -/
def leaf (b : β) (s : σ) (k t : ByteArray) : σ := match V.step b s (some (k, t)) with
  | (s1, none) => s1
  | (s1, some b1) => (V.step b1 s1 none).1
def sel (b : β) (n : S24) (s : σ) : σ := if n.f0 = bSel then V.leaf b s bName n.f1 else s
/-- What a walk over a tree leaves noted. -/
def trav : Nat → β → σ → S24 → σ
  | 0, _, s, _ => s
  | D + 1, b, s, n => match V.step b s (some (kindB n, textB n)) with
    | (s1, none) => s1
    | (s1, some b1) => (V.step b1 (V.sel b1 n (foldTo (fun s i => trav D b1 s (rd_T24 n.f2 (i : Int))) s1 (nk n))) none).1
theorem step_len {b : β} {s : σ} {x : Option (ByteArray × ByteArray)} {s1 : σ} {o : Option β} (h : V.step b s x = (s1, o)) : V.len s1 ≤ V.len s + 1 := by
  have := V.hlen b s x
  rw [h] at this
  exact this
theorem leaf_len (b : β) (s : σ) (k t : ByteArray) : V.len (V.leaf b s k t) ≤ V.len s + 2 := by
  unfold leaf
  split
  next s1 h => have := V.step_len h; omega
  next s1 b1 h =>
    have := V.step_len h
    have := V.hlen b1 s1 none
    omega
theorem trav_len : ∀ (D : Nat) (b : β) (s : σ) (n : S24), V.len (V.trav D b s n) ≤ V.len s + cnt D n
  | 0, _, s, _ => Nat.le_refl _
  | D + 1, b, s, n => by
    rw [trav, cnt]
    split
    next s1 h => have := V.step_len h; omega
    next s1 b1 h =>
      have h1 := V.step_len h
      have h2 := fold_len V.len (fun s i => V.trav D b1 s (rd_T24 n.f2 (i : Int))) (fun i => cnt D (rd_T24 n.f2 (i : Int))) (fun s i => trav_len D b1 s _) s1 (nk n)
      have h3 : V.len (V.sel b1 n (foldTo (fun s i => V.trav D b1 s (rd_T24 n.f2 (i : Int))) s1 (nk n))) ≤ V.len (foldTo (fun s i => V.trav D b1 s (rd_T24 n.f2 (i : Int))) s1 (nk n)) + 2 := by
        unfold sel
        split
        · exact V.leaf_len _ _ _ _
        · omega
      have h4 := V.hlen b1 (V.sel b1 n (foldTo (fun s i => V.trav D b1 s (rd_T24 n.f2 (i : Int))) s1 (nk n))) none
      omega
end Vis
/-- The walk's contract at trees so deep. -/
def WalkC {β σ : Type} (V : Vis β σ) (D : Nat) : Prop := ∀ (b : β) (s : σ) (n : S24) (v : Value) (W : World), Tree V.K W D n v → V.inv s W → V.len s + cnt D n ≤ V.M →
    Calls Tryz.prog 26 #[.iface V.T (V.xv b), v] W fun e W' => e = .returned (.tuple #[]) ∧ V.inv (V.trav D b s n) W' ∧ Fr V.K W W'

set_option maxHeartbeats 1000000 in
set_option maxRecDepth 100000 in
/-- The visitor says no more. -/
theorem walk_stop {β σ : Type} (V : Vis β σ) (b : β) (s s1 : σ) (k t : ByteArray) (v : Value) (W : World) (hst : V.step b s (some (k, t)) = (s1, none)) (hl : V.len s < V.M) (hi : V.inv s W) (hn : v ≠ .nilIface) (hs : Seen W v k t) :
    Calls Tryz.prog 26 #[.iface V.T (V.xv b), v] W fun e W' => e = .returned (.tuple #[]) ∧ V.inv s1 W' ∧ Fr V.K W W' := by
  have hcall := V.call b s (some (k, t)) v W hl hi ⟨hn, hs⟩
  rw [hst] at hcall
  have HC := Aside0.mk hcall
  have hm := V.hm b
  have hcf := V.hcf
  clear hcall hst hl hi hn hs
  go_enter Tryz.func26, Tryz.ntmps26
  go_wp2_with (first | ((with_reducible refine HC.out.mono ?_); rintro e W1 ⟨rfl, hI1, hF1⟩; have HI1 := Aside0.mk hI1; have HF1 := Aside0.mk hF1; clear hI1 hF1))
  refine bodyPost_ret (results_none rfl _ _ _) rfl ?_
  exact ⟨rfl, HI1.out, HF1.out⟩
end Go.Proofs.YtdcaabjkklppjaaGreatFmt.A
