/- impl.Preordered: a range over a function. -/
import Derived.RangeFuncNested
import Derived.RangeFuncBound
import Derived.RangeFuncCalls
import Derived.RangeFuncLeaves
import Derived.Shelf.Abstract
import Derived.Shelf.RegionOpen
import Derived.WalkKit
import Derived.OwnWalkIn
import Derived.TacticsInMore
import Derived.LoopNIn
import Derived.LoopIn
import Derived.Test.YtdcaabjkklppjaaGreatFmtGWkh
import Derived.Test.YtdcaabjkklppjaaGreatFmtA13
import Derived.Test.YtdcaabjkklppjaaGreatFmtPureK
/- A region walked outside a round, taken into one; impl.Preordered: what its loop's variables hold. -/
namespace Go.Proofs.YtdcaabjkklppjaaGreatFmt.A.Pr
open Go.RowKit Go.Proofs.YtdcaabjkklppjaaGreatFmtW.PrintWords Go.Proofs.YtdcaabjkklppjaaGreatFmtW.PrintLast Go.Proofs.YtdcaabjkklppjaaGreatFmtW.PrintMore
set_option linter.unusedVariables false
set_option linter.unusedSimpArgs false
attribute [local go_sem] Oper.semAt_some

section
variable {P : Program} {ops : Array Oper} {Q : Exit → Act → World → Prop} {l n : Nat}
theorem op_in {o : Oper} {a : Act} {w : World} {K : Act → World → Prop} (hd : ∀ c, o.op ≠ .defer c) (h : o.wp P a w K Q) : o.wpIn (Fence.wide.inRound l) n P a w K Q := by
  refine ⟨fun _ _ => trivial, ?_⟩
  rw [show (Fence.wide.inRound l).round = some l from rfl, Oper.semAt_some l _ o hd]
  unfold Oper.wp at h
  generalize (execOp a.eval o).run P w = r at h
  cases r with
  | ok x w' =>
    cases x with
    | value v => exact h
    | skip => exact h
    | defer d => exact h
    | enter f args => exact ⟨fun hh => (by cases hh), CallsIn.inRound l (callsIn_wide.2 h)⟩
    | row r args =>
      refine ⟨fun hh => (by cases hh), ?_⟩
      intro c cs _
      obtain ⟨v, w2, r2, s⟩ := h c cs
      exact ⟨v, w2, r2, stepsIn_wide.2 s⟩
    | _ => exact h.elim
  | halt x w' => cases x <;> exact h
theorem wpAny_in {md : Region.Mode} (hd : ∀ (i : Nat) (o : Oper), ops[i]? = some o → ∀ c, o.op ≠ .defer c) (hq : ∀ a w, ¬ Q .outgrown a w) :
    ∀ (fuel : Nat) (listed : Array Bool) (a : Act) (w : World), wpAny P md ops Q fuel listed a w → wpAnyIn (Fence.wide.inRound l) n P md ops Q fuel listed a w
  | 0, _, _, _, h => h
  | fuel + 1, listed, a, w, h => by
    refine ⟨h.1, fun i hi => ?_⟩
    have h2 := h.2 i hi
    unfold wpOp at h2
    unfold wpOpIn
    split
    · next ho =>
      rw [ho] at h2
      exact wpAny_in hd hq fuel _ _ _ h2
    · next o ho =>
      rw [ho] at h2
      simp only at h2
      split
      · next hw =>
        rw [if_pos hw] at h2
        rcases h2 with h2 | h2
        · exact Oper.wpIn_mono (fun a w h => wpAny_in hd hq fuel _ a w h) (op_in (hd i o ho) h2)
        · obtain ⟨_, a0, w0, h3⟩ := h2
          exact absurd h3 (hq a0 w0)
      · next hw =>
        rw [if_neg hw] at h2
        exact ⟨fun _ _ => trivial, wpAny_in hd hq fuel _ _ _ h2⟩
theorem region_in {id : Nat} {a : Act} {w : World} (hd : ∀ (i : Nat) (o : Oper), ops[i]? = some o → ∀ c, o.op ≠ .defer c) (hq : ∀ a w, ¬ Q .outgrown a w) (hm : P.follows .mixedOrders = true)
    (h : wpAny P .any ops Q ops.size (Array.replicate ops.size false) a w.drew) : (Code.region id ops true).wpIn (Fence.wide.inRound l) n P Q a w :=
  wpIn_region_any hm (wpAny_in hd hq _ _ _ _ h)
end

/-- The blocks that the loop leaves as they are. -/
abbrev KeptP (base lo hi : Nat) : Nat → Prop := fun k => k < base ∨ (lo ≤ k ∧ k ≤ hi) ∨ k = hi + 3 ∨ k = hi + 4
/-- The loop's variables: s: the visits noted; ok: Preorder's own word; b: the record is ready. -/
structure InvP (base lo hi Po Pm : Nat) (most : Int) (rec : LoopState → Option Code → Loop) (s : List S29) (ok b : Bool) (W : World) : Prop where
  out : ∃ vo, OutAt base (KeptP base lo hi) Po vo s W
  pm : One W Pm (.int .i64 most) 2
  ok : One W (hi + 4) (.bool ok) 4
  py : One W (hi + 3) (.func (.yield (hi + 2)) #[] #[]) 46
  lp : W.heap[hi + 2]? = some (.loop (if b then rec .ready none else rec .done (some (.exit 0))))
  df : W.heap[hi + 1]? = some (.deferred (some []))
  sz : hi + 5 ≤ W.heap.size
/-- What a round does. -/
def RoundPost (base lo hi Po Pm : Nat) (most : Int) (rec : LoopState → Option Code → Loop) (s : List S29) (k t : ByteArray) (W : World) (e : Ending) (W' : World) : Prop :=
  if (s.length : Int) < most then e = .returned (.bool true) ∧ InvP base lo hi Po Pm most rec (s ++ [⟨k, t, 0⟩]) true true W' ∧ Fr (KeptP base lo hi) W W'
  else e = .returned (.bool false) ∧ InvP base lo hi Po Pm most rec s true false W' ∧ Fr (KeptP base lo hi) W W'
theorem InvP.store {base lo hi Po Pm : Nat} {most : Int} {rec : LoopState → Option Code → Loop} {s : List S29} {ok b : Bool} {W : World} (h : InvP base lo hi Po Pm most rec s ok b W) (ok' : Bool) : InvP base lo hi Po Pm most rec s ok' b (W.setCell ⟨hi + 4, 0, none⟩ (.bool ok')) := by
  obtain ⟨⟨vo, h1⟩, h2, h3, h4, h5, h6, h7⟩ := h
  exact ⟨⟨vo, h1.set h3 (by decide) (by decide)⟩, One.set h2 (One.ne h2 h3 (by decide)), one_setCell h3, One.set h4 (One.ne h4 h3 (by decide)), (Below.heap_setCell _ _ _ _ (by simp)).trans h5, (Below.heap_setCell _ _ _ _ (by simp)).trans h6, by simpa [World.setCell] using h7⟩
end Go.Proofs.YtdcaabjkklppjaaGreatFmt.A.Pr
/- ast.Preorder's iterator over the walk. -/
namespace Go.Proofs.YtdcaabjkklppjaaGreatFmt.A.Pr
open Go.RowKit Go.Proofs.YtdcaabjkklppjaaGreatFmtW.PrintWords Go.Proofs.YtdcaabjkklppjaaGreatFmtW.PrintLast Go.Proofs.YtdcaabjkklppjaaGreatFmtW.PrintMore
set_option linter.unusedVariables false
set_option linter.unusedSimpArgs false
attribute [local go_sem] Oper.semAt_some
attribute [local go_sem ↓] Go.wp_at_zero Go.wp_at_succ

/-- Preorder's inner literal as a value. -/
abbrev fN (hi : Nat) : Value := .func (.func 44) #[] #[.pointer (some ⟨hi + 4, 0, none⟩), .pointer (some ⟨hi + 3, 0, none⟩)]
/-- The blocks that a visit leaves as they are. -/
abbrev KV (base lo hi : Nat) : Nat → Prop := fun k => k < base ∨ (lo ≤ k ∧ k ≤ hi)
theorem Fr.weak {K K' : Nat → Prop} {w w' : World} (h : Fr K w w') (hs : ∀ k, K' k → K k) : Fr K' w w' := ⟨h.os, h.tape, h.output, h.size, fun k hk hl => h.block k (hs k hk) hl⟩
theorem kv_kept {base lo hi k : Nat} (h : KV base lo hi k) : KeptP base lo hi k := by
  rcases h with h | h
  · exact .inl h
  · exact .inr (.inl h)
/-- A call of yield is a round. -/
def YieldsP (base lo hi Po Pm : Nat) (most : Int) (rec : LoopState → Option Code → Loop) (m : Nat) : Prop := ∀ (s : List S29) (v : Value) (k t : ByteArray) (W : World), InvP base lo hi Po Pm most rec s true true W → v ≠ .nilIface → Seen W v k t → s.length < 100000 →
    YieldAt Fence.wide m Tryz.prog (hi + 2) #[v] W (RoundPost base lo hi Po Pm most rec s k t W)
set_option maxHeartbeats 2000000 in
set_option maxRecDepth 100000 in
theorem pre_go {base lo hi Po Pm : Nat} {most : Int} {rec : LoopState → Option Code → Loop} {n : Nat} (hn : 1 ≤ n) (hbl : base ≤ lo) (hlh : lo ≤ hi) (hY : YieldsP base lo hi Po Pm most rec (n - 1)) (s : List S29) (k t : ByteArray) (T : Nat) (x : Value) (W : World) (hI : InvP base lo hi Po Pm most rec s true true W) (hs : Seen W (.iface T x) k t) (hl : s.length < 100000) (hlt : (s.length : Int) < most) :
    Calls Tryz.prog 44 #[.iface T x, .pointer (some ⟨hi + 4, 0, none⟩), .pointer (some ⟨hi + 3, 0, none⟩)] W fun e W' => e = .returned (.bool true) ∧ InvP base lo hi Po Pm most rec (s ++ [⟨k, t, 0⟩]) true true W' ∧ Fr (KV base lo hi) W W' := by
  obtain ⟨fn, tmps, assign, body, hy, hR⟩ := hY s _ k t W hI (by simp) hs hl
  replace hR := hR.mono (R' := fun e W' => e = .returned (.bool true) ∧ InvP base lo hi Po Pm most rec (s ++ [⟨k, t, 0⟩]) true true W' ∧ Fr (KeptP base lo hi) W W') (fun e W' h => by
    unfold RoundPost at h
    rw [if_pos hlt] at h
    exact h)
  have c0 := cell_of_one hI.ok
  have c1 := cell_of_one hI.py
  have HR := Aside0.mk hR
  have HK := Aside0.mk (show ¬ KV base lo hi (hi + 4) by intro h; rcases h with h | h <;> omega)
  clear hR hY hI hs hl hlt hbl hlh
  refine (callsIn_wide (n := n)).1 ?_
  refine callsIn_of_wp Tryz.func44 rfl trivial ?_ rfl
  simp only [Tryz.ntmps44, List.size_toArray, List.length_cons, List.length_nil, Nat.reduceAdd, Nat.reduceSub, Array.replicate_succ, Array.replicate_zero, List.push_toArray, List.append_toArray, List.nil_append, List.cons_append]
  gi_wp2_with (refine HR.out.mono ?_; rintro e W3 ⟨rfl, hI3, hF3⟩; have e0 := cell_of_one hI3.ok; have f0 := free_of_one hI3.ok; have HI3 := Aside0.mk (hI3.store true); have HF3 := Aside0.mk (Fr.weak hF3 (fun k hk => kv_kept hk)); clear hI3 hF3)
  go_ret
  exact ⟨rfl, HI3.out, HF3.out.trans (Fr.set HK.out _)⟩
set_option maxHeartbeats 2000000 in
set_option maxRecDepth 100000 in
theorem pre_end {base lo hi Po Pm : Nat} {most : Int} {rec : LoopState → Option Code → Loop} {n : Nat} (hn : 1 ≤ n) (hbl : base ≤ lo) (hlh : lo ≤ hi) (hY : YieldsP base lo hi Po Pm most rec (n - 1)) (s : List S29) (k t : ByteArray) (T : Nat) (x : Value) (W : World) (hI : InvP base lo hi Po Pm most rec s true true W) (hs : Seen W (.iface T x) k t) (hl : s.length < 100000) (hlt : ¬ (s.length : Int) < most) :
    Calls Tryz.prog 44 #[.iface T x, .pointer (some ⟨hi + 4, 0, none⟩), .pointer (some ⟨hi + 3, 0, none⟩)] W fun e W' => e = .returned (.bool false) ∧ InvP base lo hi Po Pm most rec s false false W' ∧ Fr (KV base lo hi) W W' := by
  obtain ⟨fn, tmps, assign, body, hy, hR⟩ := hY s _ k t W hI (by simp) hs hl
  replace hR := hR.mono (R' := fun e W' => e = .returned (.bool false) ∧ InvP base lo hi Po Pm most rec s true false W' ∧ Fr (KeptP base lo hi) W W') (fun e W' h => by
    unfold RoundPost at h
    rw [if_neg hlt] at h
    exact h)
  have c0 := cell_of_one hI.ok
  have c1 := cell_of_one hI.py
  have HR := Aside0.mk hR
  have HK := Aside0.mk (show ¬ KV base lo hi (hi + 4) by intro h; rcases h with h | h <;> omega)
  clear hR hY hI hs hl hlt hbl hlh
  refine (callsIn_wide (n := n)).1 ?_
  refine callsIn_of_wp Tryz.func44 rfl trivial ?_ rfl
  simp only [Tryz.ntmps44, List.size_toArray, List.length_cons, List.length_nil, Nat.reduceAdd, Nat.reduceSub, Array.replicate_succ, Array.replicate_zero, List.push_toArray, List.append_toArray, List.nil_append, List.cons_append]
  gi_wp2_with (refine HR.out.mono ?_; rintro e W3 ⟨rfl, hI3, hF3⟩; have e0 := cell_of_one hI3.ok; have f0 := free_of_one hI3.ok; have HI3 := Aside0.mk (hI3.store false); have HF3 := Aside0.mk (Fr.weak hF3 (fun k hk => kv_kept hk)); clear hI3 hF3)
  go_ret
  exact ⟨rfl, HI3.out, HF3.out.trans (Fr.set HK.out _)⟩
set_option maxHeartbeats 2000000 in
set_option maxRecDepth 100000 in
theorem pre_off {base lo hi Po Pm : Nat} {most : Int} {rec : LoopState → Option Code → Loop} (hbl : base ≤ lo) (hlh : lo ≤ hi) (s : List S29) (T : Nat) (x : Value) (W : World) (hI : InvP base lo hi Po Pm most rec s false false W) :
    Calls Tryz.prog 44 #[.iface T x, .pointer (some ⟨hi + 4, 0, none⟩), .pointer (some ⟨hi + 3, 0, none⟩)] W fun e W' => e = .returned (.bool false) ∧ InvP base lo hi Po Pm most rec s false false W' ∧ Fr (KV base lo hi) W W' := by
  have c0 := cell_of_one hI.ok
  have f0 := free_of_one hI.ok
  have HI3 := Aside0.mk (hI.store false)
  have HK := Aside0.mk (show ¬ KV base lo hi (hi + 4) by intro h; rcases h with h | h <;> omega)
  clear hI hbl hlh
  go_enter Tryz.func44, Tryz.ntmps44
  go_wp2
  go_ret
  exact ⟨rfl, HI3.out, Fr.set HK.out _⟩
set_option maxHeartbeats 2000000 in
set_option maxRecDepth 100000 in
theorem pre_nil {base lo hi Po Pm : Nat} {most : Int} {rec : LoopState → Option Code → Loop} (s : List S29) (ok : Bool) (W : World) (hI : InvP base lo hi Po Pm most rec s ok ok W) :
    Calls Tryz.prog 44 #[.nilIface, .pointer (some ⟨hi + 4, 0, none⟩), .pointer (some ⟨hi + 3, 0, none⟩)] W fun e W' => e = .returned (.bool ok) ∧ InvP base lo hi Po Pm most rec s ok ok W' ∧ Fr (KV base lo hi) W W' := by
  have c0 := cell_of_one hI.ok
  have HI3 := Aside0.mk hI
  clear hI
  go_enter Tryz.func44, Tryz.ntmps44
  go_wp2
  go_ret
  exact ⟨rfl, HI3.out, Fr.refl _ _⟩
end Go.Proofs.YtdcaabjkklppjaaGreatFmt.A.Pr
/- ast.Preorder's iterator: the visitor, the function. -/
namespace Go.Proofs.YtdcaabjkklppjaaGreatFmt.A.Pr
open Go.RowKit Go.Proofs.YtdcaabjkklppjaaGreatFmtW.PrintWords Go.Proofs.YtdcaabjkklppjaaGreatFmtW.PrintLast Go.Proofs.YtdcaabjkklppjaaGreatFmtW.PrintMore
set_option linter.unusedVariables false
set_option linter.unusedSimpArgs false
attribute [local go_sem] Oper.semAt_some
attribute [local go_sem ↓] Go.wp_at_zero Go.wp_at_succ

set_option maxHeartbeats 2000000 in
set_option maxRecDepth 100000 in
theorem inspector44 (hi : Nat) (v : Value) (b : Bool) (W : World) (R : World → Prop) (h : Calls Tryz.prog 44 #[v, .pointer (some ⟨hi + 4, 0, none⟩), .pointer (some ⟨hi + 3, 0, none⟩)] W fun e W' => e = .returned (.bool b) ∧ R W') :
    Calls Tryz.prog 103 #[fN hi, v] W fun e W' => e = .returned (if b then .iface 62 (fN hi) else .nilIface) ∧ R W' := by
  have H := Aside0.mk h
  clear h
  go_enter Tryz.func103, Tryz.ntmps103
  cases b
  · go_wp2_with (first | (go_at_call 44; (with_reducible refine H.out.mono ?_); rintro e w1 ⟨rfl, hr⟩; have HR := Aside0.mk hr; clear hr))
    go_ret
    exact ⟨rfl, HR.out⟩
  · go_wp2_with (first | (go_at_call 44; (with_reducible refine H.out.mono ?_); rintro e w1 ⟨rfl, hr⟩; have HR := Aside0.mk hr; clear hr))
    go_ret
    exact ⟨rfl, HR.out⟩
/-- One visit. -/
def stepP (most : Int) (_ : Unit) (s : List S29 × Bool) : Option (ByteArray × ByteArray) → (List S29 × Bool) × Option Unit
  | some x => if s.2 = true ∧ (s.1.length : Int) < most then ((s.1 ++ [⟨x.1, x.2, 0⟩], true), some ()) else ((s.1, false), none)
  | none => (s, if s.2 then some () else none)
theorem step_go {most : Int} {l : List S29} {ok : Bool} (x : ByteArray × ByteArray) (h : ok = true ∧ (l.length : Int) < most) : stepP most () (l, ok) (some x) = ((l ++ [⟨x.1, x.2, 0⟩], true), some ()) := if_pos h
theorem step_no {most : Int} {l : List S29} {ok : Bool} (x : ByteArray × ByteArray) (h : ¬ (ok = true ∧ (l.length : Int) < most)) : stepP most () (l, ok) (some x) = ((l, false), none) := if_neg h
theorem vis44 {base lo hi Po Pm : Nat} {most : Int} {rec : LoopState → Option Code → Loop} {n : Nat} (hn : 1 ≤ n) (hbl : base ≤ lo) (hlh : lo ≤ hi) (hY : YieldsP base lo hi Po Pm most rec (n - 1)) (s : List S29 × Bool) (x : Option (ByteArray × ByteArray)) (v : Value) (W : World) (hl : s.1.length < 100000) (hI : InvP base lo hi Po Pm most rec s.1 s.2 s.2 W) (hs : SeenO W v x) :
    Calls Tryz.prog 44 #[v, .pointer (some ⟨hi + 4, 0, none⟩), .pointer (some ⟨hi + 3, 0, none⟩)] W fun e W' => e = .returned (.bool (stepP most () s x).2.isSome) ∧ InvP base lo hi Po Pm most rec (stepP most () s x).1.1 (stepP most () s x).1.2 (stepP most () s x).1.2 W' ∧ Fr (KV base lo hi) W W' := by
  obtain ⟨s, ok⟩ := s
  cases x with
  | none =>
    have hv : v = .nilIface := hs
    subst hv
    refine (pre_nil s ok W hI).mono ?_
    rintro e W' ⟨rfl, h⟩
    refine ⟨?_, h⟩
    cases ok <;> rfl
  | some x =>
    obtain ⟨hne, hseen⟩ := hs
    obtain ⟨T, y, rfl⟩ := hseen.form hne
    obtain ⟨k, t⟩ := x
    cases ok with
    | false =>
      rw [step_no (k, t) (by simp)]
      exact pre_off hbl hlh s T y W hI
    | true =>
      by_cases hlt : (s.length : Int) < most
      · rw [step_go (k, t) ⟨rfl, hlt⟩]
        exact pre_go hn hbl hlh hY s k t T y W hI hseen hl hlt
      · rw [step_no (k, t) (fun h => hlt h.2)]
        exact pre_end hn hbl hlh hY s k t T y W hI hseen hl hlt
/-- The visitor. -/
def VP {base lo hi Po Pm : Nat} {most : Int} {rec : LoopState → Option Code → Loop} {n : Nat} (hn : 1 ≤ n) (hbl : base ≤ lo) (hlh : lo ≤ hi) (hY : YieldsP base lo hi Po Pm most rec (n - 1)) : Vis Unit (List S29 × Bool) where
  T := 62
  fn := 103
  xv := fun _ => fN hi
  rc := fun _ => fN hi
  step := stepP most
  len := fun s => s.1.length
  inv := fun s W => InvP base lo hi Po Pm most rec s.1 s.2 s.2 W
  K := KV base lo hi
  M := 100000
  hm := fun _ w => meth62 _ w
  hcf := call103
  hlen := by
    intro b s x
    cases x with
    | none => simp [stepP]
    | some x =>
      by_cases h : s.2 = true ∧ (s.1.length : Int) < most
      · rw [step_go x h]; simp
      · rw [step_no x h]; simp
  call := by
    intro b s x v W hl hI hs
    refine (inspector44 hi v _ W _ (vis44 hn hbl hlh hY s x v W hl hI hs)).mono ?_
    rintro e W' ⟨rfl, h⟩
    refine ⟨?_, h⟩
    cases (stepP most () s x).2 with
    | none => rfl
    | some u => rfl
/-- The nodes in preorder. -/
def prN : Nat → S24 → List S29
  | 0, _ => []
  | D + 1, n => ⟨kindB n, textB n, 0⟩ :: (catTo (fun i => prN D (rd_T24 n.f2 (i : Int))) (nk n) ++ (if n.f0 = bSel then [⟨bName, n.f1, 0⟩] else []))
def feed (most : Int) (s : List S29 × Bool) : List S29 → List S29 × Bool
  | [] => s
  | x :: xs => feed most (stepP most () s (some (x.f0, x.f1))).1 xs
theorem feed_app (most : Int) : ∀ (xs ys : List S29) (s : List S29 × Bool), feed most s (xs ++ ys) = feed most (feed most s xs) ys
  | [], _, _ => rfl
  | x :: xs, ys, s => feed_app most xs ys _
theorem step_off (most : Int) (l : List S29) (x : ByteArray × ByteArray) : stepP most () (l, false) (some x) = ((l, false), none) := step_no x (by simp)
theorem feed_off (most : Int) : ∀ (xs : List S29) (l : List S29), feed most (l, false) xs = (l, false)
  | [], _ => rfl
  | x :: xs, l => by
    rw [feed, step_off]
    exact feed_off most xs l
theorem feed_take (most : Int) : ∀ (xs l : List S29), (l.length : Int) ≤ most → (∀ x, x ∈ xs → x.f2 = 0) → (feed most (l, true) xs).1 = l ++ xs.take (most.toNat - l.length)
  | [], l, _, _ => by simp [feed]
  | x :: xs, l, h, h0 => by
    rw [feed]
    by_cases hlt : (l.length : Int) < most
    · rw [step_go _ ⟨rfl, hlt⟩]
      have h2 := feed_take most xs (l ++ [⟨x.f0, x.f1, 0⟩]) (by simp; omega) (fun y hy => h0 y (List.mem_cons_of_mem _ hy))
      rw [h2]
      obtain ⟨f0, f1, f2⟩ := x
      have hf : f2 = 0 := h0 _ (List.mem_cons_self)
      subst hf
      obtain ⟨m, hm⟩ : ∃ m, most.toNat - l.length = m + 1 := ⟨most.toNat - l.length - 1, by omega⟩
      rw [hm, List.take_succ_cons, List.length_append, List.length_singleton, show most.toNat - (l.length + 1) = m by omega]
      simp
    · rw [step_no _ (fun h => hlt h.2), feed_off, show most.toNat - l.length = 0 by omega]
      simp
theorem trav_off (V : Vis Unit (List S29 × Bool)) (most : Int) (hst : V.step = stepP most) (D : Nat) (n : S24) (l : List S29) : V.trav D () (l, false) n = (l, false) := by
  cases D with
  | zero => rfl
  | succ D =>
    rw [Vis.trav, hst, step_off]
theorem trav_pr (V : Vis Unit (List S29 × Bool)) (most : Int) (hst : V.step = stepP most) : ∀ (D : Nat) (n : S24) (s : List S29 × Bool), V.trav D () s n = feed most s (prN D n)
  | 0, n, s => rfl
  | D + 1, n, s => by
    obtain ⟨l, ok⟩ := s
    by_cases hok : ok = true ∧ (l.length : Int) < most
    · have e := step_go (kindB n, textB n) hok
      rw [Vis.trav, hst, e, prN, feed, e]
      have hf : ∀ (s : List S29 × Bool) (m : Nat), foldTo (fun s i => V.trav D () s (rd_T24 n.f2 (i : Int))) s m = feed most s (catTo (fun i => prN D (rd_T24 n.f2 (i : Int))) m) := by
        intro s m
        induction m with
        | zero => rfl
        | succ m ih => rw [foldTo, ih, catTo, feed_app, trav_pr V most hst D]
      have hsel : ∀ s, V.sel () n s = feed most s (if n.f0 = bSel then [(⟨bName, n.f1, 0⟩ : S29)] else []) := by
        intro s
        unfold Vis.sel
        split
        · unfold Vis.leaf
          rw [hst]
          show _ = feed most _ []
          cases hb : stepP most () s (some (bName, n.f1)) with
          | mk s1 o =>
            cases o with
            | none => rfl
            | some u => rfl
        · rfl
      show (stepP most () _ none).1 = _
      rw [hf, hsel, feed_app]
      rfl
    · have e := step_no (kindB n, textB n) hok
      rw [Vis.trav, hst, e, prN, feed, e, feed_off]
set_option maxHeartbeats 2000000 in
set_option maxRecDepth 100000 in
/-- The iterator. -/
theorem iter_any {base lo hi Po Pm : Nat} {most : Int} {rec : LoopState → Option Code → Loop} {n : Nat} (hn : 1 ≤ n) (hbl : base ≤ lo) (hlh : lo ≤ hi) (hY : YieldsP base lo hi Po Pm most rec (n - 1)) (D : Nat) (nd : S24) (v : Value) (W : World) (hz : W.heap.size = hi + 3) (hcnt : cnt D nd ≤ 90000) (ht : Tree (fun k => lo ≤ k ∧ k < hi) W D nd v) (hroot : One W hi v 43)
    (hout : ∃ vo, OutAt base (KeptP base lo hi) Po vo [] W) (hpm : One W Pm (.int .i64 most) 2) (hlp : W.heap[hi + 2]? = some (.loop (rec .ready none))) (hdf : W.heap[hi + 1]? = some (.deferred (some []))) :
    Calls Tryz.prog 43 #[.func (.yield (hi + 2)) #[] #[], .pointer (some ⟨hi, 0, none⟩)] W fun e W' => e = .returned (.tuple #[]) ∧ InvP base lo hi Po Pm most rec (feed most ([], true) (prN D nd)).1 (feed most ([], true) (prN D nd)).2 (feed most ([], true) (prN D nd)).2 W' ∧ Fr (KV base lo hi) W W' := by
  obtain ⟨T1, b1, rfl⟩ := ht.form
  obtain ⟨vo, hout⟩ := hout
  have hb : Below W.heap.size W ((W.alloc (.cells #[.func (.yield (hi + 2)) #[] #[]] 46)).alloc (.cells #[.bool true] 4)) := ((Below.refl _ _).alloc (Nat.le_refl _) _).alloc (by simp) _
  have p1 : One ((W.alloc (.cells #[.func (.yield (hi + 2)) #[] #[]] 46)).alloc (.cells #[.bool true] 4)) (hi + 3) (.func (.yield (hi + 2)) #[] #[]) 46 := by
    rw [← hz]
    exact (Below.heap_alloc _ _ _ (by simp)).trans (heap_alloc_new W _)
  have p2 : One ((W.alloc (.cells #[.func (.yield (hi + 2)) #[] #[]] 46)).alloc (.cells #[.bool true] 4)) (hi + 4) (.bool true) 4 := by
    have := heap_alloc_new (W.alloc (.cells #[.func (.yield (hi + 2)) #[] #[]] 46)) (.cells #[.bool true] 4)
    rw [World.size_alloc, hz] at this
    exact this
  have hinv : InvP base lo hi Po Pm most rec [] true true ((W.alloc (.cells #[.func (.yield (hi + 2)) #[] #[]] 46)).alloc (.cells #[.bool true] 4)) :=
    ⟨⟨vo, hout.below hb⟩, hpm.below hb, p2, p1, (hb.block _ (by omega)).trans hlp, (hb.block _ (by omega)).trans hdf, by simp; omega⟩
  have hw := walk_all (VP hn hbl hlh hY) (by show 100000 ≤ 1000000; omega) D () ([], true) nd _ _ (ht.keep (K' := KV base lo hi) (fun k hk hl => ⟨.inr ⟨hk.1, Nat.le_of_lt hk.2⟩, hb.block k hl⟩)) hinv (by show 0 + cnt D nd ≤ 100000; omega)
  rw [trav_pr _ most rfl D nd ([], true)] at hw
  have HI : Aside0 (Calls Tryz.prog 21 #[.iface T1 (.pointer (some ⟨b1, 0, none⟩)), fN hi] ((W.alloc (.cells #[.func (.yield (hi + 2)) #[] #[]] 46)).alloc (.cells #[.bool true] 4)) fun e W' => e = .returned (.tuple #[]) ∧ (InvP base lo hi Po Pm most rec (feed most ([], true) (prN D nd)).1 (feed most ([], true) (prN D nd)).2 (feed most ([], true) (prN D nd)).2 W' ∧ Fr (KV base lo hi) ((W.alloc (.cells #[.func (.yield (hi + 2)) #[] #[]] 46)).alloc (.cells #[.bool true] 4)) W')) := Aside0.mk (inspect_any _ _ _ (fun W' => InvP base lo hi Po Pm most rec (feed most ([], true) (prN D nd)).1 (feed most ([], true) (prN D nd)).2 (feed most ([], true) (prN D nd)).2 W' ∧ Fr (KV base lo hi) ((W.alloc (.cells #[.func (.yield (hi + 2)) #[] #[]] 46)).alloc (.cells #[.bool true] 4)) W') hw)
  have HB := Aside0.mk hb
  have c0 : ((W.alloc (.cells #[.func (.yield (hi + 2)) #[] #[]] 46)).alloc (.cells #[.bool true] 4)).cell? ⟨hi, 0, none⟩ = some (.iface T1 (.pointer (some ⟨b1, 0, none⟩))) := cell_of_one (hroot.below hb)
  have z1 : W.heap.size + 1 = hi + 4 := by omega
  clear hw hinv hout hpm hlp hdf ht hcnt p1 p2 hb hroot hY
  go_enter Tryz.func43, Tryz.ntmps43
  go_wp2_with (first
    | (go_at_call 21; refine HI.out.mono ?_; rintro e w1 ⟨rfl, hv⟩; have HV := Aside0.mk hv; clear hv))
  first | (refine bodyPost_ret (results_none rfl _ _ _) rfl ?_) | go_end0
  exact ⟨rfl, HV.out.1, Fr.trans (Fr.below HB.out) HV.out.2⟩
end Go.Proofs.YtdcaabjkklppjaaGreatFmt.A.Pr
/- impl.Preordered. -/
namespace Go.Proofs.YtdcaabjkklppjaaGreatFmt.A.Pr
open Go.RowKit Go.Proofs.YtdcaabjkklppjaaGreatFmtW.PrintWords Go.Proofs.YtdcaabjkklppjaaGreatFmtW.PrintLast Go.Proofs.YtdcaabjkklppjaaGreatFmtW.PrintMore
set_option linter.unusedVariables false
set_option linter.unusedSimpArgs false
attribute [local go_sem] Oper.semAt_some
attribute [local go_sem ↓] Go.wp_at_zero Go.wp_at_succ

set_option maxHeartbeats 2000000 in
set_option maxRecDepth 100000 in
theorem preorder_any (T b : Nat) (w : World) : Calls Tryz.prog 27 #[.iface T (.pointer (some ⟨b, 0, none⟩))] w fun e w' => e = .returned (.func (.func 43) #[] #[.pointer (some ⟨w.heap.size, 0, none⟩)]) ∧ w' = w.alloc (.cells #[.iface T (.pointer (some ⟨b, 0, none⟩))] 43) := by
  go_enter Tryz.func27, Tryz.ntmps27
  go_wp2
  go_ret
  exact ⟨rfl, rfl⟩
theorem bx4 (w : World) (o0 o1 o2 o3 : Obj) : ((((w.alloc o0).alloc o1).alloc o2).alloc o3).heap.size = w.heap.size + 4 ∧ ((((w.alloc o0).alloc o1).alloc o2).alloc o3).heap[w.heap.size + 1]? = some o1 ∧
    ((((w.alloc o0).alloc o1).alloc o2).alloc o3).heap[w.heap.size + 2]? = some o2 ∧ ((((w.alloc o0).alloc o1).alloc o2).alloc o3).heap[w.heap.size + 3]? = some o3 ∧ Below w.heap.size w ((((w.alloc o0).alloc o1).alloc o2).alloc o3) := by
  refine ⟨?_, ?_, ?_, ?_, ?_⟩
  · show ((((w.heap.push o0).push o1).push o2).push o3).size = _
    simp
  · show ((((w.heap.push o0).push o1).push o2).push o3)[w.heap.size + 1]? = _
    simp only [Array.getElem?_push, Array.size_push]
    repeat (first | rw [if_pos (by omega)] | rw [if_neg (by omega)])
    exact if_pos trivial
  · show ((((w.heap.push o0).push o1).push o2).push o3)[w.heap.size + 2]? = _
    simp only [Array.getElem?_push, Array.size_push]
    repeat (first | rw [if_pos (by omega)] | rw [if_neg (by omega)])
    exact if_pos trivial
  · show ((((w.heap.push o0).push o1).push o2).push o3)[w.heap.size + 3]? = _
    simp only [Array.getElem?_push, Array.size_push]
    repeat (first | rw [if_pos (by omega)] | rw [if_neg (by omega)])
    exact if_pos trivial
  · exact ((((Below.refl w.heap.size w).alloc (Nat.le_refl _) o0).alloc (by simp) o1).alloc (by simp; omega) o2).alloc (by simp; omega) o3
theorem catTo_mem {α : Type} {f : Nat → List α} {x : α} : ∀ {m : Nat}, x ∈ catTo f m → ∃ i, x ∈ f i
  | 0, h => by cases h
  | m + 1, h => by
    rw [catTo] at h
    rcases List.mem_append.1 h with h | h
    · exact catTo_mem h
    · exact ⟨m, h⟩
theorem prN_zero : ∀ (D : Nat) (n : S24) (x : S29), x ∈ prN D n → x.f2 = 0
  | 0, _, _, h => by cases h
  | D + 1, n, x, h => by
    rw [prN] at h
    rcases List.mem_cons.1 h with h | h
    · rw [h]
    · rcases List.mem_append.1 h with h | h
      · obtain ⟨i, hi⟩ := catTo_mem h
        exact prN_zero D _ x hi
      · split at h
        · rw [List.mem_singleton] at h
          rw [h]
        · cases h
/-- Within a round: the record is busy. -/
structure BusyP (base lo hi Po Pm : Nat) (most : Int) (rec : LoopState → Option Code → Loop) (s : List S29) (W0 W : World) : Prop where
  out : ∃ vo, OutAt base (KeptP base lo hi) Po vo s W
  pm : One W Pm (.int .i64 most) 2
  ok : One W (hi + 4) (.bool true) 4
  py : One W (hi + 3) (.func (.yield (hi + 2)) #[] #[]) 46
  lp : W.heap[hi + 2]? = some (.loop { rec .ready none with state := .busy })
  df : W.heap[hi + 1]? = some (.deferred (some []))
  sz : hi + 5 ≤ W.heap.size
  fr : Fr (KeptP base lo hi) W0 W
theorem one_put {W : World} {P t l : Nat} {v : Value} {r : Loop} (h : One W P v t) (hl : W.heap[l]? = some (.loop r)) (o : Obj) : One (W.putObj l o) P v t := by
  have hne : P ≠ l := by
    intro e
    subst e
    rw [h] at hl
    cases hl
  exact (World.putObj_heap_other hne).trans h
theorem out_put {base : Nat} {K : Nat → Prop} {W : World} {Po l : Nat} {vo : Value} {s : List S29} {r : Loop} (h : OutAt base K Po vo s W) (hl : W.heap[l]? = some (.loop r)) (o : Obj) : OutAt base K Po vo s (W.putObj l o) := by
  refine ⟨one_put h.out hl o, ?_⟩
  have h2 : Kd.R k29 29 W base (fun k => ¬ K k ∧ some k = vo.ownBlock) vo s := ⟨fun k hk => ⟨h.row.1 k hk, hk.symm⟩, h.row.2⟩
  refine Kd.R_mono (Kd.R_step h2 (fun k hk hlt => World.putObj_heap_other ?_)) (fun k hk => hk.1)
  intro e
  subst e
  obtain ⟨cells, hc⟩ := Kd.R_typed h.row k hk.2.symm
  rw [hl] at hc
  cases hc
theorem seen_put {W : World} {v : Value} {k t : ByteArray} {l : Nat} {r : Loop} (h : Seen W v k t) (hl : W.heap[l]? = some (.loop r)) (o : Obj) : Seen (W.putObj l o) v k t := by
  have hc : ∀ {a : Addr} {u : Value}, W.cell? a = some u → (W.putObj l o).cell? a = some u := by
    intro a u h
    have hne : a.block ≠ l := by
      intro e
      unfold World.cell? at h
      rw [e, hl] at h
      cases h
    exact (World.cell?_of_block (World.putObj_heap_other hne)).trans h
  cases h with
  | nil => exact .nil
  | name b t h => exact .name b t (hc h)
  | lit b t h => exact .lit b t (hc h)
  | paren b => exact .paren b
  | sel b => exact .sel b
  | idx b => exact .idx b
  | star b => exact .star b
  | un b => exact .un b
  | bin b => exact .bin b
  | call b => exact .call b
theorem fr_put {base lo hi : Nat} {W : World} (hbl : base ≤ lo) (hlh : lo ≤ hi) (o : Obj) : Fr (KeptP base lo hi) W (W.putObj (hi + 2) o) :=
  ⟨rfl, rfl, rfl, by simp, fun k hk _ => World.putObj_heap_other (by intro e; subst e; rcases hk with h | h | h | h <;> omega)⟩
theorem InvP.begin {base lo hi Po Pm : Nat} {most : Int} {rec : LoopState → Option Code → Loop} {s : List S29} {W : World} (hbl : base ≤ lo) (hlh : lo ≤ hi) (h : InvP base lo hi Po Pm most rec s true true W) :
    BusyP base lo hi Po Pm most rec s W (W.putObj (hi + 2) (.loop { rec .ready none with state := .busy })) := by
  obtain ⟨⟨vo, h1⟩, h2, h3, h4, h5, h6, h7⟩ := h
  have h5 : W.heap[hi + 2]? = some (.loop (rec .ready none)) := h5
  exact ⟨⟨vo, out_put h1 h5 _⟩, one_put h2 h5 _, one_put h3 h5 _, one_put h4 h5 _, World.putObj_heap_same (by omega), (World.putObj_heap_other (by omega)).trans h6, by simpa using h7, fr_put hbl hlh _⟩
theorem BusyP.fin {base lo hi Po Pm : Nat} {most : Int} {rec : LoopState → Option Code → Loop} {s : List S29} {W0 W : World} (hbl : base ≤ lo) (hlh : lo ≤ hi) (h : BusyP base lo hi Po Pm most rec s W0 W) (jump : Option Code) (o : Obj) (b : Bool) (ho : o = .loop (if b then rec .ready none else rec .done (some (.exit 0)))) :
    InvP base lo hi Po Pm most rec s true b (W.putObj (hi + 2) o) ∧ Fr (KeptP base lo hi) W0 (W.putObj (hi + 2) o) := by
  obtain ⟨⟨vo, h1⟩, h2, h3, h4, h5, h6, h7, h8⟩ := h
  exact ⟨⟨⟨vo, out_put h1 h5 _⟩, one_put h2 h5 _, one_put h3 h5 _, one_put h4 h5 _, by rw [ho]; exact World.putObj_heap_same (by omega), (World.putObj_heap_other (by omega)).trans h6, by simpa using h7⟩, h8.trans (fr_put hbl hlh _)⟩
/-- Behind the loop. -/
def FinP (base hi Po : Nat) (res : List S29) (w W : World) : Prop := (∃ vo, OutAt base (fun _ => False) Po vo res W) ∧ W.heap[hi + 1]? = some (.deferred (some [])) ∧ Fr (fun k => k < base) w W
/-- The record of the loop. -/
def recP (fn : FuncId) (tmps : Array Value) (assign body : Code) (hi : Nat) : LoopState → Option Code → Loop := fun st pe => { state := st, pending := pe, fn, tmps, params := #[11], assign, body, defers := hi + 1 }
theorem BusyP.push {base lo hi Po Pm : Nat} {most : Int} {rec : LoopState → Option Code → Loop} {s : List S29} {W0 Wb w2 w8 : World} {vo v8 : Value} {x : S29} (h : BusyP base lo hi Po Pm most rec s W0 Wb) (hb : Below Wb.heap.size Wb w2) (ho : OutAt base (KeptP base lo hi) Po vo s Wb)
    (h8 : Kd.R k29 29 w8 base (fun k => ¬ KeptP base lo hi k) v8 (s ++ [x])) (hg : w2.grownBy w8 vo.ownBlock) (ko : ¬ KeptP base lo hi Po) : BusyP base lo hi Po Pm most rec (s ++ [x]) W0 (w8.setCell ⟨Po, 0, none⟩ v8) := by
  obtain ⟨_, h2, h3, h4, h5, h6, h7, hf⟩ := h
  have ho2 := ho.below hb
  have ho8 : One w8 Po vo 26 := One.grown ho2 hg ho2.out (by decide)
  have nr : ∀ {l : Nat} {o : Obj}, w2.heap[l]? = some o → (∀ cs t q, o ≠ .cells cs t q) → some l ≠ vo.ownBlock := by
    intro l o hl hn e
    obtain ⟨cells, hc⟩ := Kd.R_typed ho2.row l e.symm
    rw [hl] at hc
    exact hn _ _ _ (Option.some.inj hc)
  have up : ∀ {l : Nat} {o : Obj}, Wb.heap[l]? = some o → (∀ cs t q, o ≠ .cells cs t q) → l ≠ Po → (w8.setCell ⟨Po, 0, none⟩ v8).heap[l]? = some o := by
    intro l o hl hn hne
    have hl2 : w2.heap[l]? = some o := (hb.block _ (Array.getElem?_eq_some_iff.1 hl).1).trans hl
    have hl8 : w8.heap[l]? = some o := (hg.block _ (Array.getElem?_eq_some_iff.1 hl2).1 (nr hl2 hn)).trans hl2
    exact (Below.heap_setCell _ _ _ _ hne).trans hl8
  have nP : ∀ {l : Nat} {o : Obj}, Wb.heap[l]? = some o → (∀ cs t q, o ≠ .cells cs t q) → l ≠ Po := by
    intro l o hl hn e
    subst e
    have := hl.symm.trans ho.out
    exact hn _ _ _ (Option.some.inj this)
  have ne1 : ∀ (r : Loop) (cs : Array Value) (t : TypeId) (q : Nat × Nat), Obj.loop r ≠ .cells cs t q := by
    intro r cs t q e
    cases e
  have ne2 : ∀ (d : Option (List Deferred)) (cs : Array Value) (t : TypeId) (q : Nat × Nat), Obj.deferred d ≠ .cells cs t q := by
    intro r cs t q e
    cases e
  have a2 := One.grown ho2 hg (h2.below hb) (by decide)
  have a3 := One.grown ho2 hg (h3.below hb) (by decide)
  have a4 := One.grown ho2 hg (h4.below hb) (by decide)
  refine ⟨⟨v8, OutAt.push ho2 h8 hg⟩, One.set a2 (One.ne a2 ho8 (by decide)), One.set a3 (One.ne a3 ho8 (by decide)), One.set a4 (One.ne a4 ho8 (by decide)), up h5 (ne1 _) (nP h5 (ne1 _)), up h6 (ne2 _) (nP h6 (ne2 _)), ?_, ?_⟩
  · have := hb.size
    have := hg.size
    have e : (w8.setCell ⟨Po, 0, none⟩ v8).heap.size = w8.heap.size := by simp [World.setCell]
    omega
  · exact hf.trans ((Fr.below hb).trans ((Fr.grown ho2 hg).trans (Fr.set ko _)))
theorem round_end {base lo hi Po Pm : Nat} {most : Int} {rec : LoopState → Option Code → Loop} {s : List S29} {k t : ByteArray} {W0 W : World} {fn : FuncId} {tm : Array Value} {ac bc : Code} {a : Act} (hbl : base ≤ lo) (hlh : lo ≤ hi) (hrec : recP fn tm ac bc hi = rec) (hlt : (s.length : Int) < most) (h : BusyP base lo hi Po Pm most rec (s ++ [⟨k, t, 0⟩]) W0 W) :
    roundPost Tryz.prog (hi + 2) (RoundPost base lo hi Po Pm most rec s k t W0) .normal a W := by
  refine ⟨_, _, run_endRound none h.lp, ?_⟩
  unfold RoundPost
  rw [if_pos hlt]
  refine ⟨rfl, h.fin hbl hlh none _ true ?_⟩
  subst hrec
  rfl
theorem round_stop {base lo hi Po Pm : Nat} {most : Int} {rec : LoopState → Option Code → Loop} {s : List S29} {k t : ByteArray} {W0 W : World} {fn : FuncId} {tm : Array Value} {ac bc : Code} {a : Act} (hbl : base ≤ lo) (hlh : lo ≤ hi) (hrec : recP fn tm ac bc hi = rec) (hlt : ¬ (s.length : Int) < most) (h : BusyP base lo hi Po Pm most rec s W0 W) :
    roundPost Tryz.prog (hi + 2) (RoundPost base lo hi Po Pm most rec s k t W0) (.exit 0) a W := by
  refine ⟨_, _, run_endRound (some (.exit 0)) h.lp, ?_⟩
  unfold RoundPost
  rw [if_neg hlt]
  refine ⟨rfl, h.fin hbl hlh (some (.exit 0)) _ false ?_⟩
  subst hrec
  rfl
set_option maxHeartbeats 1000000 in
theorem loop_law {base lo hi Po Pm : Nat} {most : Int} {assign body : Code} {Q : Exit → Act → World → Prop} {a : Act} {w : World} {n : Nat} (hbl : base ≤ lo) (hlh : lo ≤ hi) (D : Nat) (nd : S24) (v : Value) (hcnt : cnt D nd ≤ 90000) (h0 : 0 ≤ most)
    (hg : a.eval (.tmp 10) = .func (.func 43) #[] #[.pointer (some ⟨hi, 0, none⟩)]) (hz : w.heap.size = hi + 1) (ht : Tree (fun k => lo ≤ k ∧ k < hi) w D nd v) (hroot : One w hi v 43)
    (hout : ∃ vo, OutAt base (KeptP base lo hi) Po vo [] w) (hpm : One w Pm (.int .i64 most) 2)
    (hround : ∀ (fn : FuncId) (s : List S29) (v0 : Value) (k t : ByteArray) (W : World), InvP base lo hi Po Pm most (recP fn a.tmps assign body hi) s true true W → v0 ≠ .nilIface → Seen W v0 k t → s.length < 100000 →
      assign.wpIn (Fence.wide.inRound (hi + 2)) 0 Tryz.prog (Exit.then (fun a₁ w₁ => ∃ w₂, (Instr.beginRound (hi + 2)).run Tryz.prog w₁ = .ok () w₂ ∧ body.wpIn (Fence.wide.inRound (hi + 2)) 0 Tryz.prog (roundPost Tryz.prog (hi + 2) (RoundPost base lo hi Po Pm most (recP fn a.tmps assign body hi) s k t W)) a₁ w₂) (fun _ _ _ => False)) { tmps := a.tmps.setIfInBounds 11 v0, defers := [] } W)
    (hdone : ∀ W', FinP base hi Po ((prN D nd).take most.toNat) w W' → Q .normal { a with defers := { target := .collected (hi + 1), args := #[] } :: a.defers } W')
    (hstop : ∀ W', FinP base hi Po ((prN D nd).take most.toNat) w W' → (Code.exit 0).wpIn Fence.wide n Tryz.prog Q { a with defers := { target := .collected (hi + 1), args := #[] } :: a.defers } W') :
    (Code.rangeFunc (.tmp 10) #[11] assign body).wpIn Fence.wide n Tryz.prog Q a w := by
  refine wpIn_rangeFunc ?_
  intro fn hfn
  obtain ⟨rec, hrec⟩ : ∃ rec, rec = recP fn a.tmps assign body hi := ⟨_, rfl⟩
  obtain ⟨W1, hW1⟩ : ∃ W1, (w.alloc (.deferred (some []))).alloc (.loop (rec .ready none)) = W1 := ⟨_, rfl⟩
  have hb1 : Below w.heap.size w W1 := by
    rw [← hW1]
    exact ((Below.refl _ _).alloc (Nat.le_refl _) _).alloc (by simp) _
  have hz1 : W1.heap.size = hi + 3 := by rw [← hW1]; simp; omega
  have hlp : W1.heap[hi + 2]? = some (.loop (rec .ready none)) := by
    have := World.alloc_heap_new (w.alloc (.deferred (some []))) (.loop (rec .ready none))
    rw [World.size_alloc, hz, hW1] at this
    exact this
  have hdf : W1.heap[hi + 1]? = some (.deferred (some [])) := by
    rw [← hW1, ← hz]
    exact (Below.heap_alloc _ _ _ (by simp)).trans (World.alloc_heap_new w _)
  have hY : YieldsP base lo hi Po Pm most rec (1 - 1) := by
    intro s v0 k t W hI hv hs hl
    have hl0 : W.heap[hi + 2]? = some (.loop (rec .ready none)) := hI.lp
    have hy := run_yield (P := Tryz.prog) (args := #[v0]) hl0 (by rw [hrec]; rfl)
    rw [hrec] at hy
    refine ⟨fn, _, assign, body, hy, roundIn_of_wpIn trivial ?_⟩
    rw [hrec] at hI ⊢
    have htm : (((recP fn a.tmps assign body hi .ready none).params.zip #[v0]).foldl (fun tmps (t, a) => tmps.setIfInBounds t a) (recP fn a.tmps assign body hi .ready none).tmps) = a.tmps.setIfInBounds 11 v0 := by
      simp [recP]
    rw [htm]
    exact hround fn s v0 k t W hI hv hs hl
  obtain ⟨vo, hout⟩ := hout
  have hit := iter_any (n := 1) (Nat.le_refl 1) hbl hlh hY D nd v W1 hz1 hcnt (ht.keep (fun k hk hl => ⟨hk, hb1.block k hl⟩)) (hroot.below hb1) ⟨vo, hout.below hb1⟩ (hpm.below hb1) hlp hdf
  have hfeed := feed_take most (prN D nd) [] (by simpa using h0) (prN_zero D nd)
  rw [List.nil_append] at hfeed
  have hfin : ∀ (W : World) (ok : Bool), InvP base lo hi Po Pm most rec (feed most ([], true) (prN D nd)).1 ok ok W → Fr (KV base lo hi) W1 W → ∀ o, FinP base hi Po ((prN D nd).take most.toNat) w (W.putObj (hi + 2) o) := by
    intro W ok hI hf o
    obtain ⟨⟨vo2, h1⟩, h2, h3, h4, h5, h6, h7⟩ := hI
    obtain ⟨r, h5⟩ : ∃ r, W.heap[hi + 2]? = some (.loop r) := ⟨_, h5⟩
    refine ⟨⟨vo2, ?_⟩, (World.putObj_heap_other (by omega)).trans h6, ?_⟩
    · have h9 := out_put h1 h5 o
      rw [hfeed] at h9
      exact ⟨h9.out, Kd.R_mono h9.row (fun _ _ h => h)⟩
    · refine Fr.trans (Fr.trans (Fr.weak (K' := fun k => k < base) (Fr.below hb1) (fun k hk => hk)) (Fr.weak hf (fun k hk => .inl hk))) ?_
      exact ⟨rfl, rfl, rfl, by simp, fun k hk _ => World.putObj_heap_other (by have : k < base := hk; omega)⟩
  refine ⟨hi + 2, [{ target := .collected (hi + 1), args := #[] }], W1, { target := .fn (.func 43) #[.pointer (some ⟨hi, 0, none⟩)], args := #[.func (.yield (hi + 2)) #[] #[]] }, W1, 43, #[.func (.yield (hi + 2)) #[] #[], .pointer (some ⟨hi, 0, none⟩)], W1, ?_, ?_, fun _ _ => trivial, ?_, fun h => (by cases h), ?_⟩
  · have := run_enterLoop_outer (P := Tryz.prog) (w := w) fn a.tmps #[11] assign body
    rw [hz] at this
    rw [← hW1, hrec]
    exact this
  · simp only [resolve, hg]
    simp [go_sem]
  · have eg : ∀ args w, (callFunc 43 args).run Tryz.prog w = .ok (.enter 43 args) w := enters_of Tryz.func43 (by kernel_rfl) rfl
    simp [invoke, go_sem, eg]
  · refine CallsIn.mono (callsIn_wide.2 hit) ?_
    rintro e W ⟨rfl, hI, hF⟩
    cases hok : (feed most ([], true) (prN D nd)).2
    · rw [hok] at hI
      have h5 : W.heap[hi + 2]? = some (.loop (rec .done (some (.exit 0)))) := hI.lp
      have hend := run_endLoop (P := Tryz.prog) h5 (by rw [hrec]; simp [recP])
      rw [hrec] at hend
      exact ⟨_, _, hend, hstop _ (hfin W false hI hF _)⟩
    · rw [hok] at hI
      have h5 : W.heap[hi + 2]? = some (.loop (rec .ready none)) := hI.lp
      have hend := run_endLoop (P := Tryz.prog) h5 (by rw [hrec]; simp [recP])
      rw [hrec] at hend
      exact ⟨_, _, hend, hdone _ (hfin W true hI hF _)⟩
set_option maxHeartbeats 4000000 in
set_option maxRecDepth 100000 in
theorem preordered_any (S : Nat → ByteArray) (D : Nat) (hD : D ≤ 800) (n : S24) (A : Option Addr) (c : Nat) (most : Int) (h0 : 0 ≤ most) (w : World) (hg : Good S D n) (hcnt : cnt D n ≤ 90000) (hr : Kd.C k24 w A n.f2.length n.f2) (hc : n.f2.length ≤ c) (hT : TokTab S w) :
    Calls Tryz.prog 17 #[.agg #[.string n.f0, .string n.f1, .slice A n.f2.length c], .int .i64 most] w fun e w' => ∃ v0_, e = .returned v0_ ∧ Kd.R k29 29 w' w.heap.size (fun _ => True) v0_ ((prN D n).take most.toNat) ∧ Below w.heap.size w w' := by
  have HG := Aside0.mk hg
  have HCN := Aside0.mk hcnt
  have HR := Aside0.mk hr
  have HC := Aside0.mk hc
  have HT := Aside0.mk hT
  have H0 := Aside0.mk h0
  obtain ⟨z0, z1, z2, z3, z4⟩ := bx4 w (.cells #[.string n.f0, .string n.f1, .slice A n.f2.length c] 24) (.cells #[.int .i64 most] 2) (.cells #[] 29) (.cells #[.slice (some ⟨w.heap.size + 1 + 1, 0, none⟩) 0 0] 26)
  have HN := Aside0.mk (node_any S D n A c _ hg (Kd.C_below hr z4) hc (hT.below z4))
  have HZ := Aside0.mk (And.intro z0 (And.intro z1 (And.intro z2 (And.intro z3 z4))))
  clear hg hcnt hr hc hT h0 z0 z1 z2 z3 z4
  refine (callsIn_wide (n := 5)).1 ?_
  refine callsIn_of_wp_marks Tryz.func17 rfl trivial ?_ rfl
  simp only [Tryz.ntmps17, List.size_toArray, List.length_cons, List.length_nil, Nat.reduceAdd, Nat.reduceSub, Array.replicate_succ, Array.replicate_zero, List.push_toArray, List.append_toArray, List.nil_append, List.cons_append]
  gi_wp2_with (first
    | (refine ⟨trivial, ?_⟩; gi_at_call 22; refine CallsIn.mono (callsIn_wide.2 HN.out) ?_; rintro e w1 ⟨v1, rfl, ht1, hb1⟩; have HT1 := Aside0.mk ht1; have HB1 := Aside0.mk hb1; obtain ⟨T1, b1, rfl⟩ := ht1.form; clear ht1 hb1)
    | (refine ⟨trivial, ?_⟩; gi_at_call 27; refine CallsIn.mono (callsIn_wide.2 (preorder_any T1 b1 _)) ?_; rintro e w2 ⟨rfl, rfl⟩))
  obtain ⟨z0, z1, z2, z3, z4⟩ := HZ.out
  have hlo : w.heap.size + 4 ≤ w1.heap.size := by rw [← z0]; exact HB1.out.size
  have hbw : Below w.heap.size w (w1.alloc (.cells #[.iface T1 (.pointer (some ⟨b1, 0, none⟩))] 43)) := z4.trans ((HB1.out.trans (((Below.refl _ _).alloc (Nat.le_refl _) _).mono HB1.out.size)).mono (by rw [z0]; omega))
  have hb43 : Below w1.heap.size w1 (w1.alloc (.cells #[.iface T1 (.pointer (some ⟨b1, 0, none⟩))] 43)) := (Below.refl _ _).alloc (Nat.le_refl _) _
  refine loop_law (base := w.heap.size) (lo := w.heap.size + 4) (hi := w1.heap.size) (Po := w.heap.size + 3) (Pm := w.heap.size + 1) (most := most) (by omega) hlo D n _ HCN.out H0.out rfl (by simp) ?tree (heap_alloc_new w1 _) ?out ?pm ?round ?done ?stop
  case tree =>
    have h1 := HT1.out.bound
    rw [z0] at h1
    exact h1.keep (fun k hk hl => ⟨hk, hb43.block k hl⟩)
  case out =>
    have e3 := (hb43.block _ (by omega)).trans ((HB1.out.block _ (by rw [z0]; omega)).trans z3)
    have e2 := (hb43.block _ (by omega)).trans ((HB1.out.block _ (by rw [z0]; omega)).trans z2)
    exact ⟨_, e3, R_empty e2 (by omega) (by intro h; rcases h with h | h | h | h <;> omega)⟩
  case pm => exact (hb43.block _ (by omega)).trans ((HB1.out.block _ (by rw [z0]; omega)).trans z1)
  case round =>
    clear HG HCN HR HC HT H0 HN HZ HT1 HB1 z0 z1 z2 z3 z4 hbw hb43
    intro fn s v0 k t W hI hne hs hl
    obtain ⟨T, x, rfl⟩ := hs.form hne
    generalize hrec : recP fn _ _ _ w1.heap.size = rec at hI ⊢
    have hbl : w.heap.size ≤ w.heap.size + 4 := by omega
    have hsd : (rec .ready none).state = .ready := by rw [← hrec]; rfl
    have hbr := run_beginRound (P := Tryz.prog) (r := rec .ready none) hI.lp hsd
    have hB := hI.begin hbl hlo
    have hsB : Seen (W.putObj (w1.heap.size + 2) (.loop { rec .ready none with state := .busy })) (.iface T x) k t := seen_put hs hI.lp _
    generalize hWb : W.putObj (w1.heap.size + 2) (.loop { rec .ready none with state := .busy }) = Wb at hbr hB hsB
    have HI := Aside0.mk hI
    have HB := Aside0.mk hB
    have HS := Aside0.mk hsB
    have HLO := Aside0.mk hlo
    have HL := Aside0.mk hl
    obtain ⟨vo, hout⟩ := hB.out
    have HO := Aside0.mk hout
    obtain ⟨A3, c3, hv⟩ := Kd.R_slice hout.row
    subst hv
    have e1 : Wb.cell? ⟨w.heap.size + 1 + 1 + 1, 0, none⟩ = some (.slice A3 s.length c3) := cell_of_one hout.out
    have e2 : Wb.cell? ⟨w.heap.size + 1, 0, none⟩ = some (.int .i64 most) := cell_of_one hB.pm
    have HBR := Aside0.mk hbr
    have HREC := Aside0.mk hrec
    have HBL := Aside0.mk hbl
    have HBS : Aside0 (w.heap.size ≤ Wb.heap.size) := ⟨by have := hB.sz; omega⟩
    have HNK : Aside0 (∀ k, Wb.heap.size ≤ k → ¬ KeptP w.heap.size (w.heap.size + 4) w1.heap.size k) := ⟨fun k hk h => by have := hB.sz; rcases h with h | h | h | h <;> omega⟩
    have HPK : Aside0 (¬ KeptP w.heap.size (w.heap.size + 4) w1.heap.size (w.heap.size + 3)) := ⟨fun h => by rcases h with h | h | h | h <;> omega⟩
    clear hs hsB hI hB hne hl hlo hbl hsd hout hbr hWb hrec
    by_cases hlt : (s.length : Int) < most
    · have hlt2 : ¬ most ≤ (s.length : Int) := by omega
      gi_wp2
      refine ⟨_, HBR.out, ?_⟩
      gi_wp2
      refine region_in (fun i o ho => ?_) (fun a w h => h) (by kernel_rfl) ?_
      · intro c
        rcases i with _ | _ | _ | _ | _ | _ | i <;> simp at ho <;> subst ho <;> simp
      refine wpAny_take (i := 1) (v := .iface T x) rfl (by kernel_rfl) (by kernel_rfl) (by kernel_rfl) (fun _ _ _ h => h) (Or.inl ⟨by rfl, by intro w; go_simp⟩) ?_
      refine wpAny_ready (rs := [0, 2]) (by kernel_rfl) (by simp) ?_
      refine AllReady.cons rfl (fun K hK => ?_) (AllReady.cons rfl (fun K hK => ?_) AllReady.nil)
      · go_simp
        refine hK _ _ ?_
        clear hK K
        refine wpAny_ready (rs := [2]) (by kernel_rfl) (by simp) ?_
        refine AllReady.cons rfl (fun K hK => ?_) AllReady.nil
        try go_simp
        go_at_call 24
        refine (visit_any (HS.out.keep (below_drew (Below.refl Wb.heap.size Wb))) 0).mono ?_
        rintro e w2 ⟨rfl, hb2⟩
        have HB2 : Aside0 (Below Wb.heap.size Wb w2) := ⟨below_undrew hb2⟩
        have HOX := Aside0.mk (HO.out.below HB2.out)
        have e4 : w2.cell? ⟨w.heap.size + 1 + 1 + 1, 0, none⟩ = some (.slice A3 s.length c3) := cell_of_one HOX.out.out
        have e5 : ∀ o, (w2.alloc o).cell? ⟨w.heap.size + 1 + 1 + 1, 0, none⟩ = some (.slice A3 s.length c3) := fun o => cell_of_one (HOX.out.out.below ((Below.refl _ _).alloc (Nat.le_refl _) o))
        clear hb2
        try go_simp
        refine hK _ _ ?_
        clear hK K
        refine wpAny_ready (rs := [3]) (by kernel_rfl) (by simp) ?_
        refine AllReady.cons rfl (fun K hK => ?_) AllReady.nil
        go_simp
        refine hK _ _ ?_
        clear hK K
        refine wpAny_ready (rs := [4]) (by kernel_rfl) (by simp) ?_
        refine AllReady.cons rfl (fun K hK => ?_) AllReady.nil
        refine Kd.R_append_step k29 (w0 := w2) w.heap.size (by rfl) (.tmp 16) (.tmp 19) 26 29 (.agg #[(.string ⟨#[]⟩), (.string ⟨#[]⟩), (.int .i64 0)]) 40 (by rfl) Tryz.underlying26 info29 rfl (by decide) (by omega) (.slice A3 s.length c3) s (⟨k, t, 0⟩ : S29) [.string k, .string t, .int .i64 0] (fun k => ¬ (KeptP w.heap.size (w.heap.size + 4) w1.heap.size) k) (fun _ => False) (by first | rfl | (go_simp; done)) (by first | rfl | (go_simp; done) | (go_simp; rfl)) ?aP (fun _ hk => hk.elim) ?aF ?aO ?aB ?aS ?aL ?_
        case aP => exact k29_mkM _ _ _ _
        case aF => exact fun k_ hk => HNK.out k_ (Nat.le_trans HB2.out.size hk)
        case aO => exact HOX.out.row
        case aB => exact Below.refl _ _
        case aS => exact Nat.le_trans HBS.out HB2.out.size
        case aL => have := HL.out; omega
        intro v8 w8 hR hB8 hG hA
        obtain ⟨A8, c8, hv8⟩ := Kd.R_slice hR
        rw [List.length_append, List.length_singleton] at hv8
        subst hv8
        have HD := Aside0.mk (HB.out.push HB2.out HO.out hR hG HPK.out)
        have HO8 := Aside0.mk (One.grown HOX.out hG HOX.out.out (by decide))
        have f8 := free_of_one HO8.out
        have q8 := cell_of_one HO8.out
        clear hR hB8 hG hA
        refine hK _ _ ?_
        clear hK K
        refine wpAny_ready (rs := [5]) (by kernel_rfl) (by simp) ?_
        refine AllReady.cons rfl (fun K hK => ?_) AllReady.nil
        go_simp
        refine hK _ _ ?_
        clear hK K
        refine wpAny_done (by kernel_rfl) ?_ _
        exact round_end (a := { tmps := #[], defers := [] }) HBL.out HLO.out HREC.out (by omega) HD.out
      · try go_simp
        go_at_call 24
        refine (visit_any (HS.out.keep (below_drew (Below.refl Wb.heap.size Wb))) 0).mono ?_
        rintro e w2 ⟨rfl, hb2⟩
        have HB2 : Aside0 (Below Wb.heap.size Wb w2) := ⟨below_undrew hb2⟩
        have HOX := Aside0.mk (HO.out.below HB2.out)
        have e4 : w2.cell? ⟨w.heap.size + 1 + 1 + 1, 0, none⟩ = some (.slice A3 s.length c3) := cell_of_one HOX.out.out
        have e5 : ∀ o, (w2.alloc o).cell? ⟨w.heap.size + 1 + 1 + 1, 0, none⟩ = some (.slice A3 s.length c3) := fun o => cell_of_one (HOX.out.out.below ((Below.refl _ _).alloc (Nat.le_refl _) o))
        clear hb2
        try go_simp
        refine hK _ _ ?_
        clear hK K
        refine wpAny_ready (rs := [0, 3]) (by kernel_rfl) (by simp) ?_
        refine AllReady.cons rfl (fun K hK => ?_) (AllReady.cons rfl (fun K hK => ?_) AllReady.nil)
        · go_simp
          refine hK _ _ ?_
          clear hK K
          refine wpAny_ready (rs := [3]) (by kernel_rfl) (by simp) ?_
          refine AllReady.cons rfl (fun K hK => ?_) AllReady.nil
          go_simp
          refine hK _ _ ?_
          clear hK K
          refine wpAny_ready (rs := [4]) (by kernel_rfl) (by simp) ?_
          refine AllReady.cons rfl (fun K hK => ?_) AllReady.nil
          refine Kd.R_append_step k29 (w0 := w2) w.heap.size (by rfl) (.tmp 16) (.tmp 19) 26 29 (.agg #[(.string ⟨#[]⟩), (.string ⟨#[]⟩), (.int .i64 0)]) 40 (by rfl) Tryz.underlying26 info29 rfl (by decide) (by omega) (.slice A3 s.length c3) s (⟨k, t, 0⟩ : S29) [.string k, .string t, .int .i64 0] (fun k => ¬ (KeptP w.heap.size (w.heap.size + 4) w1.heap.size) k) (fun _ => False) (by first | rfl | (go_simp; done)) (by first | rfl | (go_simp; done) | (go_simp; rfl)) ?aP (fun _ hk => hk.elim) ?aF ?aO ?aB ?aS ?aL ?_
          case aP => exact k29_mkM _ _ _ _
          case aF => exact fun k_ hk => HNK.out k_ (Nat.le_trans HB2.out.size hk)
          case aO => exact HOX.out.row
          case aB => exact Below.refl _ _
          case aS => exact Nat.le_trans HBS.out HB2.out.size
          case aL => have := HL.out; omega
          intro v8 w8 hR hB8 hG hA
          obtain ⟨A8, c8, hv8⟩ := Kd.R_slice hR
          rw [List.length_append, List.length_singleton] at hv8
          subst hv8
          have HD := Aside0.mk (HB.out.push HB2.out HO.out hR hG HPK.out)
          have HO8 := Aside0.mk (One.grown HOX.out hG HOX.out.out (by decide))
          have f8 := free_of_one HO8.out
          have q8 := cell_of_one HO8.out
          clear hR hB8 hG hA
          refine hK _ _ ?_
          clear hK K
          refine wpAny_ready (rs := [5]) (by kernel_rfl) (by simp) ?_
          refine AllReady.cons rfl (fun K hK => ?_) AllReady.nil
          go_simp
          refine hK _ _ ?_
          clear hK K
          refine wpAny_done (by kernel_rfl) ?_ _
          exact round_end (a := { tmps := #[], defers := [] }) HBL.out HLO.out HREC.out (by omega) HD.out
        · go_simp
          refine hK _ _ ?_
          clear hK K
          refine wpAny_ready (rs := [0]) (by kernel_rfl) (by simp) ?_
          refine AllReady.cons rfl (fun K hK => ?_) AllReady.nil
          go_simp
          refine hK _ _ ?_
          clear hK K
          refine wpAny_ready (rs := [4]) (by kernel_rfl) (by simp) ?_
          refine AllReady.cons rfl (fun K hK => ?_) AllReady.nil
          refine Kd.R_append_step k29 (w0 := w2) w.heap.size (by rfl) (.tmp 16) (.tmp 19) 26 29 (.agg #[(.string ⟨#[]⟩), (.string ⟨#[]⟩), (.int .i64 0)]) 40 (by rfl) Tryz.underlying26 info29 rfl (by decide) (by omega) (.slice A3 s.length c3) s (⟨k, t, 0⟩ : S29) [.string k, .string t, .int .i64 0] (fun k => ¬ (KeptP w.heap.size (w.heap.size + 4) w1.heap.size) k) (fun _ => False) (by first | rfl | (go_simp; done)) (by first | rfl | (go_simp; done) | (go_simp; rfl)) ?aP (fun _ hk => hk.elim) ?aF ?aO ?aB ?aS ?aL ?_
          case aP => exact k29_mkM _ _ _ _
          case aF => exact fun k_ hk => HNK.out k_ (Nat.le_trans HB2.out.size hk)
          case aO => exact HOX.out.row
          case aB => exact Below.refl _ _
          case aS => exact Nat.le_trans HBS.out HB2.out.size
          case aL => have := HL.out; omega
          intro v8 w8 hR hB8 hG hA
          obtain ⟨A8, c8, hv8⟩ := Kd.R_slice hR
          rw [List.length_append, List.length_singleton] at hv8
          subst hv8
          have HD := Aside0.mk (HB.out.push HB2.out HO.out hR hG HPK.out)
          have HO8 := Aside0.mk (One.grown HOX.out hG HOX.out.out (by decide))
          have f8 := free_of_one HO8.out
          have q8 := cell_of_one HO8.out
          clear hR hB8 hG hA
          refine hK _ _ ?_
          clear hK K
          refine wpAny_ready (rs := [5]) (by kernel_rfl) (by simp) ?_
          refine AllReady.cons rfl (fun K hK => ?_) AllReady.nil
          go_simp
          refine hK _ _ ?_
          clear hK K
          refine wpAny_done (by kernel_rfl) ?_ _
          exact round_end (a := { tmps := #[], defers := [] }) HBL.out HLO.out HREC.out (by omega) HD.out
    · have hlt2 : most ≤ (s.length : Int) := by omega
      gi_wp2
      refine ⟨_, HBR.out, ?_⟩
      gi_wp2
      exact round_stop (a := { tmps := #[], defers := [] }) HBL.out HLO.out HREC.out (by omega) HB.out
  case done =>
    intro W' hF
    obtain ⟨⟨vo, ho⟩, hk, hf⟩ := hF
    have HO := Aside0.mk ho
    have HF := Aside0.mk hf
    have HBW := Aside0.mk hbw
    have HK := Aside0.mk hk
    obtain ⟨A3, c3, hv⟩ := Kd.R_slice ho.row
    obtain ⟨N, hN⟩ : ∃ N, N = ((prN D n).take most.toNat).length := ⟨_, rfl⟩
    rw [← hN] at hv
    subst hv
    have HLO := Aside0.mk hlo
    have e3 : W'.cell? ⟨w.heap.size + 1 + 1 + 1, 0, none⟩ = some (.slice A3 N c3) := cell_of_one ho.out
    clear hN ho hf hk hbw hb43 hlo z0 z1 z2 z3 z4 HZ HN
    gi_wp2
    refine ⟨by simp, .inl ⟨_, _, rfl, run_takeDeferred HK.out, ?_⟩⟩
    refine ⟨_, results_tmp rfl _ _ _, _, rfl, ?_, ?_⟩
    · have h2 : Kd.R k29 29 W' w.heap.size (fun k => some k = (Value.slice A3 N c3).ownBlock) (.slice A3 N c3) ((prN D n).take most.toNat) := ⟨fun k hk => hk.symm, HO.out.row.2⟩
      refine Kd.R_mono (Kd.R_step h2 (fun k hk hlt => World.putObj_heap_other ?_)) (fun _ _ => trivial)
      intro e
      subst e
      obtain ⟨cells, hc⟩ := Kd.R_typed HO.out.row _ hk.symm
      rw [HK.out] at hc
      cases hc
    · have h1 : Below w.heap.size w W' := HBW.out.trans ⟨HF.out.os, HF.out.tape, HF.out.output, HF.out.size, fun k hk => HF.out.block k hk (Nat.lt_of_lt_of_le hk HBW.out.size)⟩
      refine h1.grown (grownBy_putObj' W' _ _) h1.size (fun k e => ?_)
      cases e
      have := HLO.out
      omega
  case stop =>
    intro W' hF
    obtain ⟨⟨vo, ho⟩, hk, hf⟩ := hF
    have HO := Aside0.mk ho
    have HF := Aside0.mk hf
    have HBW := Aside0.mk hbw
    have HK := Aside0.mk hk
    obtain ⟨A3, c3, hv⟩ := Kd.R_slice ho.row
    obtain ⟨N, hN⟩ : ∃ N, N = ((prN D n).take most.toNat).length := ⟨_, rfl⟩
    rw [← hN] at hv
    subst hv
    have HLO := Aside0.mk hlo
    have e3 : W'.cell? ⟨w.heap.size + 1 + 1 + 1, 0, none⟩ = some (.slice A3 N c3) := cell_of_one ho.out
    clear hN ho hf hk hbw hb43 hlo z0 z1 z2 z3 z4 HZ HN
    gi_wp2
    refine ⟨by simp, .inl ⟨_, _, rfl, run_takeDeferred HK.out, ?_⟩⟩
    refine ⟨_, results_tmp rfl _ _ _, _, rfl, ?_, ?_⟩
    · have h2 : Kd.R k29 29 W' w.heap.size (fun k => some k = (Value.slice A3 N c3).ownBlock) (.slice A3 N c3) ((prN D n).take most.toNat) := ⟨fun k hk => hk.symm, HO.out.row.2⟩
      refine Kd.R_mono (Kd.R_step h2 (fun k hk hlt => World.putObj_heap_other ?_)) (fun _ _ => trivial)
      intro e
      subst e
      obtain ⟨cells, hc⟩ := Kd.R_typed HO.out.row _ hk.symm
      rw [HK.out] at hc
      cases hc
    · have h1 : Below w.heap.size w W' := HBW.out.trans ⟨HF.out.os, HF.out.tape, HF.out.output, HF.out.size, fun k hk => HF.out.block k hk (Nat.lt_of_lt_of_le hk HBW.out.size)⟩
      refine h1.grown (grownBy_putObj' W' _ _) h1.size (fun k e => ?_)
      cases e
      have := HLO.out
      omega
end Go.Proofs.YtdcaabjkklppjaaGreatFmt.A.Pr
/- impl.Preordered: its contract in the print's form. -/
namespace Go.Proofs.YtdcaabjkklppjaaGreatFmt.A.Pr
open Go.RowKit Go.Proofs.YtdcaabjkklppjaaGreatFmtW.PrintWords Go.Proofs.YtdcaabjkklppjaaGreatFmtW.PrintLast Go.Proofs.YtdcaabjkklppjaaGreatFmtW.PrintMore
set_option linter.unusedVariables false
set_option linter.unusedSimpArgs false

theorem nodesL_take (a1 : Int) (a2 : Bool) (l : List S29) : ∀ i, i ≤ l.length → nodesL a1 a2 l i = (l.take i).flatMap (nodeL a1 a2)
  | 0, _ => by simp [nodesL]
  | i + 1, h => by
    rw [nodesL, nodesL_take a1 a2 l i (by omega), List.take_add_one, List.getElem?_eq_getElem (by omega), List.flatMap_append]
    unfold rd_T29
    rw [Int.toNat_natCast, List.getD_eq_getElem?_getD, List.getElem?_eq_getElem (by omega)]
    simp
theorem nodesL_all (a1 : Int) (a2 : Bool) (l : List S29) : nodesL a1 a2 l l.length = l.flatMap (nodeL a1 a2) := by
  rw [nodesL_take a1 a2 l _ (Nat.le_refl _), List.take_length]
theorem nodeL_some (a1 : Int) {k t : ByteArray} {d : Int} (h : ¬ k.toList = ([] : List UInt8)) : nodeL a1 true ⟨k, t, d⟩ = [⟨k, t, 0⟩] := by
  unfold nodeL
  rw [if_neg h]
  simp
theorem nodeL_end (a1 : Int) (d : Int) : nodeL a1 true ⟨⟨#[]⟩, ⟨#[]⟩, d⟩ = [] := by
  unfold nodeL
  have h : (⟨#[]⟩ : ByteArray).toList = ([] : List UInt8) := by decide +kernel
  exact if_pos h
theorem catTo_flat {α β : Type} (f : α → List β) (g : Nat → List α) : ∀ m, (catTo g m).flatMap f = catTo (fun i => (g i).flatMap f) m
  | 0 => rfl
  | m + 1 => by rw [catTo, List.flatMap_append, catTo_flat f g m, catTo]
theorem catTo_eq {α : Type} {f g : Nat → List α} : ∀ m, (∀ i, i < m → f i = g i) → catTo f m = catTo g m
  | 0, _ => rfl
  | m + 1, h => by rw [catTo, catTo, catTo_eq m (fun i hi => h i (by omega)), h m (by omega)]
theorem pr_insp {S : Nat → ByteArray} : ∀ (D : Nat) (n : S24) (d : Int), Good S D n → (inspL ⟨#[110, 111, 110, 101]⟩ D d n).flatMap (nodeL 0 true) = prN D n
  | 0, n, d, h => h.elim
  | D + 1, n, d, h => by
    have hk := h.kindB_ne
    have hk1 : ((kindB n).toList == (⟨#[110, 111, 110, 101]⟩ : ByteArray).toList) = false := hk.1
    rw [inspL, prN, List.flatMap_cons, nodeL_some _ hk.2, List.singleton_append, hk1]
    congr 1
    rw [if_neg (by simp), List.flatMap_append, List.flatMap_append, catTo_flat]
    have hkid : catTo (fun i => (inspL ⟨#[110, 111, 110, 101]⟩ D (d + 1) (rd_T24 n.f2 (i : Int))).flatMap (nodeL 0 true)) (nk n) = catTo (fun i => prN D (rd_T24 n.f2 (i : Int))) (nk n) := by
      refine catTo_eq _ (fun i hi => pr_insp (S := S) D _ (d + 1) ?_)
      unfold Good at h
      unfold nk at hi
      split at hi
      · omega
      · next hno =>
        rcases h.2 with h2 | h2
        · exact absurd h2 hno
        · exact h2 i hi
    rw [hkid]
    have hs : (if n.f0 = bSel then leafL ⟨#[110, 111, 110, 101]⟩ (d + 1) n.f1 else []).flatMap (nodeL 0 true) = (if n.f0 = bSel then [(⟨bName, n.f1, 0⟩ : S29)] else []) := by
      split
      · unfold leafL
        have hb : (bName.toList == (⟨#[110, 111, 110, 101]⟩ : ByteArray).toList) = false := by decide +kernel
        rw [List.flatMap_cons, nodeL_some _ (by decide +kernel), hb, if_neg (by simp), List.flatMap_cons, nodeL_end]
        rfl
      · rfl
    rw [hs, List.flatMap_cons, nodeL_end]
    simp
end Go.Proofs.YtdcaabjkklppjaaGreatFmt.A.Pr
namespace Go.Proofs.YtdcaabjkklppjaaGreatFmt.A
open Go.RowKit Go.Proofs.YtdcaabjkklppjaaGreatFmtW.PrintWords Go.Proofs.YtdcaabjkklppjaaGreatFmtW.PrintLast Go.Proofs.YtdcaabjkklppjaaGreatFmtW.PrintMore
/-- The nodes among the visits of Inspect, with no kind to skip, each at depth 0. -/
def preL (n : S24) : List S29 := nodesL 0 true (inspL ⟨#[110, 111, 110, 101]⟩ 12 0 n) (inspL ⟨#[110, 111, 110, 101]⟩ 12 0 n).length
open Classical in
noncomputable def impl_Preordered.f (a0_0 : ByteArray) (a0_1 : ByteArray) (l0_2 : List S24) (a1 : Int) : Option (List S29) := if Good tokS 12 ⟨a0_0, a0_1, l0_2⟩ ∧ cnt 12 ⟨a0_0, a0_1, l0_2⟩ ≤ 90000 ∧ 0 ≤ a1 then some ((preL ⟨a0_0, a0_1, l0_2⟩).take a1.toNat) else none
theorem impl_Preordered.calls (a0_0 : ByteArray) (a0_1 : ByteArray) (A0_2 : Option Addr) (c0_2 : Nat) (l0_2 : List S24) (a1 : Int) (r : List S29) (w : World) (hr0_2 : Kd.C k24 w A0_2 l0_2.length l0_2) (hc0_2 : l0_2.length ≤ c0_2) (hT : TokTab tokS w) (h : impl_Preordered.f a0_0 a0_1 l0_2 a1 = some r) :
    Calls Tryz.prog 17 #[.agg #[.string a0_0, .string a0_1, .slice A0_2 l0_2.length c0_2], .int .i64 a1] w fun e w' => ∃ v0_, e = .returned v0_ ∧ Kd.R k29 29 w' w.heap.size (fun _ => True) v0_ r ∧ Below w.heap.size w w' := by
  unfold impl_Preordered.f at h
  split at h
  next hg =>
    obtain ⟨h1, h2, h3⟩ := hg
    obtain rfl := Option.some.inj h
    have hc := Pr.preordered_any tokS 12 (by omega) ⟨a0_0, a0_1, l0_2⟩ A0_2 c0_2 a1 h3 w h1 h2 hr0_2 hc0_2 hT
    have he : preL ⟨a0_0, a0_1, l0_2⟩ = Pr.prN 12 ⟨a0_0, a0_1, l0_2⟩ := by
      unfold preL
      rw [Pr.nodesL_all]
      exact Pr.pr_insp (S := tokS) 12 _ 0 h1
    rw [he]
    exact hc
  next => cases h
end Go.Proofs.YtdcaabjkklppjaaGreatFmt.A
