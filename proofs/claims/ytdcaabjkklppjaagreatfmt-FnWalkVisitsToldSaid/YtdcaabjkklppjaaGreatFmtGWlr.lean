/- impl.Walked, in the print's form. -/
import Derived.Test.YtdcaabjkklppjaaGreatFmtGWkr
import Derived.Test.YtdcaabjkklppjaaGreatFmtGWks
import Derived.Test.YtdcaabjkklppjaaGreatFmtGWkn
namespace Go.Proofs.YtdcaabjkklppjaaGreatFmt.A
open Go.RowKit Go.Proofs.YtdcaabjkklppjaaGreatFmtW.PrintWords Go.Proofs.YtdcaabjkklppjaaGreatFmtW.PrintLast Go.Proofs.YtdcaabjkklppjaaGreatFmtW.PrintMore
set_option linter.unusedVariables false
set_option linter.unusedSimpArgs false
attribute [local go_sem ↓] Go.wp_at_zero Go.wp_at_succ

/-- What a visit by the walker does. -/
def stepK (skip : ByteArray) (d : Int) (l : List S29) : Option (ByteArray × ByteArray) → List S29 × Option Int
  | some x => if x.1.toList == skip.toList then (l ++ [⟨x.1, x.2, d⟩], none) else (l ++ [⟨x.1, x.2, d⟩], some (wrap64 (d + 1)))
  | none => (l ++ [⟨⟨#[]⟩, ⟨#[]⟩, wrap64 (d - 1)⟩], none)
theorem stepK_go {skip k t : ByteArray} (h : (k.toList == skip.toList) = false) (d : Int) (l : List S29) : stepK skip d l (some (k, t)) = (l ++ [⟨k, t, d⟩], some (wrap64 (d + 1))) := by
  unfold stepK
  simp only [h]
  rfl
theorem stepK_stop {skip k t : ByteArray} (h : (k.toList == skip.toList) = true) (d : Int) (l : List S29) : stepK skip d l (some (k, t)) = (l ++ [⟨k, t, d⟩], none) := by
  unfold stepK
  simp only [h]
  rfl
theorem stepK_nil (skip : ByteArray) (d : Int) (l : List S29) : stepK skip d l none = (l ++ [⟨⟨#[]⟩, ⟨#[]⟩, wrap64 (d - 1)⟩], none) := rfl
structure InvK (base lo hi Po : Nat) (l : List S29) (W : World) : Prop where
  out : ∃ vo, OutAt base (Kept base lo hi) Po vo l W
  hi : hi ≤ W.heap.size
theorem wk_any {base lo hi Po : Nat} (hbl : base ≤ lo) (hlh : lo ≤ hi) (ho : base ≤ Po ∧ Po < lo) (skip : ByteArray) (d : Int) (l : List S29) (x : Option (ByteArray × ByteArray)) (v : Value) (W : World) (hl : l.length < 1000000) (hI : InvK base lo hi Po l W) (hs : SeenO W v x) :
    Calls Tryz.prog 98 #[wV Po skip d, v] W fun e W' => e = .returned (match (stepK skip d l x).2 with | none => .nilIface | some d' => .iface 51 (wV Po skip d')) ∧ InvK base lo hi Po (stepK skip d l x).1 W' ∧ Fr (Kept base lo hi) W W' := by
  obtain ⟨⟨vo, h2⟩, h4⟩ := hI
  have nK : ¬ Kept base lo hi Po := by
    intro hK
    rcases hK with h | h <;> omega
  have hfr : ∀ k, W.heap.size ≤ k → ¬ Kept base lo hi k := by
    intro k hk hK
    rcases hK with h | h <;> omega
  cases x with
  | none =>
    have hv : v = .nilIface := hs
    subst hv
    refine (wk_nil base (Kept base lo hi) Po l d skip vo W hl (by omega) hfr nK h2).mono ?_
    rintro e W' ⟨rfl, a, b⟩
    exact ⟨rfl, ⟨a, Nat.le_trans h4 b.size⟩, b⟩
  | some x =>
    obtain ⟨hn, hseen⟩ := hs
    obtain ⟨T, y, rfl⟩ := hseen.form hn
    obtain ⟨k, t⟩ := x
    cases hk : (k.toList == skip.toList)
    · rw [stepK_go hk]
      refine (wk_go base (Kept base lo hi) Po l d skip k t T y vo W hl (by omega) hfr nK h2 hk hseen).mono ?_
      rintro e W' ⟨rfl, a, b⟩
      exact ⟨rfl, ⟨a, Nat.le_trans h4 b.size⟩, b⟩
    · rw [stepK_stop hk]
      refine (wk_stop base (Kept base lo hi) Po l d skip k t T y vo W hl (by omega) hfr nK h2 hk hseen).mono ?_
      rintro e W' ⟨rfl, a, b⟩
      exact ⟨rfl, ⟨a, Nat.le_trans h4 b.size⟩, b⟩
def VK {base lo hi Po : Nat} (hbl : base ≤ lo) (hlh : lo ≤ hi) (ho : base ≤ Po ∧ Po < lo) (skip : ByteArray) : Vis Int (List S29) where
  T := 51
  fn := 98
  xv := fun d => wV Po skip d
  rc := fun d => wV Po skip d
  step := stepK skip
  len := fun l => l.length
  inv := InvK base lo hi Po
  K := Kept base lo hi
  M := 100000
  hm := fun _ w => meth51 _ w
  hcf := call98
  hlen := by
    intro d l x
    cases x with
    | none => simp [stepK]
    | some x =>
      obtain ⟨k, t⟩ := x
      cases h : (k.toList == skip.toList)
      · rw [stepK_go h]; simp
      · rw [stepK_stop h]; simp
  call := by
    intro d l x v W hl hI hs
    refine (wk_any hbl hlh ho skip d l x v W (by omega) hI hs).mono ?_
    rintro e W' ⟨rfl, h⟩
    refine ⟨?_, h⟩
    cases (stepK skip d l x).2 with
    | none => rfl
    | some u => rfl
theorem trav_walk (V : Vis Int (List S29)) (skip : ByteArray) (hst : V.step = stepK skip) : ∀ (D : Nat) (n : S24) (l : List S29) (d : Int), 0 ≤ d → d + (D : Int) ≤ 900 → V.trav D d l n = l ++ inspL skip D d n
  | 0, n, l, d, _, _ => by simp [Vis.trav, inspL]
  | D + 1, n, l, d, h0, h1 => by
    rw [Vis.trav, hst, inspL]
    cases hk : ((kindB n).toList == skip.toList)
    · rw [stepK_go hk, if_neg (by simp), w64 (d := d + 1) (by omega) (by omega)]
      have hf : ∀ (l : List S29) (m : Nat), foldTo (fun s i => V.trav D (d + 1) s (rd_T24 n.f2 (i : Int))) l m = l ++ catTo (fun i => inspL skip D (d + 1) (rd_T24 n.f2 (i : Int))) m := by
        intro l m
        induction m with
        | zero => simp [foldTo, catTo]
        | succ m ih =>
          rw [foldTo, ih, catTo, trav_walk V skip hst D _ _ (d + 1) (by omega) (by omega), List.append_assoc]
      dsimp only
      rw [hf]
      have hsel : ∀ l, V.sel (d + 1) n l = l ++ (if n.f0 = bSel then leafL skip (d + 1) n.f1 else []) := by
        intro l
        unfold Vis.sel
        split
        · unfold Vis.leaf leafL
          rw [hst]
          cases hb : (bName.toList == skip.toList)
          · rw [stepK_go hb, if_neg (by simp)]
            dsimp only
            rw [stepK_nil]
            dsimp only
            rw [w64 (d := d + 1 + 1) (by omega) (by omega), w64 (d := d + 1 + 1 - 1) (by omega) (by omega)]
            simp
          · rw [stepK_stop hb, if_pos rfl]
        · simp
      rw [hsel, stepK_nil]
      dsimp only
      rw [w64 (by omega) (by omega)]
      simp
    · rw [stepK_stop hk, if_pos rfl]
theorem three (w : World) (o0 o1 o2 : Obj) : (((w.alloc o0).alloc o1).alloc o2).heap.size = w.heap.size + 3 ∧ (((w.alloc o0).alloc o1).alloc o2).heap[w.heap.size + 1]? = some o1 ∧ (((w.alloc o0).alloc o1).alloc o2).heap[w.heap.size + 2]? = some o2 ∧ Below w.heap.size w (((w.alloc o0).alloc o1).alloc o2) := by
  refine ⟨?_, ?_, ?_, ?_⟩
  · show (((w.heap.push o0).push o1).push o2).size = _
    simp
  · show (((w.heap.push o0).push o1).push o2)[w.heap.size + 1]? = _
    simp only [Array.getElem?_push, Array.size_push]
    repeat (first | rw [if_pos (by omega)] | rw [if_neg (by omega)])
    exact if_pos trivial
  · show (((w.heap.push o0).push o1).push o2)[w.heap.size + 2]? = _
    simp only [Array.getElem?_push, Array.size_push]
    repeat (first | rw [if_pos (by omega)] | rw [if_neg (by omega)])
    exact if_pos trivial
  · exact (((Below.refl w.heap.size w).alloc (Nat.le_refl _) o0).alloc (by simp) o1).alloc (by simp; omega) o2
set_option maxHeartbeats 2000000 in
set_option maxRecDepth 100000 in
theorem walked_any (S : Nat → ByteArray) (D : Nat) (hD : D ≤ 800) (n : S24) (A : Option Addr) (c : Nat) (skip : ByteArray) (w : World) (hg : Good S D n) (hcnt : cnt D n ≤ 90000) (hr : Kd.C k24 w A n.f2.length n.f2) (hc : n.f2.length ≤ c) (hT : TokTab S w) :
    Calls Tryz.prog 15 #[.agg #[.string n.f0, .string n.f1, .slice A n.f2.length c], .string skip] w fun e w' => ∃ v0_, e = .returned v0_ ∧ Kd.R k29 29 w' w.heap.size (fun _ => True) v0_ (inspL skip D 0 n) ∧ Below w.heap.size w w' := by
  obtain ⟨z0, z1, z2, z5⟩ := three w (.cells #[.string n.f0, .string n.f1, .slice A n.f2.length c] 24) (.cells #[] 29) (.cells #[.slice (some ⟨w.heap.size + 1, 0, none⟩) 0 0] 26)
  have HN := Aside0.mk (node_any S D n A c _ hg (Kd.C_below hr z5) hc (hT.below z5))
  have HI : ∀ (w1 : World) (v1 : Value), Below (w.heap.size + 3) (((w.alloc (.cells #[.string n.f0, .string n.f1, .slice A n.f2.length c] 24)).alloc (.cells #[] 29)).alloc (.cells #[.slice (some ⟨w.heap.size + 1, 0, none⟩) 0 0] 26)) w1 → Tree (From (w.heap.size + 3)) w1 D n v1 →
      Calls Tryz.prog 26 #[.iface 51 (wV (w.heap.size + 1 + 1) skip 0), v1] w1 fun e w' => e = .returned (.tuple #[]) ∧ InvK w.heap.size (w.heap.size + 3) w1.heap.size (w.heap.size + 2) (inspL skip D 0 n) w' ∧ Fr (Kept w.heap.size (w.heap.size + 3) w1.heap.size) w1 w' := by
    intro w1 v1 hb ht
    have hz : w.heap.size + 3 ≤ w1.heap.size := by rw [← z0]; exact hb.size
    have hinv : InvK w.heap.size (w.heap.size + 3) w1.heap.size (w.heap.size + 2) [] w1 :=
      ⟨⟨_, (hb.block _ (by omega)).trans z2, R_empty ((hb.block (w.heap.size + 1) (by omega)).trans z1) (by omega) (fun h => by rcases h with h | h <;> omega)⟩, Nat.le_refl _⟩
    have hw := walk_all (VK (base := w.heap.size) (lo := w.heap.size + 3) (hi := w1.heap.size) (Po := w.heap.size + 2) (by omega) hz (by omega) skip) (by show 100000 ≤ 1000000; omega) D 0 [] n v1 w1 (ht.bound.mono (fun k hk => .inr hk)) hinv (by show 0 + cnt D n ≤ 100000; omega)
    rw [trav_walk _ skip rfl D n [] 0 (by omega) (by omega)] at hw
    exact hw
  have HI := Aside0.mk HI
  have HB := Aside0.mk z5
  have HZ := Aside0.mk z0
  clear z0 z1 z2 z5 hg hr hc hT hcnt
  go_enter Tryz.func15, Tryz.ntmps15
  go_wp2_with (first
    | (go_at_call 22; (with_reducible refine HN.out.mono ?_); rintro e w1 ⟨v1, rfl, ht1, hb1⟩; obtain ⟨T1, b1, rfl⟩ := ht1.form; rw [HZ.out] at ht1 hb1; have HB1 := Aside0.mk hb1; have HII := Aside0.mk (HI.out _ _ hb1 ht1); clear hb1 ht1)
    | (go_at_call 26; (with_reducible refine HII.out.mono ?_); rintro e w2 ⟨rfl, hi2, hf2⟩; have HI2 := Aside0.mk hi2; have HF2 := Aside0.mk hf2; obtain ⟨vo, ho2⟩ := hi2.out; have HO2 := Aside0.mk ho2; obtain ⟨A2, c2, rfl⟩ := Kd.R_slice ho2.row; have e2 := cell_of_one ho2.out; clear hi2 hf2 ho2))
  go_ret
  have hb3 : Below w.heap.size w w2 := HB.out.trans ((HB1.out.mono (by omega)).trans ⟨HF2.out.os, HF2.out.tape, HF2.out.output, HF2.out.size, fun k hk => HF2.out.block k (.inl hk) (by have h1 := HB1.out.size; have h2 := HZ.out; omega)⟩)
  exact ⟨_, rfl, Kd.R_mono HO2.out.row (fun _ _ => trivial), hb3⟩
open Classical in
/-- impl.Walked at trees of expressions. -/
noncomputable def impl_Walked.f (a0_0 : ByteArray) (a0_1 : ByteArray) (l0_2 : List S24) (a1 : ByteArray) : Option (List S29) := if Good tokS 12 ⟨a0_0, a0_1, l0_2⟩ ∧ cnt 12 ⟨a0_0, a0_1, l0_2⟩ ≤ 90000 then some (inspL a1 12 0 ⟨a0_0, a0_1, l0_2⟩) else none
theorem impl_Walked.calls (a0_0 : ByteArray) (a0_1 : ByteArray) (A0_2 : Option Addr) (c0_2 : Nat) (l0_2 : List S24) (a1 : ByteArray) (r : List S29) (w : World) (hr0_2 : Kd.C k24 w A0_2 l0_2.length l0_2) (hc0_2 : l0_2.length ≤ c0_2) (hT : TokTab tokS w) (h : impl_Walked.f a0_0 a0_1 l0_2 a1 = some r) :
    Calls Tryz.prog 15 #[.agg #[.string a0_0, .string a0_1, .slice A0_2 l0_2.length c0_2], .string a1] w fun e w' => ∃ v0_, e = .returned v0_ ∧ Kd.R k29 29 w' w.heap.size (fun _ => True) v0_ r ∧ Below w.heap.size w w' := by
  unfold impl_Walked.f at h
  split at h
  next hg =>
    obtain rfl := Option.some.inj h
    exact walked_any tokS 12 (by omega) ⟨a0_0, a0_1, l0_2⟩ A0_2 c0_2 a1 w hg.1 hg.2 hr0_2 hc0_2 hT
  next => cases h
end Go.Proofs.YtdcaabjkklppjaaGreatFmt.A
