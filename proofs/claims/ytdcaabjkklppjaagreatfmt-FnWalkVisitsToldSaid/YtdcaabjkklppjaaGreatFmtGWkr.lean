/- walker.Visit: go. -/
import Derived.Test.YtdcaabjkklppjaaGreatFmtGWkh
import Derived.Deep.RegionHeld3
namespace Go.Proofs.YtdcaabjkklppjaaGreatFmt.A
open Go.RowKit Go.Proofs.YtdcaabjkklppjaaGreatFmtW.PrintWords Go.Proofs.YtdcaabjkklppjaaGreatFmtW.PrintLast Go.Proofs.YtdcaabjkklppjaaGreatFmtW.PrintMore
set_option linter.unusedVariables false
set_option linter.unusedSimpArgs false
attribute [local go_sem ↓] Go.wp_at_zero Go.wp_at_succ

set_option maxHeartbeats 2000000 in
set_option maxRecDepth 100000 in
theorem wk_go (base : Nat) (K : Nat → Prop) (Po : Nat) (l : List S29) (d : Int) (skip k t : ByteArray) (T : Nat) (x : Value) (vo : Value) (W : World) (hl : l.length < 1000000) (hbase : base ≤ W.heap.size) (hfr : ∀ k, W.heap.size ≤ k → ¬ K k)
    (ko : ¬ K Po) (ho : OutAt base K Po vo l W) (hne : (k.toList == skip.toList) = false) (hseen : Seen W (.iface T x) k t) :
    Calls Tryz.prog 98 #[wV Po skip d, .iface T x] W fun e W' => e = .returned (.iface 51 (wV Po skip (wrap64 (d + 1)))) ∧ (∃ v8, OutAt base K Po v8 (l ++ [(⟨k, t, d⟩ : S29)]) W') ∧ Fr K W W' := by
  have HO := Aside0.mk ho
  have HL := Aside0.mk hl
  have HV := Aside0.mk (fun (d : Int) (w : World) (hb : Below W.heap.size W w) => visit_any (hseen.keep hb) d)
  have HBS := Aside0.mk hbase
  have HFR := Aside0.mk hfr
  have HKO := Aside0.mk ko
  have HBW := Aside0.mk ((Below.refl W.heap.size W).alloc (Nat.le_refl _) (.cells #[.pointer (some ⟨Po, 0, none⟩), .int .i64 d, .string skip] 51))
  have HGB := Aside0.mk (heap_alloc_new W (.cells #[.pointer (some ⟨Po, 0, none⟩), .int .i64 d, .string skip] 51))
  clear hl ho hseen hbase hfr ko
  go_enter Tryz.func98, Tryz.ntmps98
  go_wp2_with (first | (go_at_call 24; (with_reducible refine (HV.out _ _ HBW.out).mono ?_); rintro e w1 ⟨rfl, hb1⟩; have HB1 := Aside0.mk (HBW.out.trans (hb1.mono HBW.out.size)); have HBX := Aside0.mk ((HBW.out.trans (hb1.mono HBW.out.size)).trans (((Below.refl w1.heap.size w1).alloc (Nat.le_refl _) (.cells #[.string k, .string t, .int .i64 d] 29)).mono (HBW.out.trans (hb1.mono HBW.out.size)).size)); have HGX := Aside0.mk (((Below.refl w1.heap.size w1).alloc (Nat.le_refl _) (.cells #[.string k, .string t, .int .i64 d] 29)).block _ (Nat.lt_of_lt_of_le (by simp) hb1.size) |>.trans ((hb1.block _ (by simp)).trans HGB.out)); have HGL := Aside0.mk (Nat.lt_of_lt_of_le (by simp : W.heap.size < (W.alloc (.cells #[.pointer (some ⟨Po, 0, none⟩), .int .i64 d, .string skip] 51)).heap.size) hb1.size); clear hb1))
  have HOX := Aside0.mk (HO.out.below HBX.out)
  have HFX := Aside0.mk (HO.out.below HB1.out).fresh
  have HVX := Aside0.mk (heap_alloc_new w1 (.cells #[.string k, .string t, .int .i64 d] 29))
  have HNG := Aside0.mk (Kd.R_ne HOX.out.row HGX.out (by decide))
  generalize hXe : (w1.alloc (.cells #[.string k, .string t, .int .i64 d] 29)) = X at HBX HGX HOX HVX ⊢
  have HXE := Aside0.mk hXe
  clear hXe
  have p0 := (blk_cell HGX.out 0).trans rfl
  have p1 := cell_of_one HOX.out.out
  have v0_ := (blk_cell HVX.out 0).trans rfl
  have v1_ := (blk_cell HVX.out 1).trans rfl
  have v2_ := (blk_cell HVX.out 2).trans rfl
  go_wp2
  have a0 := fun o => al_ p0 o
  have a1 := fun o => al_ p1 o
  have a2 := fun o => al_ v0_ o
  have a3 := fun o => al_ v1_ o
  have a4 := fun o => al_ v2_ o
  go_region_law
    ((rw [drew_al]; refine Kd.R_append_step k29 (w0 := X.drew) base (by rfl) (.tmp 31) (.tmp 33) 26 29 (.agg #[(.string ⟨#[]⟩), (.string ⟨#[]⟩), (.int .i64 0)]) 40 (by rfl) Tryz.underlying26 info29 rfl (by decide) (by omega) vo l (⟨k, t, d⟩ : S29) [.string k, .string t, .int .i64 d] (fun k => ¬ K k) (fun _ => False) (by rfl) (by first | rfl | (go_simp; done) | (go_simp; rfl)) ?aP (fun _ hk => hk.elim) ?aF ?aO ?aB ?aS ?aL ?_; (case aP => exact k29_mkM _ _ _ _); (case aF => exact fun k_ hk => HFR.out k_ (Nat.le_trans HBX.out.size hk)); (case aO => exact Kd.R_drew HOX.out.row); (case aB => exact Below.refl _ _); (case aS => exact Nat.le_trans HBS.out HBX.out.size); (case aL => have := HL.out; omega); intro v8 w8 hR hB hG hA; obtain ⟨A8, c8, hv8⟩ := Kd.R_slice hR; rw [List.length_append, List.length_singleton] at hv8; subst hv8; have HR8 := Aside0.mk hR; have HG8 := Aside0.mk (grown_drew hG); have HO8 := Aside0.mk (One.grown HOX.out HG8.out HOX.out.out (by decide)); have HGB8 := Aside0.mk ((HG8.out.block W.heap.size (lt_of_block HGX.out) (fun e => HNG.out e)).trans HGX.out); have HV8 := Aside0.mk ((HG8.out.block w1.heap.size (lt_of_block HVX.out) HFX.out).trans HVX.out); have q0 := (blk_cell HGB8.out 0).trans rfl; have q1 := cell_of_one HO8.out; have q2 := (blk_cell HV8.out 0).trans rfl; have q3 := (blk_cell HV8.out 1).trans rfl; have q4 := (blk_cell HV8.out 2).trans rfl; have f8 := free_of_one HO8.out; clear hR hB hG hA))
  all_goals
    have hgp : W.heap.size ≠ Po := fun e => by have := lt_of_block HO.out.out; omega
    have hvp : w1.heap.size ≠ Po := fun e => by have := lt_of_block HO.out.out; have := HGL.out; omega
    have r0 := (cell_set hgp (.slice A8 (l.length + 1) c8)).trans ((blk_cell HGB8.out 0).trans rfl)
    have r1 := (cell_set hgp (.slice A8 (l.length + 1) c8)).trans ((blk_cell HGB8.out 1).trans rfl)
    have r2 := (cell_set hgp (.slice A8 (l.length + 1) c8)).trans ((blk_cell HGB8.out 2).trans rfl)
    have s0 := (cell_set hvp (.slice A8 (l.length + 1) c8)).trans ((blk_cell HV8.out 0).trans rfl)
    clear hgp hvp a0 a1 a2 a3 a4 p0 p1 v0_ v1_ v2_ q0 q1 q2 q3 q4
    go_wp2
    go_ret
    exact ⟨rfl, ⟨_, OutAt.push HOX.out HR8.out HG8.out⟩, (Fr.below HBX.out).trans ((Fr.grown HOX.out HG8.out).trans (Fr.set HKO.out _))⟩

end Go.Proofs.YtdcaabjkklppjaaGreatFmt.A
