/- walker.Visit: nil. -/
import Derived.Test.YtdcaabjkklppjaaGreatFmtGWkh
import Derived.Deep.RegionHeld3
namespace Go.Proofs.YtdcaabjkklppjaaGreatFmt.A
open Go.RowKit Go.Proofs.YtdcaabjkklppjaaGreatFmtW.PrintWords Go.Proofs.YtdcaabjkklppjaaGreatFmtW.PrintLast Go.Proofs.YtdcaabjkklppjaaGreatFmtW.PrintMore
set_option linter.unusedVariables false
set_option linter.unusedSimpArgs false
attribute [local go_sem ↓] Go.wp_at_zero Go.wp_at_succ

set_option maxHeartbeats 2000000 in
set_option maxRecDepth 100000 in
theorem wk_nil (base : Nat) (K : Nat → Prop) (Po : Nat) (l : List S29) (d : Int) (skip : ByteArray) (vo : Value) (W : World) (hl : l.length < 1000000) (hbase : base ≤ W.heap.size) (hfr : ∀ k, W.heap.size ≤ k → ¬ K k)
    (ko : ¬ K Po) (ho : OutAt base K Po vo l W) :
    Calls Tryz.prog 98 #[wV Po skip d, .nilIface] W fun e W' => e = .returned (.nilIface) ∧ (∃ v8, OutAt base K Po v8 (l ++ [(⟨⟨#[]⟩, ⟨#[]⟩, (wrap64 (d - 1))⟩ : S29)]) W') ∧ Fr K W W' := by
  have HO := Aside0.mk ho
  have HL := Aside0.mk hl
  have HV := Aside0.mk (fun (d : Int) (w : World) (_ : Below W.heap.size W w) => visit_nil d w)
  have HBS := Aside0.mk hbase
  have HFR := Aside0.mk hfr
  have HKO := Aside0.mk ko
  have HBW := Aside0.mk ((Below.refl W.heap.size W).alloc (Nat.le_refl _) (.cells #[.pointer (some ⟨Po, 0, none⟩), .int .i64 d, .string skip] 51))
  have HGB := Aside0.mk (heap_alloc_new W (.cells #[.pointer (some ⟨Po, 0, none⟩), .int .i64 d, .string skip] 51))
  clear hl ho hbase hfr ko
  have HOB := Aside0.mk (HO.out.below HBW.out)
  have p0 := (blk_cell HGB.out 0).trans rfl
  have p2 := (blk_cell HGB.out 1).trans rfl
  have p1 := cell_of_one HOB.out.out
  go_enter Tryz.func98, Tryz.ntmps98
  go_wp2
  go_region_law (first
    | ((try go_simp); go_at_call 24; (refine (HV.out _ _ ?hb).mono ?_); (case hb => exact HBW.out.drew); rintro e w1 ⟨rfl, hb1_⟩; have hb1 : Below (W.alloc (.cells #[.pointer (some ⟨Po, 0, none⟩), .int .i64 d, .string skip] 51)).heap.size (W.alloc (.cells #[.pointer (some ⟨Po, 0, none⟩), .int .i64 d, .string skip] 51)) w1 := below_undrew hb1_; clear hb1_; have HB1 := Aside0.mk hb1; have HOX := Aside0.mk (HOB.out.below hb1); have HGX := Aside0.mk ((hb1.block W.heap.size (by simp)).trans HGB.out); have HBX := Aside0.mk (HBW.out.trans (hb1.mono HBW.out.size)); have u0 := (blk_cell HGX.out 0).trans rfl; have u1 := (blk_cell HGX.out 1).trans rfl; have u2 := cell_of_one HOX.out.out; have t0 := fun o => al_ u0 o; have t1 := fun o => al_ u1 o; have t2 := fun o => al_ u2 o; clear hb1)
    | (refine Kd.R_append_step k29 (w0 := w1) base (by rfl) (.tmp 13) (.tmp 19) 26 29 (.agg #[(.string ⟨#[]⟩), (.string ⟨#[]⟩), (.int .i64 0)]) 40 (by rfl) Tryz.underlying26 info29 rfl (by decide) (by omega) vo l (⟨⟨#[]⟩, ⟨#[]⟩, (IntKind.i64.wrap (d - 1))⟩ : S29) [.string ⟨#[]⟩, .string ⟨#[]⟩, .int .i64 (IntKind.i64.wrap (d - 1))] (fun k => ¬ K k) (fun _ => False) (by rfl) (by first | rfl | (go_simp; done) | (go_simp; rfl)) ?aP (fun _ hk => hk.elim) ?aF ?aO ?aB ?aS ?aL ?_; (case aP => exact k29_mkM _ _ _ _); (case aF => exact fun k_ hk => HFR.out k_ (Nat.le_trans HBX.out.size hk)); (case aO => exact HOX.out.row); (case aB => exact Below.refl _ _); (case aS => exact Nat.le_trans HBS.out HBX.out.size); (case aL => have := HL.out; omega); intro v8 w8 hR hB hG hA; obtain ⟨A8, c8, hv8⟩ := Kd.R_slice hR; rw [List.length_append, List.length_singleton] at hv8; subst hv8; have HR8 := Aside0.mk hR; have HG8 := Aside0.mk hG; have HO8 := Aside0.mk (One.grown HOX.out HG8.out HOX.out.out (by decide)); have HGB8 := Aside0.mk ((HG8.out.block W.heap.size (lt_of_block HGX.out) (Kd.R_ne HOX.out.row HGX.out (by decide))).trans HGX.out); have q0 := (blk_cell HGB8.out 0).trans rfl; have q1 := cell_of_one HO8.out; have f8 := free_of_one HO8.out; clear hR hB hG hA))
  all_goals
    rw [i64_w] at HR8
    go_wp2
    go_ret
    exact ⟨rfl, ⟨_, OutAt.push HOX.out HR8.out HG8.out⟩, (Fr.below HBX.out).trans ((Fr.grown HOX.out HG8.out).trans (Fr.set HKO.out _))⟩

end Go.Proofs.YtdcaabjkklppjaaGreatFmt.A
