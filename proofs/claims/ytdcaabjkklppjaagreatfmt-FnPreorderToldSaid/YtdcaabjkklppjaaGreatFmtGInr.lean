/- impl.Inspected by the contract of ast.Walk. -/
import Derived.Test.YtdcaabjkklppjaaGreatFmtGWalk3
/- A list of visits in a captured variable: what an append does to it; numbers and texts in others. -/
namespace Go.Proofs.YtdcaabjkklppjaaGreatFmt.A
open Go.RowKit Go.Proofs.YtdcaabjkklppjaaGreatFmtW.PrintWords Go.Proofs.YtdcaabjkklppjaaGreatFmtW.PrintLast Go.Proofs.YtdcaabjkklppjaaGreatFmtW.PrintMore
set_option linter.unusedVariables false
set_option linter.unusedSimpArgs false
attribute [local go_sem ↓] Go.wp_at_zero Go.wp_at_succ

/-- A variable of one cell. -/
abbrev One (W : World) (P : Nat) (v : Value) (t : Nat) : Prop := W.heap[P]? = some (.cells #[v] t (0, 0))
/-- The list of visits lies in the variable Po, in no block of the kind K. -/
structure OutAt (base : Nat) (K : Nat → Prop) (Po : Nat) (vo : Value) (l : List S29) (W : World) : Prop where
  out : One W Po vo 26
  row : Kd.R k29 29 W base (fun k => ¬ K k) vo l
theorem OutAt.below {base : Nat} {K : Nat → Prop} {Po : Nat} {vo : Value} {l : List S29} {W W' : World} (h : OutAt base K Po vo l W) (hb : Below W.heap.size W W') : OutAt base K Po vo l W' :=
  ⟨(hb.block _ (lt_of_block h.out)).trans h.out, Kd.R_below h.row hb⟩
theorem One.below {W W' : World} {P t : Nat} {v : Value} (h : One W P v t) (hb : Below W.heap.size W W') : One W' P v t := (hb.block _ (lt_of_block h)).trans h
theorem One.ne {W : World} {P Q t u : Nat} {v x : Value} (h : One W P v t) (k : One W Q x u) (htu : t ≠ u) : P ≠ Q := by
  intro e
  subst e
  have : some (Obj.cells #[v] t (0, 0)) = some (.cells #[x] u (0, 0)) := h.symm.trans k
  simp at this
  exact htu this.2
theorem One.set {W : World} {P Q t : Nat} {v x : Value} (h : One W P v t) (hne : P ≠ Q) : One (W.setCell ⟨Q, 0, none⟩ x) P v t := (Below.heap_setCell _ _ _ _ hne).trans h
/-- Behind an append other variables are as they were. -/
theorem One.grown {base : Nat} {K : Nat → Prop} {Po : Nat} {vo : Value} {l : List S29} {W w8 : World} (ho : OutAt base K Po vo l W) (hg : W.grownBy w8 vo.ownBlock) {P t : Nat} {v : Value} (h : One W P v t) (ht : (29 : Nat) ≠ t) : One w8 P v t :=
  (hg.block _ (lt_of_block h) (Kd.R_ne ho.row h ht)).trans h
/-- Behind an append and the store of what it gave the list is one longer. -/
theorem OutAt.push {base : Nat} {K : Nat → Prop} {Po : Nat} {vo v8 : Value} {l : List S29} {x : S29} {W w8 : World} (h : OutAt base K Po vo l W) (ho : Kd.R k29 29 w8 base (fun k => ¬ K k) v8 (l ++ [x])) (hg : W.grownBy w8 vo.ownBlock) :
    OutAt base K Po v8 (l ++ [x]) (w8.setCell ⟨Po, 0, none⟩ v8) := by
  have h1 : One w8 Po vo 26 := One.grown h hg h.out (by decide)
  refine ⟨one_setCell h1, Kd.R_set ho h1 (fun q hq => ?_) 0 v8⟩
  have hE : k29.E = ([] : List Nat) := rfl
  rw [hE] at hq
  simp at hq
  subst hq
  decide
theorem OutAt.set {base : Nat} {K : Nat → Prop} {Po : Nat} {vo : Value} {l : List S29} {W : World} (h : OutAt base K Po vo l W) {Q t : Nat} {v x : Value} (hq : One W Q v t) (ht : t ≠ 26) (ht2 : t ≠ 29) : OutAt base K Po vo l (W.setCell ⟨Q, 0, none⟩ x) := by
  refine ⟨One.set h.out (One.ne h.out hq (fun e => ht e.symm)), Kd.R_set h.row hq (fun q hq' => ?_) 0 x⟩
  have hE : k29.E = ([] : List Nat) := rfl
  rw [hE] at hq'
  simp at hq'
  subst hq'
  exact fun e => ht2 e.symm
theorem Fr.below {K : Nat → Prop} {w w' : World} (hb : Below w.heap.size w w') : Fr K w w' := ⟨hb.os, hb.tape, hb.output, hb.size, fun k _ hl => hb.block k hl⟩
theorem Fr.grown {base : Nat} {K : Nat → Prop} {Po : Nat} {vo : Value} {l : List S29} {W w8 : World} (ho : OutAt base K Po vo l W) (hg : W.grownBy w8 vo.ownBlock) : Fr K W w8 :=
  ⟨hg.os, hg.tape, hg.output, hg.size, fun k hk hl => hg.block k hl (fun e => ho.row.1 k e.symm hk)⟩
theorem Fr.set {K : Nat → Prop} {W : World} {P : Nat} (hk : ¬ K P) (v : Value) : Fr K W (W.setCell ⟨P, 0, none⟩ v) :=
  ⟨rfl, rfl, rfl, by simp [World.setCell], fun k h _ => Below.heap_setCell _ _ _ _ (fun e => hk (by rw [← show k = P from e]; exact h))⟩
/-- The temporary block ahead of an append is no part of the row. -/
theorem OutAt.fresh {base : Nat} {K : Nat → Prop} {Po : Nat} {vo : Value} {l : List S29} {W : World} (h : OutAt base K Po vo l W) : some W.heap.size ≠ vo.ownBlock := by
  intro e
  have := ((Kd.R_bound h.row).1 _ e.symm).2.2.1
  omega
end Go.Proofs.YtdcaabjkklppjaaGreatFmt.A
/- The function literal of impl.Inspected, and inspector.Visit over it. -/
namespace Go.Proofs.YtdcaabjkklppjaaGreatFmt.A
open Go.RowKit Go.Proofs.YtdcaabjkklppjaaGreatFmtW.PrintWords Go.Proofs.YtdcaabjkklppjaaGreatFmtW.PrintLast Go.Proofs.YtdcaabjkklppjaaGreatFmtW.PrintMore
set_option linter.unusedVariables false
set_option linter.unusedSimpArgs false
attribute [local go_sem ↓] Go.wp_at_zero Go.wp_at_succ

theorem cell_set {w : World} {P Q o : Nat} (h : P ≠ Q) (u : Value) : (w.setCell ⟨Q, 0, none⟩ u).cell? ⟨P, o, none⟩ = w.cell? ⟨P, o, none⟩ := World.cell?_of_block (Below.heap_setCell _ _ _ _ h)
set_option maxHeartbeats 2000000 in
set_option maxRecDepth 100000 in
theorem insp_go (base : Nat) (K : Nat → Prop) (Pd Po Ps : Nat) (l : List S29) (d : Int) (skip k t : ByteArray) (T : Nat) (x : Value) (vo : Value) (W : World) (hl : l.length < 1000000) (hbase : base ≤ W.heap.size) (hfr : ∀ k, W.heap.size ≤ k → ¬ K k)
    (kd : ¬ K Pd) (ko : ¬ K Po) (hd : One W Pd (.int .i64 d) 2) (ho : OutAt base K Po vo l W) (hs : One W Ps (.string skip) 9) (hne : (k.toList == skip.toList) = false) (hseen : Seen W (.iface T x) k t) :
    Calls Tryz.prog 23 #[.iface T x, .pointer (some ⟨Pd, 0, none⟩), .pointer (some ⟨Po, 0, none⟩), .pointer (some ⟨Ps, 0, none⟩)] W fun e W' => e = .returned (.bool true) ∧ One W' Pd (.int .i64 (wrap64 (d + 1))) 2 ∧ (∃ v8, OutAt base K Po v8 (l ++ [⟨k, t, d⟩]) W') ∧ One W' Ps (.string skip) 9 ∧ Fr K W W' := by
  have HD := Aside0.mk hd
  have HO := Aside0.mk ho
  have HS := Aside0.mk hs
  have HL := Aside0.mk hl
  have HV := Aside0.mk (fun d => visit_any hseen d)
  have HBS := Aside0.mk hbase
  have HFR := Aside0.mk hfr
  have HKD := Aside0.mk kd
  have HKO := Aside0.mk ko
  have c0 := cell_of_one hd
  clear hl ho hs hseen hbase hfr kd ko hd
  go_enter Tryz.func23, Tryz.ntmps23
  go_wp2_with (first
    | (go_at_call 24; (with_reducible refine (HV.out _).mono ?_); rintro e w1 ⟨rfl, hb1⟩; have HB1 := Aside0.mk hb1; have HBX := Aside0.mk (hb1.trans (((Below.refl w1.heap.size w1).alloc (Nat.le_refl _) (.cells #[.string k, .string t, .int .i64 d] 29)).mono hb1.size)); have HOX := Aside0.mk (HO.out.below HBX.out); have HDX := Aside0.mk (HD.out.below HBX.out); have HSX := Aside0.mk (HS.out.below HBX.out); have d1 := cell_of_one HOX.out.out; have HFX := Aside0.mk (HO.out.below hb1).fresh; clear hb1)
    | ((with_reducible refine gate_builtin (b := .append) (xs := #[.tmp 14, .tmp 16]) rfl ?_); at_builtin; refine Kd.R_append k29 (w0 := (w1.alloc (.cells #[.string k, .string t, .int .i64 d] 29))) base rfl (.tmp 14) (.tmp 16) 26 29 (.agg #[(.string ⟨#[]⟩), (.string ⟨#[]⟩), (.int .i64 0)]) 40 rfl Tryz.underlying26 info29 rfl (by decide) (by omega) vo l (⟨k, t, d⟩ : S29) [.string k, .string t, .int .i64 d] (fun k => ¬ K k) (fun _ => False) rfl (by first | (go_simp; done) | (go_simp; rfl)) ?aP (fun _ hk => hk.elim) ?aF ?aO ?aB ?aS ?aL ?_; (case aP => exact k29_mkM _ _ _ _); (case aF => exact fun k_ hk => HFR.out k_ (Nat.le_trans HBX.out.size hk)); (case aO => exact HOX.out.row); (case aB => exact Below.refl _ _); (case aS => exact Nat.le_trans HBS.out HBX.out.size); (case aL => have := HL.out; omega); intro v8 w8 hR hB hG hA; obtain ⟨A8, c8, hv8⟩ := Kd.R_slice hR; rw [List.length_append, List.length_singleton] at hv8; subst hv8; have HR8 := Aside0.mk hR; have HG8 := Aside0.mk hG; have HO8 := Aside0.mk (One.grown HOX.out hG HOX.out.out (by decide)); have HD8 := Aside0.mk (One.grown HOX.out hG HDX.out (by decide)); have HS8 := Aside0.mk (One.grown HOX.out hG HSX.out (by decide)); have HV8 := Aside0.mk ((hG.block w1.heap.size (by simp) HFX.out).trans (heap_alloc_new w1 _)); have f8 := free_of_one HO8.out; have e1 := cell_of_one HO8.out; have e0 := (blk_cell HV8.out 0).trans rfl; have np := One.ne HD8.out HO8.out (by decide); have ns := One.ne HS8.out HO8.out (by decide); have nv : w1.heap.size ≠ Po := fun e => (by have h1 := (HO.out.out.below HB1.out); have := lt_of_block h1; omega); have HDY := Aside0.mk (One.set (x := .slice A8 (l.length + 1) c8) HD8.out np); have HSY := Aside0.mk (One.set (x := .slice A8 (l.length + 1) c8) HS8.out ns); have e2 := (cell_set nv (.slice A8 (l.length + 1) c8)).trans e0; have e3 := cell_of_one HSY.out; have e4 := cell_of_one HDY.out; have f4 := free_of_one HDY.out; clear np ns nv; clear hR hB hG hA))
  go_ret
  have hY := OutAt.push HOX.out HR8.out HG8.out
  exact ⟨rfl, one_setCell HDY.out, ⟨_, hY.set HDY.out (by decide) (by decide)⟩, One.set HSY.out (One.ne HSY.out HDY.out (by decide)), (Fr.below HBX.out).trans ((Fr.grown HOX.out HG8.out).trans ((Fr.set HKO.out _).trans (Fr.set HKD.out _)))⟩

set_option maxHeartbeats 2000000 in
set_option maxRecDepth 100000 in
theorem insp_stop (base : Nat) (K : Nat → Prop) (Pd Po Ps : Nat) (l : List S29) (d : Int) (skip k t : ByteArray) (T : Nat) (x : Value) (vo : Value) (W : World) (hl : l.length < 1000000) (hbase : base ≤ W.heap.size) (hfr : ∀ k, W.heap.size ≤ k → ¬ K k)
    (kd : ¬ K Pd) (ko : ¬ K Po) (hd : One W Pd (.int .i64 d) 2) (ho : OutAt base K Po vo l W) (hs : One W Ps (.string skip) 9) (hne : (k.toList == skip.toList) = true) (hseen : Seen W (.iface T x) k t) :
    Calls Tryz.prog 23 #[.iface T x, .pointer (some ⟨Pd, 0, none⟩), .pointer (some ⟨Po, 0, none⟩), .pointer (some ⟨Ps, 0, none⟩)] W fun e W' => e = .returned (.bool false) ∧ One W' Pd (.int .i64 d) 2 ∧ (∃ v8, OutAt base K Po v8 (l ++ [⟨k, t, d⟩]) W') ∧ One W' Ps (.string skip) 9 ∧ Fr K W W' := by
  have HD := Aside0.mk hd
  have HO := Aside0.mk ho
  have HS := Aside0.mk hs
  have HL := Aside0.mk hl
  have HV := Aside0.mk (fun d => visit_any hseen d)
  have HBS := Aside0.mk hbase
  have HFR := Aside0.mk hfr
  have HKD := Aside0.mk kd
  have HKO := Aside0.mk ko
  have c0 := cell_of_one hd
  clear hl ho hs hseen hbase hfr kd ko hd
  go_enter Tryz.func23, Tryz.ntmps23
  go_wp2_with (first
    | (go_at_call 24; (with_reducible refine (HV.out _).mono ?_); rintro e w1 ⟨rfl, hb1⟩; have HB1 := Aside0.mk hb1; have HBX := Aside0.mk (hb1.trans (((Below.refl w1.heap.size w1).alloc (Nat.le_refl _) (.cells #[.string k, .string t, .int .i64 d] 29)).mono hb1.size)); have HOX := Aside0.mk (HO.out.below HBX.out); have HDX := Aside0.mk (HD.out.below HBX.out); have HSX := Aside0.mk (HS.out.below HBX.out); have d1 := cell_of_one HOX.out.out; have HFX := Aside0.mk (HO.out.below hb1).fresh; clear hb1)
    | ((with_reducible refine gate_builtin (b := .append) (xs := #[.tmp 14, .tmp 16]) rfl ?_); at_builtin; refine Kd.R_append k29 (w0 := (w1.alloc (.cells #[.string k, .string t, .int .i64 d] 29))) base rfl (.tmp 14) (.tmp 16) 26 29 (.agg #[(.string ⟨#[]⟩), (.string ⟨#[]⟩), (.int .i64 0)]) 40 rfl Tryz.underlying26 info29 rfl (by decide) (by omega) vo l (⟨k, t, d⟩ : S29) [.string k, .string t, .int .i64 d] (fun k => ¬ K k) (fun _ => False) rfl (by first | (go_simp; done) | (go_simp; rfl)) ?aP (fun _ hk => hk.elim) ?aF ?aO ?aB ?aS ?aL ?_; (case aP => exact k29_mkM _ _ _ _); (case aF => exact fun k_ hk => HFR.out k_ (Nat.le_trans HBX.out.size hk)); (case aO => exact HOX.out.row); (case aB => exact Below.refl _ _); (case aS => exact Nat.le_trans HBS.out HBX.out.size); (case aL => have := HL.out; omega); intro v8 w8 hR hB hG hA; obtain ⟨A8, c8, hv8⟩ := Kd.R_slice hR; rw [List.length_append, List.length_singleton] at hv8; subst hv8; have HR8 := Aside0.mk hR; have HG8 := Aside0.mk hG; have HO8 := Aside0.mk (One.grown HOX.out hG HOX.out.out (by decide)); have HD8 := Aside0.mk (One.grown HOX.out hG HDX.out (by decide)); have HS8 := Aside0.mk (One.grown HOX.out hG HSX.out (by decide)); have HV8 := Aside0.mk ((hG.block w1.heap.size (by simp) HFX.out).trans (heap_alloc_new w1 _)); have f8 := free_of_one HO8.out; have e1 := cell_of_one HO8.out; have e0 := (blk_cell HV8.out 0).trans rfl; have np := One.ne HD8.out HO8.out (by decide); have ns := One.ne HS8.out HO8.out (by decide); have nv : w1.heap.size ≠ Po := fun e => (by have h1 := (HO.out.out.below HB1.out); have := lt_of_block h1; omega); have HDY := Aside0.mk (One.set (x := .slice A8 (l.length + 1) c8) HD8.out np); have HSY := Aside0.mk (One.set (x := .slice A8 (l.length + 1) c8) HS8.out ns); have e2 := (cell_set nv (.slice A8 (l.length + 1) c8)).trans e0; have e3 := cell_of_one HSY.out; have e4 := cell_of_one HDY.out; have f4 := free_of_one HDY.out; clear np ns nv; clear hR hB hG hA))
  go_ret
  have hY := OutAt.push HOX.out HR8.out HG8.out
  exact ⟨rfl, HDY.out, ⟨_, hY⟩, HSY.out, (Fr.below HBX.out).trans ((Fr.grown HOX.out HG8.out).trans (Fr.set HKO.out _))⟩

set_option maxHeartbeats 2000000 in
set_option maxRecDepth 100000 in
theorem insp_nil (base : Nat) (K : Nat → Prop) (Pd Po Ps : Nat) (l : List S29) (d : Int) (skip : ByteArray) (vo : Value) (W : World) (hl : l.length < 1000000) (hbase : base ≤ W.heap.size) (hfr : ∀ k, W.heap.size ≤ k → ¬ K k)
    (kd : ¬ K Pd) (ko : ¬ K Po) (hd : One W Pd (.int .i64 d) 2) (ho : OutAt base K Po vo l W) (hs : One W Ps (.string skip) 9) :
    Calls Tryz.prog 23 #[.nilIface, .pointer (some ⟨Pd, 0, none⟩), .pointer (some ⟨Po, 0, none⟩), .pointer (some ⟨Ps, 0, none⟩)] W fun e W' => e = .returned (.bool false) ∧ One W' Pd (.int .i64 (wrap64 (d - 1))) 2 ∧ (∃ v8, OutAt base K Po v8 (l ++ [⟨⟨#[]⟩, ⟨#[]⟩, (wrap64 (d - 1))⟩]) W') ∧ One W' Ps (.string skip) 9 ∧ Fr K W W' := by
  have c0 := cell_of_one hd
  have f0 := free_of_one hd
  have nsd := One.ne hs hd (by decide)
  have HFS := Aside0.mk (Fr.set (W := W) kd (.int .i64 (wrap64 (d - 1))))
  have hd' : One (W.setCell ⟨Pd, 0, none⟩ (.int .i64 (wrap64 (d - 1)))) Pd (.int .i64 (wrap64 (d - 1))) 2 := one_setCell (u := .int .i64 (wrap64 (d - 1))) hd
  have ho' := ho.set (x := .int .i64 (wrap64 (d - 1))) hd (by decide) (by decide)
  have hs' := One.set (x := .int .i64 (wrap64 (d - 1))) hs nsd
  have hz : (W.setCell ⟨Pd, 0, none⟩ (.int .i64 (wrap64 (d - 1)))).heap.size = W.heap.size := by simp [World.setCell]
  have c1 := cell_of_one hd'
  have HD := Aside0.mk hd'
  have HO := Aside0.mk ho'
  have HS := Aside0.mk hs'
  have HV := Aside0.mk (fun d' => visit_nil d' (W.setCell ⟨Pd, 0, none⟩ (.int .i64 (wrap64 (d - 1)))))
  have HBS := Aside0.mk (show base ≤ (W.setCell ⟨Pd, 0, none⟩ (.int .i64 (wrap64 (d - 1)))).heap.size by rw [hz]; exact hbase)
  have HFR := Aside0.mk (show ∀ k, (W.setCell ⟨Pd, 0, none⟩ (.int .i64 (wrap64 (d - 1)))).heap.size ≤ k → ¬ K k by rw [hz]; exact hfr)
  have HL := Aside0.mk hl
  have HKD := Aside0.mk kd
  have HKO := Aside0.mk ko
  clear hl ho hs hbase hfr kd ko hd nsd hd' ho' hs' hz
  go_enter Tryz.func23, Tryz.ntmps23
  go_wp2_with (first
    | (go_at_call 24; (with_reducible refine (HV.out _).mono ?_); rintro e w1 ⟨rfl, hb1⟩; have HB1 := Aside0.mk hb1; have HBX := Aside0.mk (hb1.trans (((Below.refl w1.heap.size w1).alloc (Nat.le_refl _) (.cells #[.string ⟨#[]⟩, .string ⟨#[]⟩, .int .i64 (wrap64 (d - 1))] 29)).mono hb1.size)); have HOX := Aside0.mk (HO.out.below HBX.out); have HDX := Aside0.mk (HD.out.below HBX.out); have HSX := Aside0.mk (HS.out.below HBX.out); have d1 := cell_of_one HOX.out.out; have HFX := Aside0.mk (HO.out.below hb1).fresh; clear hb1)
    | ((with_reducible refine gate_builtin (b := .append) (xs := #[.tmp 14, .tmp 16]) rfl ?_); at_builtin; refine Kd.R_append k29 (w0 := (w1.alloc (.cells #[.string ⟨#[]⟩, .string ⟨#[]⟩, .int .i64 (wrap64 (d - 1))] 29))) base rfl (.tmp 14) (.tmp 16) 26 29 (.agg #[(.string ⟨#[]⟩), (.string ⟨#[]⟩), (.int .i64 0)]) 40 rfl Tryz.underlying26 info29 rfl (by decide) (by omega) vo l (⟨⟨#[]⟩, ⟨#[]⟩, (wrap64 (d - 1))⟩ : S29) [.string ⟨#[]⟩, .string ⟨#[]⟩, .int .i64 (wrap64 (d - 1))] (fun k => ¬ K k) (fun _ => False) rfl (by first | (go_simp; done) | (go_simp; rfl)) ?aP (fun _ hk => hk.elim) ?aF ?aO ?aB ?aS ?aL ?_; (case aP => exact k29_mkM _ _ _ _); (case aF => exact fun k_ hk => HFR.out k_ (Nat.le_trans HBX.out.size hk)); (case aO => exact HOX.out.row); (case aB => exact Below.refl _ _); (case aS => exact Nat.le_trans HBS.out HBX.out.size); (case aL => have := HL.out; omega); intro v8 w8 hR hB hG hA; obtain ⟨A8, c8, hv8⟩ := Kd.R_slice hR; rw [List.length_append, List.length_singleton] at hv8; subst hv8; have HR8 := Aside0.mk hR; have HG8 := Aside0.mk hG; have HO8 := Aside0.mk (One.grown HOX.out hG HOX.out.out (by decide)); have HD8 := Aside0.mk (One.grown HOX.out hG HDX.out (by decide)); have HS8 := Aside0.mk (One.grown HOX.out hG HSX.out (by decide)); have HV8 := Aside0.mk ((hG.block w1.heap.size (by simp) HFX.out).trans (heap_alloc_new w1 _)); have f8 := free_of_one HO8.out; have e1 := cell_of_one HO8.out; have e0 := (blk_cell HV8.out 0).trans rfl; have np := One.ne HD8.out HO8.out (by decide); have ns := One.ne HS8.out HO8.out (by decide); have nv : w1.heap.size ≠ Po := fun e => (by have h1 := (HO.out.out.below HB1.out); have := lt_of_block h1; omega); have HDY := Aside0.mk (One.set (x := .slice A8 (l.length + 1) c8) HD8.out np); have HSY := Aside0.mk (One.set (x := .slice A8 (l.length + 1) c8) HS8.out ns); have e2 := (cell_set nv (.slice A8 (l.length + 1) c8)).trans e0; have e3 := cell_of_one HSY.out; have e4 := cell_of_one HDY.out; have f4 := free_of_one HDY.out; clear np ns nv; clear hR hB hG hA))
  go_ret
  have hY := OutAt.push HOX.out HR8.out HG8.out
  exact ⟨rfl, HDY.out, ⟨_, hY⟩, HSY.out, HFS.out.trans ((Fr.below HBX.out).trans ((Fr.grown HOX.out HG8.out).trans (Fr.set HKO.out _)))⟩

end Go.Proofs.YtdcaabjkklppjaaGreatFmt.A
/- impl.Inspected: the visits that it notes at a tree of an expression. -/
namespace Go.Proofs.YtdcaabjkklppjaaGreatFmt.A
open Go.RowKit Go.Proofs.YtdcaabjkklppjaaGreatFmtW.PrintWords Go.Proofs.YtdcaabjkklppjaaGreatFmtW.PrintLast Go.Proofs.YtdcaabjkklppjaaGreatFmtW.PrintMore
set_option linter.unusedVariables false
set_option linter.unusedSimpArgs false
attribute [local go_sem ↓] Go.wp_at_zero Go.wp_at_succ

/-- The function literal's value. -/
abbrev fI (Pd Po Ps : Nat) : Value := .func (.func 23) #[] #[.pointer (some ⟨Pd, 0, none⟩), .pointer (some ⟨Po, 0, none⟩), .pointer (some ⟨Ps, 0, none⟩)]
theorem meth62 (f : Value) (w : World) : (method 429 62 f "Visit").run Tryz.prog w = .ok (103, f) w := by kernel_rfl
theorem call103 (args : Array Value) (w : World) : (callFunc 103 args).run Tryz.prog w = .ok (.enter 103 args) w := by kernel_rfl
set_option maxHeartbeats 2000000 in
set_option maxRecDepth 100000 in
theorem inspector_any (Pd Po Ps : Nat) (v : Value) (b : Bool) (W : World) (R : World → Prop) (h : Calls Tryz.prog 23 #[v, .pointer (some ⟨Pd, 0, none⟩), .pointer (some ⟨Po, 0, none⟩), .pointer (some ⟨Ps, 0, none⟩)] W fun e W' => e = .returned (.bool b) ∧ R W') :
    Calls Tryz.prog 103 #[fI Pd Po Ps, v] W fun e W' => e = .returned (if b then .iface 62 (fI Pd Po Ps) else .nilIface) ∧ R W' := by
  have H := Aside0.mk h
  clear h
  go_enter Tryz.func103, Tryz.ntmps103
  cases b
  · go_wp2_with (first | (go_at_call 23; (with_reducible refine H.out.mono ?_); rintro e w1 ⟨rfl, hr⟩; have HR := Aside0.mk hr; clear hr))
    go_ret
    exact ⟨rfl, HR.out⟩
  · go_wp2_with (first | (go_at_call 23; (with_reducible refine H.out.mono ?_); rintro e w1 ⟨rfl, hr⟩; have HR := Aside0.mk hr; clear hr))
    go_ret
    exact ⟨rfl, HR.out⟩
set_option maxHeartbeats 2000000 in
set_option maxRecDepth 100000 in
theorem inspect_any (f v : Value) (W : World) (R : World → Prop) (h : Calls Tryz.prog 26 #[.iface 62 f, v] W fun e W' => e = .returned (.tuple #[]) ∧ R W') :
    Calls Tryz.prog 21 #[v, f] W fun e W' => e = .returned (.tuple #[]) ∧ R W' := by
  have H := Aside0.mk h
  clear h
  go_enter Tryz.func21, Tryz.ntmps21
  go_wp2_with (first | (go_at_call 26; (with_reducible refine H.out.mono ?_); rintro e w1 ⟨rfl, hr⟩; have HR := Aside0.mk hr; clear hr))
  first | (refine bodyPost_ret (results_none rfl _ _ _) rfl ?_) | go_end0
  exact ⟨rfl, HR.out⟩

/-- What a visit of it does. -/
def stepI (skip : ByteArray) (_ : Unit) (s : List S29 × Int) : Option (ByteArray × ByteArray) → (List S29 × Int) × Option Unit
  | some x => if x.1.toList == skip.toList then ((s.1 ++ [⟨x.1, x.2, s.2⟩], s.2), none) else ((s.1 ++ [⟨x.1, x.2, s.2⟩], wrap64 (s.2 + 1)), some ())
  | none => ((s.1 ++ [⟨⟨#[]⟩, ⟨#[]⟩, wrap64 (s.2 - 1)⟩], wrap64 (s.2 - 1)), none)
theorem stepI_go {skip k t : ByteArray} (h : (k.toList == skip.toList) = false) (u : Unit) (s : List S29 × Int) : stepI skip u s (some (k, t)) = ((s.1 ++ [⟨k, t, s.2⟩], wrap64 (s.2 + 1)), some ()) := by
  unfold stepI
  simp only [h]
  rfl
theorem stepI_stop {skip k t : ByteArray} (h : (k.toList == skip.toList) = true) (u : Unit) (s : List S29 × Int) : stepI skip u s (some (k, t)) = ((s.1 ++ [⟨k, t, s.2⟩], s.2), none) := by
  unfold stepI
  simp only [h]
  rfl
theorem stepI_nil (skip : ByteArray) (u : Unit) (s : List S29 × Int) : stepI skip u s none = ((s.1 ++ [⟨⟨#[]⟩, ⟨#[]⟩, wrap64 (s.2 - 1)⟩], wrap64 (s.2 - 1)), none) := rfl
/-- The blocks that it leaves as they are. -/
abbrev Kept (base lo hi : Nat) : Nat → Prop := fun k => k < base ∨ (lo ≤ k ∧ k < hi)
structure InvI (base lo hi Pd Po Ps : Nat) (skip : ByteArray) (s : List S29 × Int) (W : World) : Prop where
  dep : One W Pd (.int .i64 s.2) 2
  out : ∃ vo, OutAt base (Kept base lo hi) Po vo s.1 W
  sk : One W Ps (.string skip) 9
  hi : hi ≤ W.heap.size
theorem Seen.form {W : World} {v : Value} {k t : ByteArray} (h : Seen W v k t) (hn : v ≠ .nilIface) : ∃ T x, v = .iface T x := by
  cases h with
  | nil => exact absurd rfl hn
  | name b t h => exact ⟨_, _, rfl⟩
  | lit b t h => exact ⟨_, _, rfl⟩
  | paren b => exact ⟨_, _, rfl⟩
  | sel b => exact ⟨_, _, rfl⟩
  | idx b => exact ⟨_, _, rfl⟩
  | star b => exact ⟨_, _, rfl⟩
  | un b => exact ⟨_, _, rfl⟩
  | bin b => exact ⟨_, _, rfl⟩
  | call b => exact ⟨_, _, rfl⟩
theorem insp_any {base lo hi Pd Po Ps : Nat} (hbl : base ≤ lo) (hlh : lo ≤ hi) (hd : base ≤ Pd ∧ Pd < lo) (ho : base ≤ Po ∧ Po < lo) (skip : ByteArray) (s : List S29 × Int) (x : Option (ByteArray × ByteArray)) (v : Value) (W : World) (hl : s.1.length < 1000000) (hI : InvI base lo hi Pd Po Ps skip s W) (hs : SeenO W v x) :
    Calls Tryz.prog 23 #[v, .pointer (some ⟨Pd, 0, none⟩), .pointer (some ⟨Po, 0, none⟩), .pointer (some ⟨Ps, 0, none⟩)] W fun e W' => e = .returned (.bool (stepI skip () s x).2.isSome) ∧ InvI base lo hi Pd Po Ps skip (stepI skip () s x).1 W' ∧ Fr (Kept base lo hi) W W' := by
  obtain ⟨h1, ⟨vo, h2⟩, h3, h4⟩ := hI
  have nK : ∀ {P : Nat}, base ≤ P ∧ P < lo → ¬ Kept base lo hi P := by
    intro P hP hK
    rcases hK with h | h <;> omega
  have hfr : ∀ k, W.heap.size ≤ k → ¬ Kept base lo hi k := by
    intro k hk hK
    rcases hK with h | h <;> omega
  cases x with
  | none =>
    have hv : v = .nilIface := hs
    subst hv
    refine (insp_nil base (Kept base lo hi) Pd Po Ps s.1 s.2 skip vo W hl (by omega) hfr (nK hd) (nK ho) h1 h2 h3).mono ?_
    rintro e W' ⟨rfl, a, b, c, d⟩
    exact ⟨rfl, ⟨a, b, c, Nat.le_trans h4 d.size⟩, d⟩
  | some x =>
    obtain ⟨hn, hseen⟩ := hs
    obtain ⟨T, y, rfl⟩ := hseen.form hn
    obtain ⟨k, t⟩ := x
    cases hk : (k.toList == skip.toList)
    · rw [stepI_go hk]
      refine (insp_go base (Kept base lo hi) Pd Po Ps s.1 s.2 skip k t T y vo W hl (by omega) hfr (nK hd) (nK ho) h1 h2 h3 hk hseen).mono ?_
      rintro e W' ⟨rfl, a, b, c, d⟩
      exact ⟨rfl, ⟨a, b, c, Nat.le_trans h4 d.size⟩, d⟩
    · rw [stepI_stop hk]
      refine (insp_stop base (Kept base lo hi) Pd Po Ps s.1 s.2 skip k t T y vo W hl (by omega) hfr (nK hd) (nK ho) h1 h2 h3 hk hseen).mono ?_
      rintro e W' ⟨rfl, a, b, c, d⟩
      exact ⟨rfl, ⟨a, b, c, Nat.le_trans h4 d.size⟩, d⟩
/-- Its visitor. -/
def VI {base lo hi Pd Po : Nat} (Ps : Nat) (hbl : base ≤ lo) (hlh : lo ≤ hi) (hd : base ≤ Pd ∧ Pd < lo) (ho : base ≤ Po ∧ Po < lo) (skip : ByteArray) : Vis Unit (List S29 × Int) where
  T := 62
  fn := 103
  xv := fun _ => fI Pd Po Ps
  rc := fun _ => fI Pd Po Ps
  step := stepI skip
  len := fun s => s.1.length
  inv := InvI base lo hi Pd Po Ps skip
  K := Kept base lo hi
  M := 100000
  hm := fun _ w => meth62 _ w
  hcf := call103
  hlen := by
    intro b s x
    cases x with
    | none => simp [stepI]
    | some x =>
      obtain ⟨k, t⟩ := x
      cases h : (k.toList == skip.toList)
      · rw [stepI_go h]; simp
      · rw [stepI_stop h]; simp
  call := by
    intro b s x v W hl hI hs
    refine (inspector_any Pd Po Ps v _ W _ (insp_any hbl hlh hd ho skip s x v W (by omega) hI hs)).mono ?_
    rintro e W' ⟨rfl, h⟩
    refine ⟨?_, h⟩
    cases (stepI skip () s x).2 with
    | none => rfl
    | some u => rfl

/-- The visits, in plain words. -/
def catTo {α : Type} (f : Nat → List α) : Nat → List α
  | 0 => []
  | m + 1 => catTo f m ++ f m
def leafL (skip : ByteArray) (d : Int) (t : ByteArray) : List S29 := ⟨bName, t, d⟩ :: (if bName.toList == skip.toList then [] else [⟨⟨#[]⟩, ⟨#[]⟩, d⟩])
def inspL (skip : ByteArray) : Nat → Int → S24 → List S29
  | 0, _, _ => []
  | D + 1, d, n => ⟨kindB n, textB n, d⟩ :: (if (kindB n).toList == skip.toList then [] else catTo (fun i => inspL skip D (d + 1) (rd_T24 n.f2 (i : Int))) (nk n) ++ (if n.f0 = bSel then leafL skip (d + 1) n.f1 else []) ++ [⟨⟨#[]⟩, ⟨#[]⟩, d⟩])
theorem w64 {d : Int} (h0 : -1000 ≤ d) (h1 : d ≤ 1000) : wrap64 d = d := by
  have h2 : d = ((d + 1000).toNat : Int) - 1000 := by omega
  unfold wrap64
  omega
theorem trav_insp (V : Vis Unit (List S29 × Int)) (skip : ByteArray) (hst : V.step = stepI skip) : ∀ (D : Nat) (n : S24) (l : List S29) (d : Int), 0 ≤ d → d + (D : Int) ≤ 900 → V.trav D () (l, d) n = (l ++ inspL skip D d n, d)
  | 0, n, l, d, _, _ => by simp [Vis.trav, inspL]
  | D + 1, n, l, d, h0, h1 => by
    rw [Vis.trav, hst, inspL]
    cases hk : ((kindB n).toList == skip.toList)
    · rw [stepI_go hk, if_neg (by simp)]
      rw [w64 (by omega) (by omega)]
      have hf : ∀ (l : List S29) (m : Nat), foldTo (fun s i => V.trav D () s (rd_T24 n.f2 (i : Int))) (l, d + 1) m = (l ++ catTo (fun i => inspL skip D (d + 1) (rd_T24 n.f2 (i : Int))) m, d + 1) := by
        intro l m
        induction m with
        | zero => simp [foldTo, catTo]
        | succ m ih =>
          rw [foldTo, ih, catTo]
          rw [trav_insp V skip hst D _ _ (d + 1) (by omega) (by omega), List.append_assoc]
      dsimp only
      rw [hf]
      have hsel : ∀ l, V.sel () n (l, d + 1) = (l ++ (if n.f0 = bSel then leafL skip (d + 1) n.f1 else []), d + 1) := by
        intro l
        unfold Vis.sel
        split
        · unfold Vis.leaf leafL
          rw [hst]
          cases hb : (bName.toList == skip.toList)
          · rw [stepI_go hb, if_neg (by simp)]
            dsimp only
            rw [stepI_nil]
            dsimp only
            rw [w64 (d := d + 1 + 1) (by omega) (by omega), w64 (d := d + 1 + 1 - 1) (by omega) (by omega)]
            simp
          · rw [stepI_stop hb, if_pos rfl]
        · simp
      rw [hsel, stepI_nil]
      dsimp only
      rw [w64 (by omega) (by omega)]
      simp
    · rw [stepI_stop hk, if_pos rfl]
end Go.Proofs.YtdcaabjkklppjaaGreatFmt.A
/- impl.Inspected: the whole function. -/
namespace Go.Proofs.YtdcaabjkklppjaaGreatFmt.A
open Go.RowKit Go.Proofs.YtdcaabjkklppjaaGreatFmtW.PrintWords Go.Proofs.YtdcaabjkklppjaaGreatFmtW.PrintLast Go.Proofs.YtdcaabjkklppjaaGreatFmtW.PrintMore
set_option linter.unusedVariables false
set_option linter.unusedSimpArgs false
attribute [local go_sem ↓] Go.wp_at_zero Go.wp_at_succ

theorem five (w : World) (o0 o1 o2 o3 o4 : Obj) : (((((w.alloc o0).alloc o1).alloc o2).alloc o3).alloc o4).heap.size = w.heap.size + 5 ∧ (((((w.alloc o0).alloc o1).alloc o2).alloc o3).alloc o4).heap[w.heap.size + 1]? = some o1 ∧
    (((((w.alloc o0).alloc o1).alloc o2).alloc o3).alloc o4).heap[w.heap.size + 2]? = some o2 ∧ (((((w.alloc o0).alloc o1).alloc o2).alloc o3).alloc o4).heap[w.heap.size + 3]? = some o3 ∧ (((((w.alloc o0).alloc o1).alloc o2).alloc o3).alloc o4).heap[w.heap.size + 4]? = some o4 ∧
    Below w.heap.size w (((((w.alloc o0).alloc o1).alloc o2).alloc o3).alloc o4) := by
  refine ⟨?_, ?_, ?_, ?_, ?_, ?_⟩
  · show (((((w.heap.push o0).push o1).push o2).push o3).push o4).size = _
    simp
  · show (((((w.heap.push o0).push o1).push o2).push o3).push o4)[w.heap.size + 1]? = _
    simp only [Array.getElem?_push, Array.size_push]
    repeat (first | rw [if_pos (by omega)] | rw [if_neg (by omega)])
    exact if_pos trivial
  · show (((((w.heap.push o0).push o1).push o2).push o3).push o4)[w.heap.size + 2]? = _
    simp only [Array.getElem?_push, Array.size_push]
    repeat (first | rw [if_pos (by omega)] | rw [if_neg (by omega)])
    exact if_pos trivial
  · show (((((w.heap.push o0).push o1).push o2).push o3).push o4)[w.heap.size + 3]? = _
    simp only [Array.getElem?_push, Array.size_push]
    repeat (first | rw [if_pos (by omega)] | rw [if_neg (by omega)])
    exact if_pos trivial
  · show (((((w.heap.push o0).push o1).push o2).push o3).push o4)[w.heap.size + 4]? = _
    simp only [Array.getElem?_push, Array.size_push]
    repeat (first | rw [if_pos (by omega)] | rw [if_neg (by omega)])
    exact if_pos trivial
  · exact (((((Below.refl w.heap.size w).alloc (Nat.le_refl _) o0).alloc (by simp) o1).alloc (by simp; omega) o2).alloc (by simp; omega) o3).alloc (by simp; omega) o4
/-- An empty list of visits. -/
theorem R_empty {W : World} {base g : Nat} {ok : Nat → Prop} (h : W.heap[g]? = some (.cells #[] 29 (0, 0))) (hb : base ≤ g) (hk : ok g) : Kd.R k29 29 W base ok (.slice (some ⟨g, 0, none⟩) 0 0) [] := by
  refine ⟨fun k e => ?_, [], ⟨rfl, .inr ⟨g, 0, #[], rfl, hb, h, Nat.le_refl _, by decide, rfl, rfl⟩⟩, ⟨rfl, fun j p hj => by simp at hj⟩⟩
  have : g = k := by simpa [Value.ownBlock] using e
  subst this
  exact hk
set_option maxHeartbeats 2000000 in
set_option maxRecDepth 100000 in
theorem inspected_any (S : Nat → ByteArray) (D : Nat) (hD : D ≤ 800) (n : S24) (A : Option Addr) (c : Nat) (skip : ByteArray) (w : World) (hg : Good S D n) (hcnt : cnt D n ≤ 90000) (hr : Kd.C k24 w A n.f2.length n.f2) (hc : n.f2.length ≤ c) (hT : TokTab S w) :
    Calls Tryz.prog 11 #[.agg #[.string n.f0, .string n.f1, .slice A n.f2.length c], .string skip] w fun e w' => ∃ v0_, e = .returned v0_ ∧ Kd.R k29 29 w' w.heap.size (fun _ => True) v0_ (inspL skip D 0 n) ∧ Below w.heap.size w w' := by
  obtain ⟨z0, z1, z2, z3, z4, z5⟩ := five w (.cells #[.string n.f0, .string n.f1, .slice A n.f2.length c] 24) (.cells #[.string skip] 9) (.cells #[] 29) (.cells #[.slice (some ⟨w.heap.size + 1 + 1, 0, none⟩) 0 0] 26) (.cells #[.int .i64 0] 2)
  have HN := Aside0.mk (node_any S D n A c _ hg (Kd.C_below hr z5) hc (hT.below z5))
  have HI : ∀ (w1 : World) (v1 : Value), Below (w.heap.size + 5) (((((w.alloc (.cells #[.string n.f0, .string n.f1, .slice A n.f2.length c] 24)).alloc (.cells #[.string skip] 9)).alloc (.cells #[] 29)).alloc (.cells #[.slice (some ⟨w.heap.size + 1 + 1, 0, none⟩) 0 0] 26)).alloc (.cells #[.int .i64 0] 2)) w1 → Tree (From (w.heap.size + 5)) w1 D n v1 →
      Calls Tryz.prog 21 #[v1, fI (w.heap.size + 1 + 1 + 1 + 1) (w.heap.size + 1 + 1 + 1) (w.heap.size + 1)] w1 fun e w' => e = .returned (.tuple #[]) ∧ (InvI w.heap.size (w.heap.size + 5) w1.heap.size (w.heap.size + 4) (w.heap.size + 3) (w.heap.size + 1) skip (inspL skip D 0 n, 0) w' ∧ Fr (Kept w.heap.size (w.heap.size + 5) w1.heap.size) w1 w') := by
    intro w1 v1 hb ht
    have hz : w.heap.size + 5 ≤ w1.heap.size := by rw [← z0]; exact hb.size
    have hinv : InvI w.heap.size (w.heap.size + 5) w1.heap.size (w.heap.size + 4) (w.heap.size + 3) (w.heap.size + 1) skip ([], 0) w1 :=
      ⟨(hb.block _ (by omega)).trans z4, ⟨_, (hb.block _ (by omega)).trans z3, R_empty ((hb.block (w.heap.size + 2) (by omega)).trans z2) (by omega) (fun h => by rcases h with h | h <;> omega)⟩, (hb.block _ (by omega)).trans z1, Nat.le_refl _⟩
    have hw := walk_all (VI (base := w.heap.size) (lo := w.heap.size + 5) (hi := w1.heap.size) (Pd := w.heap.size + 4) (Po := w.heap.size + 3) (w.heap.size + 1) (by omega) hz (by omega) (by omega) skip) (by show 100000 ≤ 1000000; omega) D () ([], 0) n v1 w1 (ht.bound.mono (fun k hk => .inr hk)) hinv (by show 0 + cnt D n ≤ 100000; omega)
    rw [trav_insp _ skip rfl D n [] 0 (by omega) (by omega)] at hw
    exact inspect_any _ v1 w1 (fun W' => InvI w.heap.size (w.heap.size + 5) w1.heap.size (w.heap.size + 4) (w.heap.size + 3) (w.heap.size + 1) skip (inspL skip D 0 n, 0) W' ∧ Fr (Kept w.heap.size (w.heap.size + 5) w1.heap.size) w1 W') hw
  have HI := Aside0.mk HI
  have HB := Aside0.mk z5
  have HZ := Aside0.mk z0
  clear z0 z1 z2 z3 z4 z5 hg hr hc hT hcnt
  go_enter Tryz.func11, Tryz.ntmps11
  go_wp2_with (first
    | (go_at_call 22; (with_reducible refine HN.out.mono ?_); rintro e w1 ⟨v1, rfl, ht1, hb1⟩; obtain ⟨T1, b1, rfl⟩ := ht1.form; rw [HZ.out] at ht1 hb1; have HB1 := Aside0.mk hb1; have HII := Aside0.mk (HI.out _ _ hb1 ht1); clear hb1 ht1)
    | (go_at_call 21; (with_reducible refine HII.out.mono ?_); rintro e w2 ⟨rfl, hi2, hf2⟩; have HI2 := Aside0.mk hi2; have HF2 := Aside0.mk hf2; obtain ⟨vo, ho2⟩ := hi2.out; have HO2 := Aside0.mk ho2; obtain ⟨A2, c2, rfl⟩ := Kd.R_slice ho2.row; have e2 := cell_of_one ho2.out; clear hi2 hf2 ho2))
  go_ret
  have hb3 : Below w.heap.size w w2 := HB.out.trans ((HB1.out.mono (by omega)).trans ⟨HF2.out.os, HF2.out.tape, HF2.out.output, HF2.out.size, fun k hk => HF2.out.block k (.inl hk) (by have h1 := HB1.out.size; have h2 := HZ.out; omega)⟩)
  exact ⟨_, rfl, Kd.R_mono HO2.out.row (fun _ _ => trivial), hb3⟩
end Go.Proofs.YtdcaabjkklppjaaGreatFmt.A
/- The tokens' texts, and the contract of impl.Inspected in the print's form. -/
namespace Go.Proofs.YtdcaabjkklppjaaGreatFmt.A
open Go.RowKit Go.Proofs.YtdcaabjkklppjaaGreatFmtW.PrintWords Go.Proofs.YtdcaabjkklppjaaGreatFmtW.PrintLast Go.Proofs.YtdcaabjkklppjaaGreatFmtW.PrintMore
set_option linter.unusedVariables false
set_option linter.unusedSimpArgs false
attribute [local go_sem ↓] Go.wp_at_zero Go.wp_at_succ

def tokL : List (List UInt8) := [[73, 76, 76, 69, 71, 65, 76], [69, 79, 70], [67, 79, 77, 77, 69, 78, 84], [], [73, 68, 69, 78, 84], [73, 78, 84], [70, 76, 79, 65, 84], [73, 77, 65, 71], [67, 72, 65, 82], [83, 84, 82, 73, 78, 71], [], [], [43], [45], [42], [47], [37], [38], [124], [94], [60, 60], [62, 62], [38, 94], [43, 61], [45, 61], [42, 61], [47, 61], [37, 61], [38, 61], [124, 61], [94, 61], [60, 60, 61], [62, 62, 61], [38, 94, 61], [38, 38], [124, 124], [60, 45], [43, 43], [45, 45], [61, 61], [60], [62], [61], [33], [33, 61], [60, 61], [62, 61], [58, 61], [46, 46, 46], [40], [91], [123], [44], [46], [41], [93], [125], [59], [58], [], [], [98, 114, 101, 97, 107], [99, 97, 115, 101], [99, 104, 97, 110], [99, 111, 110, 115, 116], [99, 111, 110, 116, 105, 110, 117, 101], [100, 101, 102, 97, 117, 108, 116], [100, 101, 102, 101, 114], [101, 108, 115, 101], [102, 97, 108, 108, 116, 104, 114, 111, 117, 103, 104], [102, 111, 114], [102, 117, 110, 99], [103, 111], [103, 111, 116, 111], [105, 102], [105, 109, 112, 111, 114, 116], [105, 110, 116, 101, 114, 102, 97, 99, 101], [109, 97, 112], [112, 97, 99, 107, 97, 103, 101], [114, 97, 110, 103, 101], [114, 101, 116, 117, 114, 110], [115, 101, 108, 101, 99, 116], [115, 116, 114, 117, 99, 116], [115, 119, 105, 116, 99, 104], [116, 121, 112, 101], [118, 97, 114], [], [], [126]]
def tokS (i : Nat) : ByteArray := ⟨(tokL.getD i []).toArray⟩
open Classical in
/-- impl.Inspected at trees of expressions. -/
noncomputable def impl_Inspected.f (a0_0 : ByteArray) (a0_1 : ByteArray) (l0_2 : List S24) (a1 : ByteArray) : Option (List S29) := if Good tokS 12 ⟨a0_0, a0_1, l0_2⟩ ∧ cnt 12 ⟨a0_0, a0_1, l0_2⟩ ≤ 90000 then some (inspL a1 12 0 ⟨a0_0, a0_1, l0_2⟩) else none
theorem impl_Inspected.calls (a0_0 : ByteArray) (a0_1 : ByteArray) (A0_2 : Option Addr) (c0_2 : Nat) (l0_2 : List S24) (a1 : ByteArray) (r : List S29) (w : World) (hr0_2 : Kd.C k24 w A0_2 l0_2.length l0_2) (hc0_2 : l0_2.length ≤ c0_2) (hT : TokTab tokS w) (h : impl_Inspected.f a0_0 a0_1 l0_2 a1 = some r) :
    Calls Tryz.prog 11 #[.agg #[.string a0_0, .string a0_1, .slice A0_2 l0_2.length c0_2], .string a1] w fun e w' => ∃ v0_, e = .returned v0_ ∧ Kd.R k29 29 w' w.heap.size (fun _ => True) v0_ r ∧ Below w.heap.size w w' := by
  unfold impl_Inspected.f at h
  split at h
  next hg =>
    obtain rfl := Option.some.inj h
    exact inspected_any tokS 12 (by omega) ⟨a0_0, a0_1, l0_2⟩ A0_2 c0_2 a1 w hg.1 hg.2 hr0_2 hc0_2 hT
  next => cases h
end Go.Proofs.YtdcaabjkklppjaaGreatFmt.A
