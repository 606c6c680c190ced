/- impl.Stacked by the contract of ast.Walk. -/
import Derived.Test.YtdcaabjkklppjaaGreatFmtGSwk
import Derived.Test.YtdcaabjkklppjaaGreatFmtGInr
import Derived.Test.YtdcaabjkklppjaaGreatFmtA13
import Derived.Test.YtdcaabjkklppjaaGreatFmtGWkh
/- Rows of interface values over pointers to nodes: equality, an append to a full row, rows kept. -/
namespace Go.Proofs.YtdcaabjkklppjaaGreatFmt.A.St
open Go.RowKit Go.Proofs.YtdcaabjkklppjaaGreatFmtW.PrintWords Go.Proofs.YtdcaabjkklppjaaGreatFmtW.PrintLast Go.Proofs.YtdcaabjkklppjaaGreatFmtW.PrintMore
set_option linter.unusedVariables false
set_option linter.unusedSimpArgs false

theorem sameAddr_same (b : Nat) (w : World) : (sameAddr ⟨b, 0, none⟩ ⟨b, 0, none⟩).run Tryz.prog w = .ok true w := by
  unfold sameAddr
  go_simp
theorem eqd_same56 (d b : Nat) (w : World) : (Op.equalIn (d + 2) 43 (.iface 56 (.pointer (some ⟨b, 0, none⟩))) (.iface 56 (.pointer (some ⟨b, 0, none⟩)))).run Tryz.prog w = .ok true w := by
  have h1 := Tryz.underlying43
  have h2 := Tryz.underlying56
  have h3 : Tryz.t56.comparable = true := by kernel_rfl
  have h4 := Tryz.sizeOf69
  have h5 := sameAddr_same b
  simp only [Op.equalIn]
  go_simp
theorem eqd_same70 (d b : Nat) (w : World) : (Op.equalIn (d + 2) 43 (.iface 70 (.pointer (some ⟨b, 0, none⟩))) (.iface 70 (.pointer (some ⟨b, 0, none⟩)))).run Tryz.prog w = .ok true w := by
  have h1 := Tryz.underlying43
  have h2 := Tryz.underlying70
  have h3 : Tryz.t70.comparable = true := by kernel_rfl
  have h4 := Tryz.sizeOf73
  have h5 := sameAddr_same b
  simp only [Op.equalIn]
  go_simp
theorem eqd_same74 (d b : Nat) (w : World) : (Op.equalIn (d + 2) 43 (.iface 74 (.pointer (some ⟨b, 0, none⟩))) (.iface 74 (.pointer (some ⟨b, 0, none⟩)))).run Tryz.prog w = .ok true w := by
  have h1 := Tryz.underlying43
  have h2 := Tryz.underlying74
  have h3 : Tryz.t74.comparable = true := by kernel_rfl
  have h4 := Tryz.sizeOf116
  have h5 := sameAddr_same b
  simp only [Op.equalIn]
  go_simp
theorem eqd_same75 (d b : Nat) (w : World) : (Op.equalIn (d + 2) 43 (.iface 75 (.pointer (some ⟨b, 0, none⟩))) (.iface 75 (.pointer (some ⟨b, 0, none⟩)))).run Tryz.prog w = .ok true w := by
  have h1 := Tryz.underlying43
  have h2 := Tryz.underlying75
  have h3 : Tryz.t75.comparable = true := by kernel_rfl
  have h4 := Tryz.sizeOf118
  have h5 := sameAddr_same b
  simp only [Op.equalIn]
  go_simp
theorem eqd_same76 (d b : Nat) (w : World) : (Op.equalIn (d + 2) 43 (.iface 76 (.pointer (some ⟨b, 0, none⟩))) (.iface 76 (.pointer (some ⟨b, 0, none⟩)))).run Tryz.prog w = .ok true w := by
  have h1 := Tryz.underlying43
  have h2 := Tryz.underlying76
  have h3 : Tryz.t76.comparable = true := by kernel_rfl
  have h4 := Tryz.sizeOf120
  have h5 := sameAddr_same b
  simp only [Op.equalIn]
  go_simp
theorem eqd_same77 (d b : Nat) (w : World) : (Op.equalIn (d + 2) 43 (.iface 77 (.pointer (some ⟨b, 0, none⟩))) (.iface 77 (.pointer (some ⟨b, 0, none⟩)))).run Tryz.prog w = .ok true w := by
  have h1 := Tryz.underlying43
  have h2 := Tryz.underlying77
  have h3 : Tryz.t77.comparable = true := by kernel_rfl
  have h4 := Tryz.sizeOf133
  have h5 := sameAddr_same b
  simp only [Op.equalIn]
  go_simp
theorem eqd_same78 (d b : Nat) (w : World) : (Op.equalIn (d + 2) 43 (.iface 78 (.pointer (some ⟨b, 0, none⟩))) (.iface 78 (.pointer (some ⟨b, 0, none⟩)))).run Tryz.prog w = .ok true w := by
  have h1 := Tryz.underlying43
  have h2 := Tryz.underlying78
  have h3 : Tryz.t78.comparable = true := by kernel_rfl
  have h4 := Tryz.sizeOf135
  have h5 := sameAddr_same b
  simp only [Op.equalIn]
  go_simp
theorem eqd_same79 (d b : Nat) (w : World) : (Op.equalIn (d + 2) 43 (.iface 79 (.pointer (some ⟨b, 0, none⟩))) (.iface 79 (.pointer (some ⟨b, 0, none⟩)))).run Tryz.prog w = .ok true w := by
  have h1 := Tryz.underlying43
  have h2 := Tryz.underlying79
  have h3 : Tryz.t79.comparable = true := by kernel_rfl
  have h4 := Tryz.sizeOf137
  have h5 := sameAddr_same b
  simp only [Op.equalIn]
  go_simp
theorem eqd_same80 (d b : Nat) (w : World) : (Op.equalIn (d + 2) 43 (.iface 80 (.pointer (some ⟨b, 0, none⟩))) (.iface 80 (.pointer (some ⟨b, 0, none⟩)))).run Tryz.prog w = .ok true w := by
  have h1 := Tryz.underlying43
  have h2 := Tryz.underlying80
  have h3 : Tryz.t80.comparable = true := by kernel_rfl
  have h4 := Tryz.sizeOf131
  have h5 := sameAddr_same b
  simp only [Op.equalIn]
  go_simp
theorem eqd_same {T : Nat} (hT : OkN T) (d b : Nat) (w : World) : (Op.equalIn (d + 2) 43 (.iface T (.pointer (some ⟨b, 0, none⟩))) (.iface T (.pointer (some ⟨b, 0, none⟩)))).run Tryz.prog w = .ok true w := by
  simp only [OkN, List.mem_cons, List.mem_nil_iff, or_false] at hT
  rcases hT with rfl | rfl | rfl | rfl | rfl | rfl | rfl | rfl | rfl
  · exact eqd_same56 d b w
  · exact eqd_same70 d b w
  · exact eqd_same74 d b w
  · exact eqd_same75 d b w
  · exact eqd_same76 d b w
  · exact eqd_same77 d b w
  · exact eqd_same78 d b w
  · exact eqd_same79 d b w
  · exact eqd_same80 d b w
theorem bin_same {T : Nat} (hT : OkN T) (b : Nat) (w : World) : (binOp .eql 43 (.iface T (.pointer (some ⟨b, 0, none⟩))) (.iface T (.pointer (some ⟨b, 0, none⟩)))).run Tryz.prog w = .ok (.bool true) w := by
  have h1 := Tryz.underlying43
  have h := eqd_same hT 9998 b w
  have h0 : Op.equal 43 (.iface T (.pointer (some ⟨b, 0, none⟩))) (.iface T (.pointer (some ⟨b, 0, none⟩))) = Op.equalIn (9998 + 2) 43 (.iface T (.pointer (some ⟨b, 0, none⟩))) (.iface T (.pointer (some ⟨b, 0, none⟩))) := rfl
  unfold binOp
  go_simp

theorem info43 : (Tryz.prog.info? 43).map (fun i => (i.zero, i.size, i.bytes)) = some (some .nilIface, 1, 16) := by kernel_rfl
/-- The value of a pair: its type, its block. -/
abbrev encI (x : Nat × Nat) : Value := .iface x.1 (.pointer (some ⟨x.2, 0, none⟩))
theorem R_ofI {w : World} {base : Nat} {ok : Nat → Prop} {v : Value} {xs : List (Nat × Nat)} (ho : w.ownsRow base 43 1 v xs.length (xs.map encI)) (hok : ∀ k, v.ownBlock = some k → ok k) : Kd.R kI 43 w base ok v xs := by
  refine ⟨hok, xs.map encI, ho, by simp [kI], fun j p hj => ?_⟩
  obtain ⟨hl, hp⟩ := List.getElem?_eq_some_iff.1 hj
  have hl' : j < (xs.map encI).length := by simpa using hl
  show ((xs.map encI).drop (j * 1)).take 1 = [encI p]
  rw [Nat.mul_one, List.drop_eq_getElem_cons hl']
  simp [hp]
section
variable {ops : Array Oper} {rest : List Oper} {o : Oper} {a : Act} {Q : Exit → Act → World → Prop}
/-- append to a row that is full: the row lies anew. -/
theorem append_full {W : World} (base : Nat) (hgd : o.guard = none) (s x : Operand) (ho : o.op = .call { callee := .builtin .append, args := #[s, x], argTypes := #[55, 55] })
    (b : Addr) (n : Nat) (vs : List Value) (hl : vs.length = n) (hs : a.eval s = .slice (some b) n n) (hvs : ∀ j u, vs[j]? = some u → W.cell? (b.add j) = some u) (y : Value) (hy : y.oneCell' = true) (hx : a.eval x = .slice (some ⟨W.heap.size, 0, none⟩) 1 1) (hn : n ≤ 1000000) (hbase : base ≤ W.heap.size)
    (h : ∀ v1 w1 g c, v1 = .slice (some ⟨g, 0, none⟩) (n + 1) c → W.heap.size ≤ g → w1.ownsRow base 43 1 v1 (n + 1) (vs ++ [y]) → Below W.heap.size W w1 → wpList Tryz.prog ops Q rest (a.put o.dst v1) w1) :
    wpList Tryz.prog ops Q (o :: rest) a (W.alloc (.cells #[y] 43)) := by
  obtain ⟨i, hi, hzz⟩ := Option.map_eq_some_iff.1 info43
  simp only [Prod.mk.injEq] at hzz
  obtain ⟨hz, hsz, hby⟩ := hzz
  have hb2 : ∀ j u, vs[j]? = some u → (W.alloc (.cells #[y] 43)).cell? (b.add j) = some u := fun j u hu => by
    have h1 := hvs j u hu
    exact (World.cell?_of_block (Below.heap_alloc W _ _ (World.block_lt_of_cell? W _ h1))).trans h1
  have hnew : ∀ j u, [y][j]? = some u → (W.alloc (.cells #[y] 43)).cell? ((⟨W.heap.size, 0, none⟩ : Addr).add j) = some u := by
    simpa using World.news_of_block (cs := #[y]) (t := 43) (fr := (0, 0)) (heap_alloc_new W (.cells #[y] 43))
  have hfit : Builtin.nextslicecap (n + 1) n * i.bytes ≤ 281474976710656 := growslice_fits (by omega) (by rw [hby]; omega)
  have hr := run_append_grow (P := Tryz.prog) (W.alloc (.cells #[y] 43)) 55 o.type 43 i .nilIface Tryz.underlying55 hi hz b n n vs (by rw [hl, hsz, Nat.mul_one]) hb2 ⟨W.heap.size, 0, none⟩ 1 1 [y] (by rw [hsz]; rfl) hnew (by omega) (by omega) hfit
  refine wpList_plain hgd fun Kc hK => ?_
  unfold Oper.wp execOp
  simp only [ho, resolve, invoke, builtin, Sem.run_bind, Sem.run_pure, Result.andThen_ok, List.map_toArray, List.map_cons, List.map_nil, hs, hx, hr]
  have hge := grownCap_ge (W.alloc (.cells #[y] 43)) (n + 1) n 43
  have hcm := grownCap_le_maxLen (W.alloc (.cells #[y] 43)) (n + 1) n 43 (by simp only [maxLen]; omega)
  have hsize : (W.alloc (.cells #[y] 43)).heap.size = W.heap.size + 1 := by simp
  refine hK _ _ (h _ _ _ _ rfl (by rw [hsize]; omega) ⟨by simp [hl], .inr ⟨_, _, _, rfl, by rw [hsize]; omega, heap_alloc_new (W.alloc (.cells #[y] 43)).drew _, hge, hcm, ?_, ?_⟩⟩ ?_)
  · simp only [Array.size_append, List.size_toArray, size_zeroCells, hl]
    show n + [y].length + (_ - (n + 1)) * 1 = _
    simp only [List.length_cons, List.length_nil]
    omega
  · simp only [Array.toList_append, List.append_assoc]
    rw [← List.append_assoc, show (n + 1) * 1 = (vs ++ [y]).length by simp [hl]]
    exact List.take_left
  · exact ((Below.refl W.heap.size W).alloc (Nat.le_refl _) _).trans (((Below.refl (W.heap.size + 1) (W.alloc (.cells #[y] 43))).drew.alloc (by simp) _).mono (by omega))
end
/-- What path[:n:n] is. -/
theorem cut_full (A : Addr) (n c : Nat) (j : Nat) (hm : j ≤ n) (hc : n ≤ c) : ∀ W : World, (Instr.slice 55 (.slice (some A) n c) none (some (.int .i64 (j : Int))) (some (.int .i64 (j : Int)))).run Tryz.prog W = .ok (.slice (some A) j j) W := by
  intro W
  obtain ⟨i, hi, hzz⟩ := Option.map_eq_some_iff.1 info43
  have hel : Tryz.prog.elem 55 = 43 := by simp [Program.elem, Tryz.underlying55]
  have hu : Tryz.prog.underlying 55 = some (.slice (Tryz.prog.elem 55)) := by rw [hel]; exact Tryz.underlying55
  rw [run_slice_hm W 55 (some A) n c hu .i64 .i64 (j : Int) (j : Int) (by omega) (by omega) (by omega), hel]
  have ha : A.add 0 = A := by simp [Addr.add]
  simp [sizeOf, typeInfo, hi, sliced, Result.andThen, ha]
theorem R_cells {W : World} {base g n c : Nat} {ok : Nat → Prop} {ps : List (Nat × Nat)} (h : Kd.R kI 43 W base ok (.slice (some ⟨g, 0, none⟩) n c) ps) {m : Nat} (hm : m ≤ ps.length) : ∀ j u, ((ps.take m).map encI)[j]? = some u → W.cell? ((⟨g, 0, none⟩ : Addr).add j) = some u := by
  intro j u hu
  have hn : n = ps.length := by
    obtain ⟨A', c', he⟩ := Kd.R_slice h
    injection he
  subst hn
  obtain ⟨A', c', he, _, hC⟩ := Kd.R_reads h
  injection he with hA _ _
  subst hA
  rw [List.getElem?_map] at hu
  obtain ⟨p, hp, rfl⟩ := Option.map_eq_some_iff.1 hu
  rw [List.getElem?_take] at hp
  split at hp
  next hj =>
    obtain ⟨ad, cs, e1, _, hK, hcc⟩ := Kd.C_get hC ((0 : Nat), (0 : Nat)) (j : Int) (by omega) (by omega)
    injection e1 with e1
    subst e1
    have hK : cs = [.iface (ps.getD j (0, 0)).1 (.pointer (some ⟨(ps.getD j (0, 0)).2, 0, none⟩))] := hK
    subst hK
    have := hcc 0 _ rfl
    rw [Int.toNat_natCast] at this
    rw [List.getD_eq_getElem?_getD, hp] at this
    simpa [kI] using this
  next => cases hp
end Go.Proofs.YtdcaabjkklppjaaGreatFmt.A.St
/- The function literal of impl.Stacked. -/
namespace Go.Proofs.YtdcaabjkklppjaaGreatFmt.A.St
open Go.RowKit Go.Proofs.YtdcaabjkklppjaaGreatFmtW.PrintWords Go.Proofs.YtdcaabjkklppjaaGreatFmtW.PrintLast Go.Proofs.YtdcaabjkklppjaaGreatFmtW.PrintMore
set_option linter.unusedVariables false
set_option linter.unusedSimpArgs false
attribute [local go_sem ↓] Go.wp_at_zero Go.wp_at_succ

/-- The stack's cells. -/
def Cells (W : World) (A : Option Addr) (ss : List (Nat × Nat)) (K : Nat → Prop) : Prop := ∀ i : Nat, i < ss.length → ∃ bk o, A = some ⟨bk, o, none⟩ ∧ K bk ∧ W.cell? ⟨bk, o + i, none⟩ = some (encI (ss.getD i (0, 0)))
theorem Cells.fr {W W' : World} {A : Option Addr} {ss : List (Nat × Nat)} {K : Nat → Prop} (h : Cells W A ss K) (hf : Fr K W W') : Cells W' A ss K := by
  intro i hi
  obtain ⟨bk, o, e, hk, hc⟩ := h i hi
  exact ⟨bk, o, e, hk, hf.cell hk hc⟩
/-- The variables of impl.Stacked, and the box of the visit. -/
structure Mid (base : Nat) (K : Nat → Prop) (Po Pp Pg Ps vb : Nat) (l : List S29) (vp : Value) (ps : List (Nat × Nat)) (x : S29) (skip : ByteArray) (W W' : World) : Prop where
  out : ∃ vo, OutAt base K Po vo l W'
  pth : One W' Pp vp 55
  row : Kd.R kI 43 W' base (fun k => ¬ K k) vp ps
  gd : One W' Pg (.bool true) 4
  sk : One W' Ps (.string skip) 9
  vb : W'.heap[vb]? = some (.cells #[.string x.f0, .string x.f1, .int .i64 x.f2] 29 (0, 0))
  fr : Fr K W W'
theorem e43 {t : Nat} (h : t ≠ 43) : ∀ q, q ∈ (43 : Nat) :: kI.E → q ≠ t := by
  intro q hq
  have hE : kI.E = ([] : List Nat) := rfl
  rw [hE] at hq
  simp at hq
  subst hq
  exact fun e => h e.symm
theorem One.typ {W : World} {P Q t u : Nat} {v : Value} {cs : Array Value} (h : One W P v t) (k : W.heap[Q]? = some (.cells cs u (0, 0))) (htu : t ≠ u) : P ≠ Q := by
  intro e
  subst e
  have : some (Obj.cells #[v] t (0, 0)) = some (.cells cs u (0, 0)) := h.symm.trans k
  simp at this
  exact htu this.2
theorem mid_mk {base : Nat} {K : Nat → Prop} {Po Pp Pg Ps : Nat} {l : List S29} {vo v8 vp : Value} {ps : List (Nat × Nat)} {x : S29} {skip : ByteArray} {W w1 w8 : World}
    (hb : Below W.heap.size W (w1.alloc (.cells #[.string x.f0, .string x.f1, .int .i64 x.f2] 29))) (hb1 : Below W.heap.size W w1)
    (ho : OutAt base K Po vo l W) (hp : One W Pp vp 55) (hr : Kd.R kI 43 W base (fun k => ¬ K k) vp ps) (hgd : One W Pg (.bool true) 4) (hs : One W Ps (.string skip) 9) (ko : ¬ K Po)
    (h8 : Kd.R k29 29 w8 base (fun k => ¬ K k) v8 (l ++ [x])) (hg : (w1.alloc (.cells #[.string x.f0, .string x.f1, .int .i64 x.f2] 29)).grownBy w8 vo.ownBlock) :
    Mid base K Po Pp Pg Ps w1.heap.size (l ++ [x]) vp ps x skip W (w8.setCell ⟨Po, 0, none⟩ v8) := by
  have ho1 := ho.below hb
  have hp8 := One.grown ho1 hg (hp.below hb) (by decide)
  have hg8 := One.grown ho1 hg (hgd.below hb) (by decide)
  have hs8 := One.grown ho1 hg (hs.below hb) (by decide)
  have ho8 : One w8 Po vo 26 := One.grown ho1 hg ho1.out (by decide)
  have hv8 : w8.heap[w1.heap.size]? = some (.cells #[.string x.f0, .string x.f1, .int .i64 x.f2] 29 (0, 0)) := (hg.block w1.heap.size (by simp) (ho.below hb1).fresh).trans (heap_alloc_new w1 _)
  have nv : w1.heap.size ≠ Po := fun e => by
    have := lt_of_block ho.out
    have := hb1.size
    omega
  have hr8 := Kd.R_over (Kd.R_below hr hb) ho1.row (e43 (by decide)) hg
  exact ⟨⟨v8, OutAt.push ho1 h8 hg⟩, One.set hp8 (One.ne hp8 ho8 (by decide)), Kd.R_set hr8 ho8 (e43 (by decide)) 0 v8, One.set hg8 (One.ne hg8 ho8 (by decide)), One.set hs8 (One.ne hs8 ho8 (by decide)), (Below.heap_setCell _ _ _ _ nv).trans hv8, (Fr.below hb).trans ((Fr.grown ho1 hg).trans (Fr.set ko _))⟩
theorem Mid.vbox {base : Nat} {K : Nat → Prop} {Po Pp Pg Ps vb : Nat} {l : List S29} {vp : Value} {ps : List (Nat × Nat)} {x : S29} {skip : ByteArray} {W W' : World} (h : Mid base K Po Pp Pg Ps vb l vp ps x skip W W') : W'.cell? ⟨vb, 0, none⟩ = some (.string x.f0) := (blk_cell h.vb 0).trans rfl
/-- Behind the store of the new path. -/
theorem mid_path {base : Nat} {K : Nat → Prop} {Po Pp Pg Ps vb : Nat} {l : List S29} {vp : Value} {ps ps' : List (Nat × Nat)} {x : S29} {skip : ByteArray} {W W2 w9 : World} {g n : Nat} {c : Nat} (hn : n = ps'.length)
    (h : Mid base K Po Pp Pg Ps vb l vp ps x skip W W2) (kp : ¬ K Pp) (hfr : ∀ k, W.heap.size ≤ k → ¬ K k) (hb : Below W2.heap.size W2 w9) (hg : W2.heap.size ≤ g)
    (hown : w9.ownsRow base 43 1 (.slice (some ⟨g, 0, none⟩) n c) n (ps'.map encI)) :
    Mid base K Po Pp Pg Ps vb l (.slice (some ⟨g, 0, none⟩) n c) ps' x skip W (w9.setCell ⟨Pp, 0, none⟩ (.slice (some ⟨g, 0, none⟩) n c)) := by
  subst hn
  obtain ⟨⟨vo, h1⟩, h2, h3, h4, h5, h6, h7⟩ := h
  have a2 := h2.below hb
  have a4 := h4.below hb
  have a5 := h5.below hb
  have a6 := (hb.block _ (lt_of_block h6)).trans h6
  have hr9 : Kd.R kI 43 w9 base (fun k => ¬ K k) (.slice (some ⟨g, 0, none⟩) ps'.length c) ps' := R_ofI hown (fun k hk => by
    have : g = k := by simpa [Value.ownBlock] using hk
    subst this
    exact hfr _ (Nat.le_trans h7.size hg))
  exact ⟨⟨vo, (h1.below hb).set a2 (by decide) (by decide)⟩, one_setCell a2, Kd.R_set hr9 a2 (e43 (by decide)) 0 _, One.set a4 (One.ne a4 a2 (by decide)), One.set a5 (One.ne a5 a2 (by decide)), (Below.heap_setCell _ _ _ _ (fun e => (One.typ a2 a6 (by decide)) e.symm)).trans a6, h7.trans ((Fr.below hb).trans (Fr.set kp _))⟩
/-- A store of true. -/
theorem mid_good {base : Nat} {K : Nat → Prop} {Po Pp Pg Ps vb : Nat} {l : List S29} {vp : Value} {ps : List (Nat × Nat)} {x : S29} {skip : ByteArray} {W W2 : World}
    (h : Mid base K Po Pp Pg Ps vb l vp ps x skip W W2) (kg : ¬ K Pg) : Mid base K Po Pp Pg Ps vb l vp ps x skip W (W2.setCell ⟨Pg, 0, none⟩ (.bool true)) := by
  obtain ⟨⟨vo, h1⟩, h2, h3, h4, h5, h6, h7⟩ := h
  exact ⟨⟨vo, h1.set h4 (by decide) (by decide)⟩, One.set h2 (One.ne h2 h4 (by decide)), Kd.R_set h3 h4 (e43 (by decide)) 0 _, one_setCell h4, One.set h5 (One.ne h5 h4 (by decide)), (Below.heap_setCell _ _ _ _ (fun e => (One.typ h4 h6 (by decide)) e.symm)).trans h6, h7.trans (Fr.set kg _)⟩
/-- An element of a row. -/
theorem R_cellI {W : World} {base g n c : Nat} {ok : Nat → Prop} {ps : List (Nat × Nat)} (h : Kd.R kI 43 W base ok (.slice (some ⟨g, 0, none⟩) n c) ps) {i : Nat} (hi : i < ps.length) : W.cell? ⟨g, i, none⟩ = some (encI (ps.getD i (0, 0))) := by
  have := R_cells h (Nat.le_refl _) i (encI (ps.getD i (0, 0))) (by rw [List.take_length, List.getElem?_map, List.getD_eq_getElem?_getD, List.getElem?_eq_getElem hi]; rfl)
  have e : (⟨g, 0, none⟩ : Addr).add i = ⟨g, i, none⟩ := by
    unfold Addr.add
    split
    · subst_vars; rfl
    · simp
  rw [e] at this
  exact this

/-- What the literal leaves. -/
def LitPost (base : Nat) (K : Nat → Prop) (Po Pp Pg Ps : Nat) (l : List S29) (ss : List (Nat × Nat)) (T b : Nat) (x : S29) (skip : ByteArray) (W W' : World) : Prop := ∃ vb g' c', W.heap.size ≤ g' ∧ Mid base K Po Pp Pg Ps vb (l ++ [x]) (.slice (some ⟨g', 0, none⟩) (ss.length + 1) c') (ss ++ [(T, b)]) x skip W W'
set_option maxHeartbeats 4000000 in
set_option maxRecDepth 100000 in
theorem lit_any (base : Nat) (K : Nat → Prop) (Po Pp Pg Ps : Nat) (l : List S29) (ss ps : List (Nat × Nat)) (A : Option Addr) (cA g cp : Nat) (skip k t : ByteArray) (T b : Nat) (vo : Value) (W : World) (hT : OkN T) (hall : ∀ p, p ∈ ss → OkN p.1)
    (hl : l.length < 1000000) (hss : ss.length ≤ ps.length) (hps : ps.length < 1000000) (hpre : ps.take ss.length = ss) (hcp : ps.length ≤ cp) (hbase : base ≤ W.heap.size) (hfr : ∀ k, W.heap.size ≤ k → ¬ K k)
    (ko : ¬ K Po) (kp : ¬ K Pp) (kg : ¬ K Pg)
    (ho : OutAt base K Po vo l W) (hp : One W Pp (.slice (some ⟨g, 0, none⟩) ps.length cp) 55) (hR : Kd.R kI 43 W base (fun k => ¬ K k) (.slice (some ⟨g, 0, none⟩) ps.length cp) ps)
    (hS : Cells W A ss K) (hgd : One W Pg (.bool true) 4) (hs : One W Ps (.string skip) 9) (c : Bool) (hne : (k.toList == skip.toList) = c) (hseen : Seen W (.iface T (.pointer (some ⟨b, 0, none⟩))) k t) :
    Calls Tryz.prog 30 #[.iface T (.pointer (some ⟨b, 0, none⟩)), .slice A ss.length cA, .pointer (some ⟨Po, 0, none⟩), .pointer (some ⟨Pp, 0, none⟩), .pointer (some ⟨Pg, 0, none⟩), .pointer (some ⟨Ps, 0, none⟩)] W fun e W' => e = .returned (.bool (!c)) ∧ LitPost base K Po Pp Pg Ps l ss T b ⟨k, t, (ss.length : Int)⟩ skip W W' := by
  have HO := Aside0.mk ho
  have HP := Aside0.mk hp
  have HR := Aside0.mk hR
  have HG := Aside0.mk hgd
  have HS := Aside0.mk hs
  have HL := Aside0.mk hl
  have HC := Aside0.mk hS
  have HV := Aside0.mk (fun d => visit_any hseen d)
  have HBS := Aside0.mk hbase
  have HFR := Aside0.mk hfr
  have HKO := Aside0.mk ko
  have HKP := Aside0.mk kp
  have HKG := Aside0.mk kg
  have HALL := Aside0.mk hall
  have HPRE := Aside0.mk hpre
  have HPS := Aside0.mk hps
  have HCUT := cut_full ⟨g, 0, none⟩ ps.length cp ss.length hss hcp
  have HN1 := Aside0.mk (Nat.lt_of_le_of_lt hss hps)
  have q1 : decide (ps.length < ss.length) = false := by
    have : ¬ ps.length < ss.length := by omega
    simp [this]
  have HTT := Aside0.mk hT
  clear hl ho hs hseen hbase hfr kp kg ko hR hp hgd hS hall hpre hcp hps hss hT
  go_enter Tryz.func30, Tryz.ntmps30
  go_wp2_with (first
    | (go_at_call 24; (with_reducible refine (HV.out _).mono ?_); rintro e w1 ⟨rfl, hb1⟩; have HB1 := Aside0.mk hb1; have HBX := Aside0.mk (hb1.trans (((Below.refl w1.heap.size w1).alloc (Nat.le_refl _) (.cells #[.string k, .string t, .int .i64 (ss.length : Int)] 29)).mono hb1.size)); have HOX := Aside0.mk (HO.out.below HBX.out); have d1 := cell_of_one HOX.out.out; have HFX := Aside0.mk (HO.out.below hb1).fresh; clear hb1)
    | ((with_reducible refine gate_builtin (b := .append) (xs := #[.tmp 16, .tmp 18]) rfl ?_); at_builtin; refine Kd.R_append k29 (w0 := (w1.alloc (.cells #[.string k, .string t, .int .i64 (ss.length : Int)] 29))) base rfl (.tmp 16) (.tmp 18) 26 29 (.agg #[(.string ⟨#[]⟩), (.string ⟨#[]⟩), (.int .i64 0)]) 40 rfl Tryz.underlying26 info29 rfl (by decide) (by omega) vo l (⟨k, t, (ss.length : Int)⟩ : S29) [.string k, .string t, .int .i64 (ss.length : Int)] (fun k => ¬ K k) (fun _ => False) rfl (by first | (go_simp; done) | (go_simp; rfl)) ?aP (fun _ hk => hk.elim) ?aF ?aO ?aB ?aS ?aL ?_; (case aP => exact k29_mkM _ _ _ _); (case aF => exact fun k_ hk => HFR.out k_ (Nat.le_trans HBX.out.size hk)); (case aO => exact HOX.out.row); (case aB => exact Below.refl _ _); (case aS => exact Nat.le_trans HBS.out HBX.out.size); (case aL => have := HL.out; omega); intro v8 w8 hR hB hG hA; obtain ⟨A8, c8, hv8⟩ := Kd.R_slice hR; rw [List.length_append, List.length_singleton] at hv8; subst hv8; have HM := Aside0.mk (mid_mk (x := ⟨k, t, (ss.length : Int)⟩) HBX.out HB1.out HO.out HP.out HR.out HG.out HS.out HKO.out hR hG); have HO8 := Aside0.mk (One.grown HOX.out hG HOX.out.out (by decide)); have f8 := free_of_one HO8.out; have e1 := cell_of_one HO8.out; have e0 := cell_of_one HM.out.pth; have HSZ : Aside0 (w8.heap.size ≤ (w8.setCell ⟨Po, 0, none⟩ (.slice A8 (l.length + 1) c8)).heap.size) := ⟨by simp [World.setCell]⟩; clear hR hB hG hA)
    | ((with_reducible refine gate_builtin (b := .append) (xs := #[.tmp 30, .tmp 32]) rfl ?_); at_builtin; refine append_full base rfl (.tmp 30) (.tmp 32) rfl ⟨g, 0, none⟩ ss.length (ss.map encI) (by simp) rfl ?bC (.iface T (.pointer (some ⟨b, 0, none⟩))) rfl ?bX ?bN ?bB ?_; (case bC => rw [← HPRE.out]; exact R_cells HM.out.row (by have := HPRE.out; rw [← this]; simp; omega)); (case bX => first | rfl | (go_simp; done) | (go_simp; rfl)); (case bN => have := HN1.out; omega); (case bB => exact Nat.le_trans HBS.out HM.out.fr.size); intro v9 w9 g9 c9 hv9 hg9 hown hb9; subst hv9; have HM9 := Aside0.mk (mid_path (ps' := ss ++ [(T, b)]) (g := g9) (c := c9) (n := ss.length + 1) (by simp) HM.out HKP.out HFR.out hb9 hg9 (by rw [List.map_append]; exact hown)); have HP9 := Aside0.mk (HM.out.pth.below hb9); have f9 := free_of_one HP9.out; have e9 := cell_of_one HP9.out; have HG9 := Aside0.mk (Nat.le_trans HM.out.fr.size hg9); clear hown hb9 hg9))
  clear f8 e0 e1 d1 HM HO8 HSZ HOX HFX HCUT q1
  go_loopg [36] ss.length (fun kq v36 w' => ∃ i : Nat, v36 = .int .i64 (i : Int) ∧ i ≤ ss.length ∧ Hid (kq = ss.length - i) ∧ Aside0 (Mid base K Po Pp Pg Ps w1.heap.size (l ++ [⟨k, t, (ss.length : Int)⟩]) (.slice (some ⟨g9, 0, none⟩) (ss.length + 1) c9) (ss ++ [(T, b)]) ⟨k, t, (ss.length : Int)⟩ skip W w'))
  case atStart => exact ⟨0, rfl, Nat.zero_le _, rfl, HM9⟩
  case round =>
    clear HM9 HP9 f9 e9
    obtain ⟨i, rfl, hi, HMS, HMI⟩ := hrel
    have e0 := cell_of_one HMI.out.gd
    have f0 := free_of_one HMI.out.gd
    have e1 := cell_of_one HMI.out.pth
    by_cases hlt : i < ss.length
    · obtain ⟨bk, o, eA, hk, q0⟩ := (HC.out.fr HMI.out.fr) i hlt
      cases eA
      have q1 := R_cellI HMI.out.row (i := i) (by simp; omega)
      rw [List.getD_eq_getElem?_getD, List.getElem?_append_left hlt, ← List.getD_eq_getElem?_getD] at q1
      have hOk : OkN (ss.getD i (0, 0)).1 := HALL.out _ (by rw [List.getD_eq_getElem?_getD, List.getElem?_eq_getElem hlt]; exact List.getElem_mem hlt)
      obtain ⟨T1, b1, hx⟩ : ∃ T1 b1, ss.getD i (0, 0) = (T1, b1) := ⟨_, _, rfl⟩
      rw [hx] at q0 q1 hOk
      have hbin := bin_same hOk b1 wr
      have p0 : (0 : Int) ≤ (i : Int) := by omega
      have p1 : (i : Int) < (ss.length : Int) := by omega
      have p2 : (i : Int) < (ss.length : Int) + 1 := by omega
      have p3 := HN1.out
      clear hx hOk hk
      go_wp2
      go_roundg (gk - 1)
      case measure => have := HMS.out; omega
      case rel => exact ⟨i + 1, by go_num, by omega, by have := HMS.out; show _ = _; omega, ⟨mid_good HMI.out HKG.out⟩⟩
    · have p1 : ¬ (i : Int) < (ss.length : Int) := by omega
      have e2 := HMI.out.vbox
      have e3 := cell_of_one HMI.out.sk
      go_wp2
      go_ret
      exact ⟨rfl, _, _, _, HG9.out, HMI.out⟩
end Go.Proofs.YtdcaabjkklppjaaGreatFmt.A.St
/- The function literal of ast.PreorderStack over that of impl.Stacked; the visitor. -/
namespace Go.Proofs.YtdcaabjkklppjaaGreatFmt.A.St
open Go.RowKit Go.Proofs.YtdcaabjkklppjaaGreatFmtW.PrintWords Go.Proofs.YtdcaabjkklppjaaGreatFmtW.PrintLast Go.Proofs.YtdcaabjkklppjaaGreatFmtW.PrintMore
set_option linter.unusedVariables false
set_option linter.unusedSimpArgs false
attribute [local go_sem ↓] Go.wp_at_zero Go.wp_at_succ

/-- The literal of impl.Stacked as a value. -/
abbrev fS (Po Pp Pg Ps : Nat) : Value := .func (.func 30) #[] #[.pointer (some ⟨Po, 0, none⟩), .pointer (some ⟨Pp, 0, none⟩), .pointer (some ⟨Pg, 0, none⟩), .pointer (some ⟨Ps, 0, none⟩)]
/-- The literal of PreorderStack as a value. -/
abbrev fP (Pf Pst : Nat) : Value := .func (.func 45) #[] #[.pointer (some ⟨Pf, 0, none⟩), .pointer (some ⟨Pst, 0, none⟩)]
/-- Between two visits: s: the visits noted, the stack's length. -/
structure InvS (base lo hi Po Pp Pg Ps Pst Pf : Nat) (skip : ByteArray) (n0 : Nat) (s : List S29 × Nat) (W : World) : Prop where
  out : ∃ vo, OutAt base (Kept base lo hi) Po vo s.1 W
  gd : One W Pg (.bool true) 4
  sk : One W Ps (.string skip) 9
  pf : One W Pf (fS Po Pp Pg Ps) 59
  stk : ∃ A cA g cp ps, One W Pst (.slice A s.2 cA) 55 ∧ s.2 ≤ ps.length ∧ One W Pp (.slice (some ⟨g, 0, none⟩) ps.length cp) 55 ∧ Kd.R kI 43 W base (fun k => ¬ Kept base lo hi k) (.slice A s.2 cA) (ps.take s.2) ∧
    Kd.R kI 43 W base (fun k => ¬ Kept base lo hi k ∧ some k ≠ (Value.slice A s.2 cA).ownBlock) (.slice (some ⟨g, 0, none⟩) ps.length cp) ps ∧ ps.length ≤ s.1.length + n0 ∧ ∀ p, p ∈ ps → OkN p.1
  hi : hi ≤ W.heap.size
/-- Behind the literal of impl.Stacked. -/
structure Aft (base lo hi Po Pp Pg Ps Pst Pf : Nat) (skip : ByteArray) (s : List S29 × Nat) (x : S29) (T b : Nat) (A : Option Addr) (cA : Nat) (ss : List (Nat × Nat)) (W W' : World) : Prop where
  out : ∃ vo, OutAt base (Kept base lo hi) Po vo (s.1 ++ [x]) W'
  gd : One W' Pg (.bool true) 4
  sk : One W' Ps (.string skip) 9
  pf : One W' Pf (fS Po Pp Pg Ps) 59
  pst : One W' Pst (.slice A s.2 cA) 55
  rs : Kd.R kI 43 W' base (fun k => ¬ Kept base lo hi k) (.slice A s.2 cA) ss
  pth : ∃ g c, One W' Pp (.slice (some ⟨g, 0, none⟩) (s.2 + 1) c) 55 ∧ Kd.R kI 43 W' base (fun k => ¬ Kept base lo hi k ∧ some k ≠ (Value.slice A s.2 cA).ownBlock) (.slice (some ⟨g, 0, none⟩) (s.2 + 1) c) (ss ++ [(T, b)])
  fr : Fr (Kept base lo hi) W W'
  ln : ss.length = s.2
theorem kept_far {base lo hi P : Nat} {W : World} (hl : base ≤ P ∧ P < lo ∨ hi ≤ P) (hbl : base ≤ lo) (hlh : lo ≤ hi) : ¬ Kept base lo hi P := by
  intro h
  rcases h with h | h <;> omega
set_option maxHeartbeats 1000000 in
theorem lit_inv {base lo hi Po Pp Pg Ps Pst Pf : Nat} {skip : ByteArray} {n0 : Nat} (hbl : base ≤ lo) (hlh : lo ≤ hi) (ho : base ≤ Po ∧ Po < lo) (hp : base ≤ Pp ∧ Pp < lo) (hg : base ≤ Pg ∧ Pg < lo) (s : List S29 × Nat) (k t : ByteArray) (T b : Nat) (W : World) (hT : OkN T) (hl : s.1.length + n0 < 1000000) (hI : InvS base lo hi Po Pp Pg Ps Pst Pf skip n0 s W) (c : Bool) (hne : (k.toList == skip.toList) = c) (hs : Seen W (.iface T (.pointer (some ⟨b, 0, none⟩))) k t) :
    ∃ A cA ss, One W Pst (.slice A s.2 cA) 55 ∧ ss.length + 1 ≤ s.1.length + 1 + n0 ∧ (∀ p, p ∈ ss → OkN p.1) ∧ Calls Tryz.prog 30 #[.iface T (.pointer (some ⟨b, 0, none⟩)), .slice A s.2 cA, .pointer (some ⟨Po, 0, none⟩), .pointer (some ⟨Pp, 0, none⟩), .pointer (some ⟨Pg, 0, none⟩), .pointer (some ⟨Ps, 0, none⟩)] W fun e W' => e = .returned (.bool (!c)) ∧
      Aft base lo hi Po Pp Pg Ps Pst Pf skip s ⟨k, t, (s.2 : Int)⟩ T b A cA ss W W' := by
  obtain ⟨⟨vo, h1⟩, h2, h3, h4, ⟨A, cA, g, cp, ps, i1, i2, i3, i4, i5, i6, i7⟩, h5⟩ := hI
  have hln : (ps.take s.2).length = s.2 := by rw [List.length_take]; omega
  refine ⟨A, cA, ps.take s.2, i1, by omega, fun p hp => i7 p (List.mem_of_mem_take hp), ?_⟩
  obtain ⟨K, hK⟩ : ∃ K : Nat → Prop, K = fun k => Kept base lo hi k ∨ k = Pst ∨ k = Pf ∨ some k = (Value.slice A s.2 cA).ownBlock := ⟨_, rfl⟩
  have hfr : ∀ k, W.heap.size ≤ k → ¬ K k := by
    intro k hk hk2
    rw [hK] at hk2
    rcases hk2 with h | h | h | h
    · rcases h with h | h <;> (have := lt_of_block i1; have := (Kd.R_bound h1.row).1; omega)
    · have := lt_of_block i1; omega
    · have := lt_of_block h4; omega
    · have := Kd.R_lt i4 k h.symm; omega
  have nK : ∀ {P t : Nat} {v : Value}, One W P v t → t ≠ 43 → t ≠ 59 → (t = 55 → P ≠ Pst) → (base ≤ P ∧ P < lo) → ¬ K P := by
    intro P t v hP ht1 ht2 ht3 hb hk
    rw [hK] at hk
    rcases hk with h | h | h | h
    · rcases h with h | h <;> omega
    · by_cases h55 : t = 55
      · exact ht3 h55 h
      · exact One.ne hP i1 h55 h
    · exact One.ne hP h4 ht2 h
    · obtain ⟨cells, hc⟩ := Kd.R_typed i4 P h.symm
      exact One.typ hP hc ht1 rfl
  have npp : Pp ≠ Pst := by
    intro e
    subst e
    have e1 := i1.symm.trans i3
    simp at e1
    obtain ⟨eA, eN, eC⟩ := e1
    have := i5.1 g rfl
    rw [eA] at this
    exact this.2 rfl
  have hout : OutAt base K Po vo s.1 W := by
    refine ⟨h1.out, Kd.R_mono (Kd.R_types (Kd.R_types (Kd.R_bound h1.row) i1 (g := Pst) (t := 55) ?_) h4 (g := Pf) (t := 59) ?_) ?_⟩
    · intro q hq
      have hE : k29.E = ([] : List Nat) := rfl
      rw [hE] at hq
      simp at hq
      subst hq
      decide
    · intro q hq
      have hE : k29.E = ([] : List Nat) := rfl
      rw [hE] at hq
      simp at hq
      subst hq
      decide
    · rintro k ⟨⟨⟨k1, k2, k3, q, hq, cells, hc⟩, k4⟩, k5⟩ hk
      rw [hK] at hk
      rcases hk with h | h | h | h
      · exact k1 h
      · exact k4 h
      · exact k5 h
      · have hE : k29.E = ([] : List Nat) := rfl
        rw [hE] at hq
        simp at hq
        subst hq
        obtain ⟨cells', hc'⟩ := Kd.R_typed i4 k h.symm
        rw [hc] at hc'
        simp at hc'
  have hrow : Kd.R kI 43 W base (fun k => ¬ K k) (.slice (some ⟨g, 0, none⟩) ps.length cp) ps := by
    refine Kd.R_mono (Kd.R_types (Kd.R_types i5 i1 (g := Pst) (t := 55) (e43 (by decide))) h4 (g := Pf) (t := 59) (e43 (by decide))) ?_
    rintro k ⟨⟨⟨k1, k2⟩, k4⟩, k5⟩ hk
    rw [hK] at hk
    rcases hk with h | h | h | h
    · exact k1 h
    · exact k4 h
    · exact k5 h
    · exact k2 h
  have hcells : Cells W A (ps.take s.2) K := by
    intro i hi
    obtain ⟨A', c', he, _, hC⟩ := Kd.R_reads i4
    injection he with hA _ _
    subst hA
    obtain ⟨ad, cs, e1, _, hKc, hcc⟩ := Kd.C_get hC ((0 : Nat), (0 : Nat)) (i : Int) (by omega) (by omega)
    obtain ⟨g4, e4⟩ : ∃ g4, ad = ⟨g4, 0, none⟩ := by
      obtain ⟨g4, cap4, he4, _⟩ := Kd.R_form i4 (by omega)
      injection he4 with he4 _ _
      rw [e1] at he4
      injection he4 with he4
      exact ⟨g4, he4⟩
    subst e4
    have hKc : cs = [.iface ((ps.take s.2).getD i (0, 0)).1 (.pointer (some ⟨((ps.take s.2).getD i (0, 0)).2, 0, none⟩))] := hKc
    subst hKc
    have h0 := hcc 0 _ rfl
    rw [Int.toNat_natCast] at h0
    refine ⟨g4, 0, e1, by rw [hK, e1]; exact .inr (.inr (.inr rfl)), ?_⟩
    have e : ((⟨g4, 0, none⟩ : Addr).add (i * kI.sz + 0)) = ⟨g4, 0 + i, none⟩ := by
      have : i * kI.sz + 0 = i := by simp [kI]
      rw [this]
      unfold Addr.add
      split
      · subst_vars; rfl
      · rfl
    rw [e] at h0
    exact h0
  have hcall := lit_any base K Po Pp Pg Ps s.1 (ps.take s.2) ps A cA g cp skip k t T b vo W hT (fun p hp => i7 p (List.mem_of_mem_take hp)) (by omega) (by omega) (by omega) (by rw [hln]) (by
    obtain ⟨A', c', he, hle, _⟩ := Kd.R_reads i5
    injection he with _ _ hc
    subst hc
    exact hle) (by have := (Kd.R_bound h1.row); have := lt_of_block h1.out; omega) hfr (nK h1.out (by decide) (by decide) (fun h => absurd h (by decide)) ho) (nK i3 (by decide) (by decide) (fun _ => npp) hp) (nK h2 (by decide) (by decide) (fun h => absurd h (by decide)) hg) hout i3 hrow hcells h2 h3 c hne hs
  rw [hln] at hcall
  refine hcall.mono ?_
  rintro e W' ⟨rfl, vb, g', c', hge, ⟨vo', m1⟩, m2, m3, m4, m5, m6, m7⟩
  rw [hln] at m2 m3
  have hst : One W' Pst (.slice A s.2 cA) 55 := (m7.block Pst (by rw [hK]; exact .inr (.inl rfl)) (lt_of_block i1)).trans i1
  have hpf : One W' Pf (fS Po Pp Pg Ps) 59 := (m7.block Pf (by rw [hK]; exact .inr (.inr (.inl rfl))) (lt_of_block h4)).trans h4
  have hrs : Kd.R kI 43 W' base (fun k => ¬ Kept base lo hi k) (.slice A s.2 cA) (ps.take s.2) := by
    have h0 : Kd.R kI 43 W base (fun k => ¬ Kept base lo hi k ∧ some k = (Value.slice A s.2 cA).ownBlock) (.slice A s.2 cA) (ps.take s.2) := ⟨fun k hk => ⟨i4.1 k hk, hk.symm⟩, i4.2⟩
    exact Kd.R_mono (Kd.R_step h0 (fun k hk hlt => m7.block k (by rw [hK]; exact .inr (.inr (.inr hk.2))) hlt)) (fun k hk => hk.1)
  refine ⟨rfl, ⟨⟨vo', m1.out, Kd.R_mono m1.row (fun k hk h => hk (by rw [hK]; exact .inl h))⟩, m4, m5, hpf, hst, hrs, ⟨g', c', m2, Kd.R_mono m3 (fun k hk => ⟨fun h => hk (by rw [hK]; exact .inl h), fun h => hk (by rw [hK]; exact .inr (.inr (.inr h)))⟩)⟩, ⟨m7.os, m7.tape, m7.output, m7.size, fun k hk hlt => m7.block k (by rw [hK]; exact .inl hk) hlt⟩, hln⟩⟩
theorem Aft.stop {base lo hi Po Pp Pg Ps Pst Pf : Nat} {skip : ByteArray} {n0 : Nat} {s : List S29 × Nat} {x : S29} {T b : Nat} {A : Option Addr} {cA : Nat} {ss : List (Nat × Nat)} {W W' : World} (h : Aft base lo hi Po Pp Pg Ps Pst Pf skip s x T b A cA ss W W') (hT : OkN T) (hall : ∀ p, p ∈ ss → OkN p.1) (hn : ss.length + 1 ≤ s.1.length + 1 + n0) (hh : hi ≤ W.heap.size) :
    InvS base lo hi Po Pp Pg Ps Pst Pf skip n0 (s.1 ++ [x], s.2) W' := by
  obtain ⟨h1, h2, h3, h4, h5, h6, ⟨g, c, h7, h8⟩, h9, h10⟩ := h
  refine ⟨h1, h2, h3, h4, ⟨A, cA, g, c, ss ++ [(T, b)], h5, by simp; omega, ?_, ?_, ?_, by simp; omega, ?_⟩, Nat.le_trans hh h9.size⟩
  · rw [List.length_append, List.length_singleton, h10]; exact h7
  · show Kd.R kI 43 W' base _ _ ((ss ++ [(T, b)]).take s.2)
    rw [List.take_append_of_le_length (by omega), List.take_of_length_le (by omega)]
    exact h6
  · rw [List.length_append, List.length_singleton, h10]; exact h8
  · intro p hp
    rcases List.mem_append.1 hp with hp | hp
    · exact hall p hp
    · rw [List.mem_singleton] at hp
      subst hp
      exact hT
theorem Aft.push {base lo hi Po Pp Pg Ps Pst Pf : Nat} {skip : ByteArray} {n0 : Nat} {s : List S29 × Nat} {x : S29} {T b : Nat} {A A8 : Option Addr} {cA c8 : Nat} {ss : List (Nat × Nat)} {W w1 w8 : World} (h : Aft base lo hi Po Pp Pg Ps Pst Pf skip s x T b A cA ss W w1) (hT : OkN T) (hall : ∀ p, p ∈ ss → OkN p.1) (hn : ss.length + 1 ≤ s.1.length + 1 + n0) (hh : hi ≤ W.heap.size) (nst : ¬ Kept base lo hi Pst)
    (h8 : Kd.R kI 43 w8 base (fun k => ¬ Kept base lo hi k) (.slice A8 (s.2 + 1) c8) (ss ++ [(T, b)])) (hg : w1.grownBy w8 (Value.slice A s.2 cA).ownBlock) (hat : (Value.slice A8 (s.2 + 1) c8).ownBlock = (Value.slice A s.2 cA).ownBlock ∨ ∃ b, (Value.slice A8 (s.2 + 1) c8).ownBlock = some b ∧ w1.heap.size ≤ b) :
    InvS base lo hi Po Pp Pg Ps Pst Pf skip n0 (s.1 ++ [x], s.2 + 1) (w8.setCell ⟨Pst, 0, none⟩ (.slice A8 (s.2 + 1) c8)) ∧ Fr (Kept base lo hi) W (w8.setCell ⟨Pst, 0, none⟩ (.slice A8 (s.2 + 1) c8)) := by
  obtain ⟨⟨vo, h1⟩, h2, h3, h4, h5, h6, ⟨g, c, h7, h8p⟩, h9, h10⟩ := h
  have up : ∀ {P t : Nat} {v : Value}, One w1 P v t → (43 : Nat) ≠ t → One w8 P v t := fun hP ht => (hg.block _ (lt_of_block hP) (Kd.R_ne h6 hP ht)).trans hP
  have hst8 := up h5 (by decide)
  have h7a := up h7 (by decide)
  have npp : Pp ≠ Pst := by
    intro e
    subst e
    have e1 := h5.symm.trans h7
    simp at e1
  have hpath8 : Kd.R kI 43 w8 base (fun k => ¬ Kept base lo hi k ∧ some k ≠ (Value.slice A8 (s.2 + 1) c8).ownBlock) (.slice (some ⟨g, 0, none⟩) (s.2 + 1) c) (ss ++ [(T, b)]) := by
    refine Kd.R_mono (Kd.R_grown (Kd.R_bound h8p) hg (fun k hk => hk.1.2)) ?_
    rintro k ⟨⟨k1, k2⟩, k3, k4, k5⟩
    refine ⟨k1, ?_⟩
    rcases hat with e | ⟨b', e, hb'⟩
    · rw [e]; exact k2
    · rw [e]
      intro e2
      injection e2 with e2
      omega
  have hout8 : OutAt base (Kept base lo hi) Po vo (s.1 ++ [x]) w8 := by
    refine ⟨up h1.out (by decide), Kd.R_over h1.row h6 ?_ hg⟩
    intro q hq
    have hE : k29.E = ([] : List Nat) := rfl
    rw [hE] at hq
    simp at hq
    subst hq
    decide
  refine ⟨⟨⟨vo, hout8.set hst8 (by decide) (by decide)⟩, One.set (up h2 (by decide)) (One.ne (up h2 (by decide)) hst8 (by decide)), One.set (up h3 (by decide)) (One.ne (up h3 (by decide)) hst8 (by decide)), One.set (up h4 (by decide)) (One.ne (up h4 (by decide)) hst8 (by decide)), ⟨A8, c8, g, c, ss ++ [(T, b)], one_setCell hst8, by simp; omega, ?_, ?_, ?_, by simp; omega, ?_⟩, ?_⟩, ?_⟩
  · rw [List.length_append, List.length_singleton, h10]; exact One.set h7a npp
  · show Kd.R kI 43 _ base _ _ ((ss ++ [(T, b)]).take (s.2 + 1))
    rw [List.take_of_length_le (by simp; omega)]
    exact Kd.R_set h8 hst8 (e43 (by decide)) 0 _
  · rw [List.length_append, List.length_singleton, h10]; exact Kd.R_set hpath8 hst8 (e43 (by decide)) 0 _
  · intro p hp
    rcases List.mem_append.1 hp with hp | hp
    · exact hall p hp
    · rw [List.mem_singleton] at hp
      subst hp
      exact hT
  · exact Nat.le_trans hh (Nat.le_trans h9.size (Nat.le_trans hg.size (by simp [World.setCell])))
  · exact h9.trans (Fr.trans ⟨hg.os, hg.tape, hg.output, hg.size, fun k hk hl => hg.block k hl (fun e => h6.1 k e.symm hk)⟩ (Fr.set nst _))
theorem InvS.pop {base lo hi Po Pp Pg Ps Pst Pf : Nat} {skip : ByteArray} {n0 : Nat} {s : List S29 × Nat} {W : World} (h : InvS base lo hi Po Pp Pg Ps Pst Pf skip n0 s W) (hd : 0 < s.2) (nst : ¬ Kept base lo hi Pst) :
    ∃ A cA, One W Pst (.slice A s.2 cA) 55 ∧ s.2 ≤ cA ∧ s.2 ≤ s.1.length + n0 ∧ InvS base lo hi Po Pp Pg Ps Pst Pf skip n0 (s.1, s.2 - 1) (W.setCell ⟨Pst, 0, none⟩ (.slice A (s.2 - 1) cA)) ∧ Fr (Kept base lo hi) W (W.setCell ⟨Pst, 0, none⟩ (.slice A (s.2 - 1) cA)) := by
  obtain ⟨⟨vo, h1⟩, h2, h3, h4, ⟨A, cA, g, cp, ps, i1, i2, i3, i4, i5, i6, i7⟩, h5⟩ := h
  have hln : (ps.take s.2).length = s.2 := by rw [List.length_take]; omega
  have hb : ∀ x y : Nat, (Value.slice A x cA).ownBlock = (Value.slice A y cA).ownBlock := by
    intro x y
    cases A <;> rfl
  have npp : Pp ≠ Pst := by
    intro e
    subst e
    have e1 := i1.symm.trans i3
    simp at e1
    obtain ⟨eA, eN, eC⟩ := e1
    have := i5.1 g rfl
    rw [eA] at this
    exact this.2 rfl
  have hcap : s.2 ≤ cA := by
    obtain ⟨A', c', he, hle, _⟩ := Kd.R_reads i4
    injection he with _ _ hc
    subst hc
    omega
  refine ⟨A, cA, i1, hcap, Nat.le_trans i2 i6, ⟨⟨vo, h1.set i1 (by decide) (by decide)⟩, One.set h2 (One.ne h2 i1 (by decide)), One.set h3 (One.ne h3 i1 (by decide)), One.set h4 (One.ne h4 i1 (by decide)), ⟨A, cA, g, cp, ps, one_setCell i1, by show s.2 - 1 ≤ _; omega, One.set i3 npp, ?_, ?_, i6, i7⟩, ?_⟩, Fr.set nst _⟩
  · refine Kd.R_set ?_ i1 (e43 (by decide)) 0 _
    have := Kd.R_take i4 (m := s.2 - 1) (by omega)
    rw [List.take_take, Nat.min_eq_left (by omega)] at this
    exact this
  · refine Kd.R_set ?_ i1 (e43 (by decide)) 0 _
    show Kd.R kI 43 W base (fun k => ¬ Kept base lo hi k ∧ some k ≠ (Value.slice A (s.2 - 1) cA).ownBlock) _ ps
    rw [hb (s.2 - 1) s.2]
    exact i5
  · exact Nat.le_trans h5 (by simp [World.setCell])
end Go.Proofs.YtdcaabjkklppjaaGreatFmt.A.St
/- The function literal of ast.PreorderStack over that of impl.Stacked; the visitor. -/
namespace Go.Proofs.YtdcaabjkklppjaaGreatFmt.A.St
open Go.RowKit Go.Proofs.YtdcaabjkklppjaaGreatFmtW.PrintWords Go.Proofs.YtdcaabjkklppjaaGreatFmtW.PrintLast Go.Proofs.YtdcaabjkklppjaaGreatFmtW.PrintMore
set_option linter.unusedVariables false
set_option linter.unusedSimpArgs false
attribute [local go_sem ↓] Go.wp_at_zero Go.wp_at_succ

/-- One visit. -/
def stepS (skip : ByteArray) (_ : Unit) (s : List S29 × Nat) : Option (ByteArray × ByteArray) → (List S29 × Nat) × Option Unit
  | some x => if (x.1.toList == skip.toList) = true then ((s.1 ++ [⟨x.1, x.2, (s.2 : Int)⟩], s.2), none) else ((s.1 ++ [⟨x.1, x.2, (s.2 : Int)⟩], s.2 + 1), some ())
  | none => ((s.1, s.2 - 1), some ())
theorem stepS_go {skip : ByteArray} {u : Unit} {s : List S29 × Nat} {k t : ByteArray} (h : (k.toList == skip.toList) = false) : stepS skip u s (some (k, t)) = ((s.1 ++ [⟨k, t, (s.2 : Int)⟩], s.2 + 1), some ()) := by
  unfold stepS
  simp only [h]
  rfl
theorem stepS_stop {skip : ByteArray} {u : Unit} {s : List S29 × Nat} {k t : ByteArray} (h : (k.toList == skip.toList) = true) : stepS skip u s (some (k, t)) = ((s.1 ++ [⟨k, t, (s.2 : Int)⟩], s.2), none) := by
  unfold stepS
  simp only [h]
  rfl
/-- What a visit leaves. -/
def VisPost (base lo hi Po Pp Pg Ps Pst Pf : Nat) (skip : ByteArray) (n0 : Nat) (s : List S29 × Nat) (W W' : World) : Prop := InvS base lo hi Po Pp Pg Ps Pst Pf skip n0 s W' ∧ Fr (Kept base lo hi) W W'
set_option maxHeartbeats 2000000 in
set_option maxRecDepth 100000 in
theorem pst_stop {base lo hi Po Pp Pg Ps Pst Pf : Nat} {skip : ByteArray} {n0 : Nat} (hbl : base ≤ lo) (hlh : lo ≤ hi) (ho : base ≤ Po ∧ Po < lo) (hp : base ≤ Pp ∧ Pp < lo) (hg : base ≤ Pg ∧ Pg < lo) (s : List S29 × Nat) (k t : ByteArray) (T b : Nat) (W : World) (hT : OkN T) (hl : s.1.length + n0 < 900000) (hI : InvS base lo hi Po Pp Pg Ps Pst Pf skip n0 s W) (hne : (k.toList == skip.toList) = true) (hs : Seen W (.iface T (.pointer (some ⟨b, 0, none⟩))) k t) :
    Calls Tryz.prog 45 #[.iface T (.pointer (some ⟨b, 0, none⟩)), .pointer (some ⟨Pf, 0, none⟩), .pointer (some ⟨Pst, 0, none⟩)] W fun e W' => e = .returned (.bool false) ∧ VisPost base lo hi Po Pp Pg Ps Pst Pf skip n0 (s.1 ++ [⟨k, t, (s.2 : Int)⟩], s.2) W W' := by
  have HH := Aside0.mk hI.hi
  have c0 := cell_of_one hI.pf
  obtain ⟨A, cA, ss, q1, q2, q3, hcall⟩ := lit_inv hbl hlh ho hp hg s k t T b W hT (by omega) hI true hne hs
  have c1 := cell_of_one q1
  have HC := Aside0.mk hcall
  have HQ2 := Aside0.mk q2
  have HQ3 := Aside0.mk q3
  have HT := Aside0.mk hT
  clear hI hcall q1 q2 q3 hs hl hT
  go_enter Tryz.func45, Tryz.ntmps45
  go_wp2_with (first
    | (go_at_call 30; (with_reducible refine HC.out.mono ?_); rintro e w1 ⟨rfl, ha⟩; have HA := Aside0.mk ha; clear ha))
  go_ret
  exact ⟨rfl, HA.out.stop HT.out HQ3.out HQ2.out HH.out, HA.out.fr⟩
set_option maxHeartbeats 2000000 in
set_option maxRecDepth 100000 in
theorem pst_go {base lo hi Po Pp Pg Ps Pst Pf : Nat} {skip : ByteArray} {n0 : Nat} (hbl : base ≤ lo) (hlh : lo ≤ hi) (ho : base ≤ Po ∧ Po < lo) (hp : base ≤ Pp ∧ Pp < lo) (hg : base ≤ Pg ∧ Pg < lo) (hst : hi ≤ Pst) (s : List S29 × Nat) (k t : ByteArray) (T b : Nat) (W : World) (hT : OkN T) (hl : s.1.length + n0 < 900000) (hI : InvS base lo hi Po Pp Pg Ps Pst Pf skip n0 s W) (hne : (k.toList == skip.toList) = false) (hs : Seen W (.iface T (.pointer (some ⟨b, 0, none⟩))) k t) :
    Calls Tryz.prog 45 #[.iface T (.pointer (some ⟨b, 0, none⟩)), .pointer (some ⟨Pf, 0, none⟩), .pointer (some ⟨Pst, 0, none⟩)] W fun e W' => e = .returned (.bool true) ∧ VisPost base lo hi Po Pp Pg Ps Pst Pf skip n0 (s.1 ++ [⟨k, t, (s.2 : Int)⟩], s.2 + 1) W W' := by
  have HH := Aside0.mk hI.hi
  have c0 := cell_of_one hI.pf
  have hBS : base ≤ W.heap.size := by have := hI.hi; omega
  have HFR : Aside0 (∀ k, W.heap.size ≤ k → ¬ Kept base lo hi k) := ⟨fun k hk h => by have := hI.hi; rcases h with h | h <;> omega⟩
  obtain ⟨A, cA, ss, q1, q2, q3, hcall⟩ := lit_inv hbl hlh ho hp hg s k t T b W hT (by omega) hI false hne hs
  have c1 := cell_of_one q1
  have HBS := Aside0.mk hBS
  have HC := Aside0.mk hcall
  have HQ2 := Aside0.mk q2
  have HQ3 := Aside0.mk q3
  have HT := Aside0.mk hT
  have HL := Aside0.mk hl
  have HK := Aside0.mk (kept_far (base := base) (lo := lo) (hi := hi) (P := Pst) (W := W) (.inr hst) hbl hlh)
  clear hI hcall q1 q2 q3 hs hl hT hBS
  go_enter Tryz.func45, Tryz.ntmps45
  go_wp2_with (first
    | (go_at_call 30; (with_reducible refine HC.out.mono ?_); rintro e w1 ⟨rfl, ha⟩; have HA := Aside0.mk ha; have d1 := cell_of_one ha.pst; clear ha)
    | ((with_reducible refine gate_builtin (b := .append) (xs := #[.tmp 12, .tmp 14]) rfl ?_); at_builtin; refine Kd.R_append kI (w0 := w1) base rfl (.tmp 12) (.tmp 14) 55 43 .nilIface 16 rfl Tryz.underlying55 info43 rfl (by decide) (by omega) (.slice A s.2 cA) ss (T, b) [.iface T (.pointer (some ⟨b, 0, none⟩))] (fun k => ¬ Kept base lo hi k) (fun _ => False) rfl (by first | rfl | (go_simp; done) | (go_simp; rfl)) ?aP (fun _ hk => hk.elim) ?aF ?aO ?aB ?aS ?aL ?_; (case aP => rfl); (case aF => exact fun k_ hk => HFR.out k_ (Nat.le_trans HA.out.fr.size hk)); (case aO => exact HA.out.rs); (case aB => exact Below.refl _ _); (case aS => exact Nat.le_trans HBS.out HA.out.fr.size); (case aL => have := HL.out; have := HQ2.out; omega); intro v8 w8 hR hB hG hA; obtain ⟨A8, c8, hv8⟩ := Kd.R_slice hR; rw [List.length_append, List.length_singleton, HA.out.ln] at hv8; subst hv8; have HP := Aside0.mk (HA.out.push HT.out HQ3.out HQ2.out HH.out HK.out hR hG hA); have HO8 := Aside0.mk ((hG.block _ (lt_of_block HA.out.pst) (Kd.R_ne HA.out.rs HA.out.pst (by decide))).trans HA.out.pst); have f8 := free_of_one HO8.out; have e1 := cell_of_one HO8.out; clear hR hB hG hA))
  go_ret
  exact ⟨rfl, HP.out⟩
set_option maxHeartbeats 2000000 in
set_option maxRecDepth 100000 in
theorem pst_nil {base lo hi Po Pp Pg Ps Pst Pf : Nat} {skip : ByteArray} {n0 : Nat} (hbl : base ≤ lo) (hlh : lo ≤ hi) (hst : hi ≤ Pst) (s : List S29 × Nat) (W : World) (hd : 0 < s.2) (hl : s.1.length + n0 < 900000) (hI : InvS base lo hi Po Pp Pg Ps Pst Pf skip n0 s W) :
    Calls Tryz.prog 45 #[.nilIface, .pointer (some ⟨Pf, 0, none⟩), .pointer (some ⟨Pst, 0, none⟩)] W fun e W' => e = .returned (.bool true) ∧ VisPost base lo hi Po Pp Pg Ps Pst Pf skip n0 (s.1, s.2 - 1) W W' := by
  obtain ⟨A, cA, q1, q2, q3, hpop⟩ := hI.pop hd (kept_far (base := base) (lo := lo) (hi := hi) (P := Pst) (W := W) (.inr hst) hbl hlh)
  obtain ⟨s1, n⟩ := s
  obtain ⟨m, rfl⟩ : ∃ m, n = m + 1 := ⟨n - 1, by have : 0 < n := hd; omega⟩
  have hpop : VisPost base lo hi Po Pp Pg Ps Pst Pf skip n0 (s1, m) W (W.setCell ⟨Pst, 0, none⟩ (.slice A m cA)) := hpop
  have HP := Aside0.mk hpop
  have c1 := cell_of_one q1
  have f1 := free_of_one q1
  have q2 : m + 1 ≤ cA := q2
  have q3 : m < 900000 := by have : m + 1 ≤ s1.length + n0 := q3; have : s1.length + n0 < 900000 := hl; omega
  have e4 : ((m + 1 : Nat) : Int) - 1 = (m : Int) := by omega
  clear hI hpop q1 hd hl
  go_enter Tryz.func45, Tryz.ntmps45
  go_wp2
  go_ret
  exact ⟨rfl, HP.out⟩
end Go.Proofs.YtdcaabjkklppjaaGreatFmt.A.St
/- impl.Stacked by the contract of ast.Walk. -/
namespace Go.Proofs.YtdcaabjkklppjaaGreatFmt.A.St
open Go.RowKit Go.Proofs.YtdcaabjkklppjaaGreatFmtW.PrintWords Go.Proofs.YtdcaabjkklppjaaGreatFmtW.PrintLast Go.Proofs.YtdcaabjkklppjaaGreatFmtW.PrintMore
set_option linter.unusedVariables false
set_option linter.unusedSimpArgs false
attribute [local go_sem ↓] Go.wp_at_zero Go.wp_at_succ

set_option maxHeartbeats 2000000 in
set_option maxRecDepth 100000 in
theorem inspector45 (Pf Pst : Nat) (v : Value) (b : Bool) (W : World) (R : World → Prop) (h : Calls Tryz.prog 45 #[v, .pointer (some ⟨Pf, 0, none⟩), .pointer (some ⟨Pst, 0, none⟩)] W fun e W' => e = .returned (.bool b) ∧ R W') :
    Calls Tryz.prog 103 #[fP Pf Pst, v] W fun e W' => e = .returned (if b then .iface 62 (fP Pf Pst) else .nilIface) ∧ R W' := by
  have H := Aside0.mk h
  clear h
  go_enter Tryz.func103, Tryz.ntmps103
  cases b
  · go_wp2_with (first | (go_at_call 45; (with_reducible refine H.out.mono ?_); rintro e w1 ⟨rfl, hr⟩; have HR := Aside0.mk hr; clear hr))
    go_ret
    exact ⟨rfl, HR.out⟩
  · go_wp2_with (first | (go_at_call 45; (with_reducible refine H.out.mono ?_); rintro e w1 ⟨rfl, hr⟩; have HR := Aside0.mk hr; clear hr))
    go_ret
    exact ⟨rfl, HR.out⟩
theorem vis45 {base lo hi Po Pp Pg Ps Pst Pf : Nat} {skip : ByteArray} {n0 : Nat} (hbl : base ≤ lo) (hlh : lo ≤ hi) (ho : base ≤ Po ∧ Po < lo) (hp : base ≤ Pp ∧ Pp < lo) (hg : base ≤ Pg ∧ Pg < lo) (hst : hi ≤ Pst) (s : List S29 × Nat) (x : Option (ByteArray × ByteArray)) (v : Value) (W : World) (hl : s.1.length + n0 < 900000) (hd : x = none → 0 < s.2) (hI : InvS base lo hi Po Pp Pg Ps Pst Pf skip n0 s W) (hs : SeenO (Kept base lo hi) W v x) :
    Calls Tryz.prog 45 #[v, .pointer (some ⟨Pf, 0, none⟩), .pointer (some ⟨Pst, 0, none⟩)] W fun e W' => e = .returned (.bool (stepS skip () s x).2.isSome) ∧ VisPost base lo hi Po Pp Pg Ps Pst Pf skip n0 (stepS skip () s x).1 W W' := by
  cases x with
  | none =>
    have hv : v = .nilIface := hs
    subst hv
    exact pst_nil hbl hlh hst s W (hd rfl) hl hI
  | some x =>
    obtain ⟨hseen, T, b, hT, rfl, hk⟩ := hs
    obtain ⟨k, t⟩ := x
    cases hk : (k.toList == skip.toList)
    · rw [stepS_go hk]
      exact pst_go hbl hlh ho hp hg hst s k t T b W hT hl hI hk hseen
    · rw [stepS_stop hk]
      exact pst_stop hbl hlh ho hp hg s k t T b W hT hl hI hk hseen
/-- The visitor. -/
def VS {base lo hi Po Pp Pg Pst : Nat} (Ps Pf : Nat) (hbl : base ≤ lo) (hlh : lo ≤ hi) (ho : base ≤ Po ∧ Po < lo) (hp : base ≤ Pp ∧ Pp < lo) (hg : base ≤ Pg ∧ Pg < lo) (hst : hi ≤ Pst) (skip : ByteArray) (n0 : Nat) (hn0 : n0 ≤ 1000) : Vis Unit (List S29 × Nat) where
  T := 62
  fn := 103
  xv := fun _ => fP Pf Pst
  rc := fun _ => fP Pf Pst
  step := stepS skip
  len := fun s => s.1.length
  dep := fun s => s.2
  inv := InvS base lo hi Po Pp Pg Ps Pst Pf skip n0
  K := Kept base lo hi
  M := 100000
  hm := fun _ w => meth62 _ w
  hcf := call103
  hlen := by
    intro b s x
    cases x with
    | none => simp [stepS]
    | some x =>
      obtain ⟨k, t⟩ := x
      cases h : (k.toList == skip.toList)
      · rw [stepS_go h]; simp
      · rw [stepS_stop h]; simp
  hgo := by
    intro b s x s1 b1 hst
    obtain ⟨k, t⟩ := x
    cases h : (k.toList == skip.toList)
    · rw [stepS_go h] at hst
      simp only [Prod.mk.injEq] at hst
      rw [← hst.1]
    · rw [stepS_stop h] at hst
      simp at hst
  hsp := by
    intro b s x s1 hst
    obtain ⟨k, t⟩ := x
    cases h : (k.toList == skip.toList)
    · rw [stepS_go h] at hst
      simp at hst
    · rw [stepS_stop h] at hst
      simp only [Prod.mk.injEq] at hst
      rw [← hst.1]
  hnil := by
    intro b s hd
    show s.2 - 1 + 1 = s.2
    omega
  call := by
    intro b s x v W hl hd hI hs
    refine (inspector45 Pf Pst v _ W _ (vis45 hbl hlh ho hp hg hst s x v W (by have h : s.1.length < 100000 := hl; omega) hd hI hs)).mono ?_
    rintro e W' ⟨rfl, h⟩
    refine ⟨?_, h⟩
    cases (stepS skip () s x).2 with
    | none => rfl
    | some u => rfl
/-- The visits, in plain words. -/
def prL (skip : ByteArray) : Nat → Nat → S24 → List S29
  | 0, _, _ => []
  | D + 1, d, n => ⟨kindB n, textB n, (d : Int)⟩ :: (if (kindB n).toList == skip.toList then [] else catTo (fun i => prL skip D (d + 1) (rd_T24 n.f2 (i : Int))) (nk n) ++ (if n.f0 = bSel then [⟨bName, n.f1, ((d + 1 : Nat) : Int)⟩] else []))
theorem stepS_nil (skip : ByteArray) (u : Unit) (s : List S29 × Nat) : stepS skip u s none = ((s.1, s.2 - 1), some ()) := rfl
theorem trav_st (V : Vis Unit (List S29 × Nat)) (skip : ByteArray) (hst : V.step = stepS skip) : ∀ (D : Nat) (n : S24) (l : List S29) (d : Nat), V.trav D () (l, d) n = (l ++ prL skip D d n, d)
  | 0, n, l, d => by simp [Vis.trav, prL]
  | D + 1, n, l, d => by
    rw [Vis.trav, hst, prL]
    cases hk : ((kindB n).toList == skip.toList)
    · rw [stepS_go hk, if_neg (by simp)]
      have hf : ∀ (l : List S29) (m : Nat), foldTo (fun s i => V.trav D () s (rd_T24 n.f2 (i : Int))) (l, d + 1) m = (l ++ catTo (fun i => prL skip D (d + 1) (rd_T24 n.f2 (i : Int))) m, d + 1) := by
        intro l m
        induction m with
        | zero => simp [foldTo, catTo]
        | succ m ih =>
          rw [foldTo, ih, catTo]
          rw [trav_st V skip hst D _ _ (d + 1), List.append_assoc]
      dsimp only
      rw [hf]
      have hsel : ∀ l, V.sel () n (l, d + 1) = (l ++ (if n.f0 = bSel then [⟨bName, n.f1, ((d + 1 : Nat) : Int)⟩] else []), d + 1) := by
        intro l
        unfold Vis.sel
        split
        · unfold Vis.leaf
          rw [hst]
          cases hb : (bName.toList == skip.toList)
          · rw [stepS_go hb]
            dsimp only
            rw [stepS_nil]
            dsimp only
            simp
          · rw [stepS_stop hb]
        · simp
      rw [hsel, stepS_nil]
      dsimp only
      simp
    · rw [stepS_stop hk, if_pos rfl]
set_option maxHeartbeats 2000000 in
set_option maxRecDepth 100000 in
/-- ast.PreorderStack. -/
theorem pstack_any {base lo Po Pp Pg Ps g cp : Nat} (hbl : base ≤ lo) (ho : base ≤ Po ∧ Po < lo) (hp : base ≤ Pp ∧ Pp < lo) (hg : base ≤ Pg ∧ Pg < lo) (skip : ByteArray) (D : Nat) (n : S24) (v : Value) (A : Option Addr) (cA : Nat) (ss : List (Nat × Nat)) (W : World) (hlo : lo ≤ W.heap.size) (hn0 : ss.length ≤ 1000) (hcnt : cnt D n ≤ 90000)
    (ht : Tree (Kept base lo W.heap.size) W D n v) (hout : ∃ vo, OutAt base (Kept base lo W.heap.size) Po vo [] W) (hgd : One W Pg (.bool true) 4) (hs : One W Ps (.string skip) 9) (hall : ∀ p, p ∈ ss → OkN p.1)
    (hR : Kd.R kI 43 W base (fun k => ¬ Kept base lo W.heap.size k) (.slice A ss.length cA) ss) (hpp : One W Pp (.slice (some ⟨g, 0, none⟩) ss.length cp) 55)
    (hRp : Kd.R kI 43 W base (fun k => ¬ Kept base lo W.heap.size k ∧ some k ≠ (Value.slice A ss.length cA).ownBlock) (.slice (some ⟨g, 0, none⟩) ss.length cp) ss) :
    Calls Tryz.prog 29 #[v, .slice A ss.length cA, fS Po Pp Pg Ps] W fun e W' => e = .returned (.tuple #[]) ∧ (∃ vo, OutAt base (Kept base lo W.heap.size) Po vo (prL skip D ss.length n) W') ∧ One W' Pg (.bool true) 4 ∧ Fr (Kept base lo W.heap.size) W W' := by
  obtain ⟨T1, b1, rfl, _, _⟩ := formN ht
  obtain ⟨vo, hout⟩ := hout
  obtain ⟨W2, hW2⟩ : ∃ W2, (W.alloc (.cells #[.slice A ss.length cA] 55)).alloc (.cells #[fS Po Pp Pg Ps] 59) = W2 := ⟨_, rfl⟩
  have hb : Below W.heap.size W W2 := by
    rw [← hW2]
    exact ((Below.refl _ _).alloc (Nat.le_refl _) _).alloc (by simp) _
  have hz : W2.heap.size = W.heap.size + 2 := by rw [← hW2]; simp
  have p1 : One W2 W.heap.size (.slice A ss.length cA) 55 := by
    rw [← hW2]
    exact (Below.heap_alloc _ _ _ (by simp)).trans (heap_alloc_new W _)
  have p2 : One W2 (W.heap.size + 1) (fS Po Pp Pg Ps) 59 := by
    rw [← hW2]
    have := heap_alloc_new (W.alloc (.cells #[.slice A ss.length cA] 55)) (.cells #[fS Po Pp Pg Ps] 59)
    rwa [World.size_alloc] at this
  have hinv : InvS base lo W.heap.size Po Pp Pg Ps W.heap.size (W.heap.size + 1) skip ss.length ([], ss.length) W2 :=
    ⟨⟨vo, hout.below hb⟩, hgd.below hb, hs.below hb, p2, ⟨A, cA, g, cp, ss, p1, Nat.le_refl _, hpp.below hb, by
      show Kd.R kI 43 W2 base _ _ (ss.take ss.length)
      rw [List.take_length]
      exact Kd.R_below hR hb, Kd.R_below hRp hb, by simp, hall⟩, by omega⟩
  have hw := walk_all (VS (base := base) (lo := lo) (hi := W.heap.size) (Po := Po) (Pp := Pp) (Pg := Pg) (Pst := W.heap.size) Ps (W.heap.size + 1) hbl hlo ho hp hg (Nat.le_refl _) skip ss.length hn0) (by show 100000 ≤ 1000000; omega) D () ([], ss.length) n _ W2 (ht.keep (fun k hk hl => ⟨hk, hb.block k hl⟩)) hinv (by show 0 + cnt D n ≤ 100000; omega)
  rw [trav_st _ skip rfl D n [] ss.length] at hw
  have HI : Aside0 (Calls Tryz.prog 21 #[.iface T1 (.pointer (some ⟨b1, 0, none⟩)), fP (W.heap.size + 1) W.heap.size] W2 fun e W' => e = .returned (.tuple #[]) ∧ VisPost base lo W.heap.size Po Pp Pg Ps W.heap.size (W.heap.size + 1) skip ss.length (prL skip D ss.length n, ss.length) W2 W') := Aside0.mk (inspect_any _ _ W2 (fun W' => VisPost base lo W.heap.size Po Pp Pg Ps W.heap.size (W.heap.size + 1) skip ss.length (prL skip D ss.length n, ss.length) W2 W') hw)
  have HB := Aside0.mk hb
  clear hw hinv hR hRp hall hout hgd hs hpp ht hcnt hn0 p1 p2 hz hb
  subst hW2
  go_enter Tryz.func29, Tryz.ntmps29
  go_wp2_with (first
    | (go_at_call 21; (with_reducible refine HI.out.mono ?_); rintro e w1 ⟨rfl, hv⟩; have HV := Aside0.mk hv; obtain ⟨A1, cA1, g1, cp1, ps1, i1, _⟩ := hv.1.stk; have c1 := cell_of_one i1; clear hv i1))
  first | (refine bodyPost_ret (results_none rfl _ _ _) rfl ?_) | go_end0
  exact ⟨rfl, HV.out.1.out, HV.out.1.gd, (Fr.below HB.out).trans HV.out.2⟩
/-- The variables of impl.Stacked as its loop goes. -/
structure Bx (w : World) (n0 n1 : ByteArray) (n2 : Value) (skip : ByteArray) (W : World) : Prop where
  nb : W.heap[w.heap.size]? = some (.cells #[.string n0, .string n1, n2] 24 (0, 0))
  ps : One W (w.heap.size + 1) (.string skip) 9
  pe : W.heap[w.heap.size + 1 + 1]? = some (.cells #[] 29 (0, 0))
  po : One W (w.heap.size + 1 + 1 + 1 + 1) (.slice (some ⟨w.heap.size + 1 + 1, 0, none⟩) 0 0) 26
  pg : One W (w.heap.size + 1 + 1 + 1 + 1 + 1) (.bool true) 4
  bl : Below w.heap.size w W
  sz : w.heap.size + 6 ≤ W.heap.size
theorem Bx.below {w W W' : World} {n0 n1 : ByteArray} {n2 : Value} {skip : ByteArray} (h : Bx w n0 n1 n2 skip W) (hb : Below W.heap.size W W') : Bx w n0 n1 n2 skip W' :=
  ⟨(hb.block _ (lt_of_block h.nb)).trans h.nb, h.ps.below hb, (hb.block _ (lt_of_block h.pe)).trans h.pe, h.po.below hb, h.pg.below hb, h.bl.trans (hb.mono h.bl.size), Nat.le_trans h.sz hb.size⟩
theorem Bx.grown {w W W' : World} {n0 n1 : ByteArray} {n2 : Value} {skip : ByteArray} {base : Nat} {ok : Nat → Prop} {v : Value} {xs : List (Nat × Nat)} (h : Bx w n0 n1 n2 skip W) (hR : Kd.R kI 43 W base ok v xs) (hbl : Below w.heap.size w W') (hg : W.grownBy W' v.ownBlock) : Bx w n0 n1 n2 skip W' := by
  have up : ∀ {P t : Nat} {cs : Array Value}, W.heap[P]? = some (.cells cs t (0, 0)) → (43 : Nat) ≠ t → W'.heap[P]? = some (.cells cs t (0, 0)) := fun hP ht => (hg.block _ (lt_of_block hP) (Kd.R_ne hR hP ht)).trans hP
  exact ⟨up h.nb (by decide), up h.ps (by decide), up h.pe (by decide), up h.po (by decide), up h.pg (by decide), hbl, Nat.le_trans h.sz hg.size⟩
theorem bx_new (w : World) (n0 n1 : ByteArray) (n2 : Value) (skip : ByteArray) : Bx w n0 n1 n2 skip ((((((w.alloc (.cells #[.string n0, .string n1, n2] 24)).alloc (.cells #[.string skip] 9)).alloc (.cells #[] 29)).alloc (.cells #[] 43)).alloc (.cells #[.slice (some ⟨w.heap.size + 1 + 1, 0, none⟩) 0 0] 26)).alloc (.cells #[.bool true] 4)) ∧
    ((((((w.alloc (.cells #[.string n0, .string n1, n2] 24)).alloc (.cells #[.string skip] 9)).alloc (.cells #[] 29)).alloc (.cells #[] 43)).alloc (.cells #[.slice (some ⟨w.heap.size + 1 + 1, 0, none⟩) 0 0] 26)).alloc (.cells #[.bool true] 4)).heap[w.heap.size + 1 + 1 + 1]? = some (.cells #[] 43 (0, 0)) := by
  generalize ho0 : Obj.cells #[.string n0, .string n1, n2] 24 = o0
  generalize ho1 : Obj.cells #[.string skip] 9 = o1
  generalize ho2 : Obj.cells #[] 29 = o2
  generalize ho3 : Obj.cells #[] 43 = o3
  generalize ho4 : Obj.cells #[.slice (some ⟨w.heap.size + 1 + 1, 0, none⟩) 0 0] 26 = o4
  generalize ho5 : Obj.cells #[.bool true] 4 = o5
  have hh : ((((((w.alloc o0).alloc o1).alloc o2).alloc o3).alloc o4).alloc o5).heap = (((((w.heap.push o0).push o1).push o2).push o3).push o4).push o5 := rfl
  refine ⟨⟨?_, ?_, ?_, ?_, ?_, ?_, ?_⟩, ?_⟩
  · rw [hh, ho0]
    simp only [Array.getElem?_push, Array.size_push]
    repeat (first | rw [if_pos (by omega)] | rw [if_neg (by omega)])
    exact if_pos trivial
  · show ((((((w.alloc o0).alloc o1).alloc o2).alloc o3).alloc o4).alloc o5).heap[_]? = some _
    rw [hh, ho1]
    simp only [Array.getElem?_push, Array.size_push]
    repeat (first | rw [if_pos (by omega)] | rw [if_neg (by omega)])
    exact if_pos trivial
  · rw [hh, ho2]
    simp only [Array.getElem?_push, Array.size_push]
    repeat (first | rw [if_pos (by omega)] | rw [if_neg (by omega)])
    exact if_pos trivial
  · show ((((((w.alloc o0).alloc o1).alloc o2).alloc o3).alloc o4).alloc o5).heap[_]? = some _
    rw [hh, ho4]
    simp only [Array.getElem?_push, Array.size_push]
    repeat (first | rw [if_pos (by omega)] | rw [if_neg (by omega)])
    exact if_pos trivial
  · show ((((((w.alloc o0).alloc o1).alloc o2).alloc o3).alloc o4).alloc o5).heap[_]? = some _
    rw [hh, ho5]
    simp only [Array.getElem?_push, Array.size_push]
    repeat (first | rw [if_pos (by omega)] | rw [if_neg (by omega)])
    exact if_pos trivial
  · exact ((((((Below.refl w.heap.size w).alloc (Nat.le_refl _) o0).alloc (by simp) o1).alloc (by simp; omega) o2).alloc (by simp; omega) o3).alloc (by simp; omega) o4).alloc (by simp; omega) o5
  · rw [hh]; simp
  · rw [hh]
    simp only [Array.getElem?_push, Array.size_push]
    repeat (first | rw [if_pos (by omega)] | rw [if_neg (by omega)])
    exact if_pos trivial
theorem R_emptyI {W : World} {base g : Nat} {ok : Nat → Prop} (h : W.heap[g]? = some (.cells #[] 43 (0, 0))) (hb : base ≤ g) (hk : ok g) : Kd.R kI 43 W base ok (.slice (some ⟨g, 0, none⟩) 0 0) [] := by
  refine ⟨fun k e => ?_, [], ⟨rfl, .inr ⟨g, 0, #[], rfl, hb, h, Nat.le_refl _, by decide, rfl, rfl⟩⟩, ⟨rfl, fun j p hj => by simp at hj⟩⟩
  have : g = k := by simpa [Value.ownBlock] using e
  subst this
  exact hk
theorem all_snoc {xs : List (Nat × Nat)} {T b : Nat} (h : ∀ p, p ∈ xs → OkN p.1) (hT : OkN T) : ∀ p, p ∈ xs ++ [(T, b)] → OkN p.1 := by
  intro p hp
  rcases List.mem_append.1 hp with hp | hp
  · exact h p hp
  · rw [List.mem_singleton] at hp
    subst hp
    exact hT
theorem some_of_hat {v : Value} {A : Option Addr} {g n0 c0 n c q : Nat} (hv : v = .slice A n c) (h : v.ownBlock = (Value.slice (some ⟨g, 0, none⟩) n0 c0).ownBlock ∨ ∃ b, v.ownBlock = some b ∧ q ≤ b) {w : World} {base : Nat} {ok : Nat → Prop} {xs : List (Nat × Nat)} (hR : Kd.R kI 43 w base ok v xs) : ∃ g', A = some ⟨g', 0, none⟩ := by
  subst hv
  have hne : (Value.slice A n c).ownBlock ≠ none := by
    rcases h with e | ⟨b, e, _⟩ <;> rw [e] <;> simp [Value.ownBlock]
  obtain ⟨_, inner, ho, _⟩ := hR
  rcases ho.2 with ⟨e, _⟩ | ⟨g', cap, cur, e, _⟩
  · rw [e] at hne
    exact absurd rfl hne
  · injection e with e _ _
    exact ⟨g', e⟩
set_option maxHeartbeats 2000000 in
/-- The call of PreorderStack. -/
theorem stack_call {w wr w8 w2 : World} {n0 n1 : ByteArray} {n2 : Value} {skip : ByteArray} {D : Nat} {n : S24} {v : Value} {g cg g8 c8 i : Nat} {xs : List (Nat × Nat)} (hX : xs.length = i) (hi : i ≤ 50) (hcnt : cnt D n ≤ 90000) (hBr : Bx w n0 n1 n2 skip wr) (hb8 : Below wr.heap.size wr w8)
    (hO : Kd.R kI 43 wr w.heap.size (fun _ => True) (.slice (some ⟨g, 0, none⟩) i cg) xs) (hR8 : Kd.R kI 43 w8 wr.heap.size (fun k => wr.heap.size ≤ k) (.slice (some ⟨g8, 0, none⟩) i c8) xs) (hall : ∀ p, p ∈ xs → OkN p.1)
    (ht : Tree (From (w8.alloc (.cells #[.slice (some ⟨g8, 0, none⟩) i c8] 55)).heap.size) w2 D n v) (hb2 : Below (w8.alloc (.cells #[.slice (some ⟨g8, 0, none⟩) i c8] 55)).heap.size (w8.alloc (.cells #[.slice (some ⟨g8, 0, none⟩) i c8] 55)) w2) :
    Calls Tryz.prog 29 #[v, .slice (some ⟨g, 0, none⟩) i cg, fS (w.heap.size + 1 + 1 + 1 + 1) w8.heap.size (w.heap.size + 1 + 1 + 1 + 1 + 1) (w.heap.size + 1)] w2 fun e W' => e = .returned (.tuple #[]) ∧
      (∃ vo, OutAt w.heap.size (fun _ => False) (w.heap.size + 1 + 1 + 1 + 1) vo (prL skip D i n) W') ∧ One W' (w.heap.size + 1 + 1 + 1 + 1 + 1) (.bool true) 4 ∧ Below w.heap.size w W' := by
  subst hX
  have hz9 : (w8.alloc (.cells #[.slice (some ⟨g8, 0, none⟩) xs.length c8] 55)).heap.size = w8.heap.size + 1 := by simp
  have hb9 : Below wr.heap.size wr (w8.alloc (.cells #[.slice (some ⟨g8, 0, none⟩) xs.length c8] 55)) := hb8.trans (((Below.refl _ _).alloc (Nat.le_refl _) _).mono hb8.size)
  have hbr2 : Below wr.heap.size wr w2 := hb9.trans (hb2.mono hb9.size)
  have hB2 := hBr.below hbr2
  have s1 := hBr.sz
  have s2 := hb8.size
  have s3 := hb2.size
  have s4 := hbr2.size
  have hpp : One w2 w8.heap.size (.slice (some ⟨g8, 0, none⟩) xs.length c8) 55 := (hb2.block _ (by omega)).trans (heap_alloc_new w8 _)
  have nK : ∀ k, w.heap.size ≤ k → k < w8.heap.size + 1 → ¬ Kept w.heap.size (w8.heap.size + 1) w2.heap.size k := by
    intro k h1 h2 h
    rcases h with h | h <;> omega
  have hps := pstack_any (base := w.heap.size) (lo := w8.heap.size + 1) (Po := w.heap.size + 1 + 1 + 1 + 1) (Pp := w8.heap.size) (Pg := w.heap.size + 1 + 1 + 1 + 1 + 1) (Ps := w.heap.size + 1) (g := g8) (cp := c8) (by omega) (by omega) (by omega) (by omega) skip D n v (some ⟨g, 0, none⟩) cg xs w2 (by omega) (by omega) hcnt
    (by
      rw [hz9] at ht
      exact ht.bound.mono (fun k hk => .inr hk)) ⟨_, hB2.po, R_empty hB2.pe (by omega) (nK _ (by omega) (by omega))⟩ hB2.pg hB2.ps hall
    (Kd.R_mono (Kd.R_below (Kd.R_bound hO) hbr2) (fun k hk => nK k hk.2.1 (by have := hk.2.2.1; omega))) hpp
    (Kd.R_mono (Kd.R_lower (base' := w.heap.size) (Kd.R_below (Kd.R_bound hR8) (((Below.refl _ _).alloc (Nat.le_refl _) _).trans (hb2.mono (by simp)))) hBr.bl.size) (fun k hk => ⟨nK k (by have h1 := hk.2.1; have := hBr.bl.size; omega) (by have := hk.2.2.1; omega), fun e => by
      have h1 := Kd.R_lt hO k e.symm
      have h2 := hk.2.1
      omega⟩))
  refine hps.mono ?_
  rintro e W' ⟨rfl, ⟨vo, h1⟩, h2, h3⟩
  refine ⟨rfl, ⟨vo, h1.out, Kd.R_mono h1.row (fun _ _ h => h)⟩, h2, ?_⟩
  exact hB2.bl.trans ⟨h3.os, h3.tape, h3.output, h3.size, fun k hk => h3.block k (.inl hk) (by have := hB2.bl.size; omega)⟩
set_option maxHeartbeats 2000000 in
set_option maxRecDepth 100000 in
theorem stacked_any (S : Nat → ByteArray) (D : Nat) (hD : D ≤ 800) (n : S24) (A : Option Addr) (c : Nat) (skip : ByteArray) (m : Nat) (hm : m ≤ 50) (w : World) (hg : Good S D n) (hcnt : cnt D n ≤ 90000) (hr : Kd.C k24 w A n.f2.length n.f2) (hc : n.f2.length ≤ c) (hT : TokTab S w) :
    Calls Tryz.prog 18 #[.agg #[.string n.f0, .string n.f1, .slice A n.f2.length c], .string skip, .int .i64 (m : Int)] w fun e w' => ∃ v0_, e = .returned (.tuple #[v0_, .bool true]) ∧ Kd.R k29 29 w' w.heap.size (fun _ => True) v0_ (prL skip D m n) ∧ Below w.heap.size w w' := by
  have HG := Aside0.mk hg
  have HCN := Aside0.mk hcnt
  have HR := Aside0.mk hr
  have HC := Aside0.mk hc
  have HT := Aside0.mk hT
  clear hg hcnt hr hc hT
  go_enter Tryz.func18, Tryz.ntmps18
  obtain ⟨hbx, he43⟩ := bx_new w n.f0 n.f1 (.slice A n.f2.length c) skip
  have HBX := Aside0.mk hbx
  have HE := Aside0.mk he43
  clear hbx he43
  go_wp2
  go_loopg [9, 15] m (fun kq v9 v15 w' => ∃ (i : Nat) (xs : List (Nat × Nat)) (g cg : Nat), v15 = .int .i64 (i : Int) ∧ v9 = .slice (some ⟨g, 0, none⟩) i cg ∧ i ≤ m ∧ Hid (kq = m - i) ∧ Hid (xs.length = i) ∧ Aside0 (Kd.R kI 43 w' w.heap.size (fun _ => True) (.slice (some ⟨g, 0, none⟩) i cg) xs) ∧ Aside0 (∀ p, p ∈ xs → OkN p.1) ∧ Aside0 (Bx w n.f0 n.f1 (.slice A n.f2.length c) skip w'))
  case atStart => exact ⟨0, [], _, _, rfl, rfl, Nat.zero_le _, rfl, rfl, ⟨R_emptyI HE.out (by omega) trivial⟩, ⟨fun p hp => by simp at hp⟩, HBX⟩
  case round =>
    clear HBX HE
    obtain ⟨i, xs, g, cg, rfl, rfl, hi, HMS, HX, HO, HALL, HBX⟩ := hrel
    by_cases hlt : i < m
    · have p0 : (0 : Int) ≤ (i : Int) := by omega
      have p1 : (i : Int) < (m : Int) := by omega
      go_wp2_with (first
        | (go_at_call 28; (with_reducible refine (newIdent_any _ _).mono ?_); rintro e w1 ⟨b1, rfl, _, _, hb1⟩; have HB1 := Aside0.mk hb1; have HBX1 := Aside0.mk (HBX.out.below hb1); clear hb1)
        | ((with_reducible refine gate_builtin (b := .append) (xs := #[.tmp 17, .tmp 20]) rfl ?_); at_builtin; refine Kd.R_append kI (w0 := w) w.heap.size rfl (.tmp 17) (.tmp 20) 55 43 .nilIface 16 rfl Tryz.underlying55 info43 rfl (by decide) (by omega) (.slice (some ⟨g, 0, none⟩) i cg) xs (56, b1) [.iface 56 (.pointer (some ⟨b1, 0, none⟩))] (fun _ => True) (fun _ => False) rfl (by first | rfl | (go_simp; done) | (go_simp; rfl)) ?aP (fun _ hk => hk.elim) ?aF ?aO ?aB ?aS ?aL ?_; (case aP => rfl); (case aF => exact (fun _ _ => trivial)); (case aO => exact Kd.R_below HO.out HB1.out); (case aB => exact HBX1.out.bl); (case aS => exact HBX1.out.bl.size); (case aL => have := HX.out; omega); intro v8 w8 hR hB hG hA; obtain ⟨A8, c8, hv8⟩ := Kd.R_slice hR; obtain ⟨g8, hg8⟩ := some_of_hat hv8 hA hR; subst hg8; rw [List.length_append, List.length_singleton, HX.out] at hv8; subst hv8; have HR8 := Aside0.mk hR; have HBX8 := Aside0.mk (HBX1.out.grown (Kd.R_below HO.out HB1.out) hB hG); clear hR hB hG hA))
      go_roundg (gk - 1)
      case measure => have := HMS.out; omega
      case rel => exact ⟨i + 1, xs ++ [(56, b1)], g8, c8, by go_num, by rfl, by omega, by have := HMS.out; show _ = _; omega, by have := HX.out; show _ = _; simp; exact this, HR8, ⟨all_snoc HALL.out (by decide)⟩, HBX8⟩
    · have p1 : ¬ (i : Int) < (m : Int) := by omega
      have him : i = m := by omega
      subst him
      have HE7 : Aside0 (Kd.R kI 43 (wr.alloc (.cells #[] 43)) wr.heap.size (fun k => wr.heap.size ≤ k) (.slice (some ⟨wr.heap.size, 0, none⟩) 0 0) []) := ⟨R_emptyI (heap_alloc_new wr _) (Nat.le_refl _) (Nat.le_refl _)⟩
      have HB7 : Aside0 (Below wr.heap.size wr (wr.alloc (.cells #[] 43))) := ⟨(Below.refl _ _).alloc (Nat.le_refl _) _⟩
      have HRR : Aside0 (ReadsRow (fun (x : Nat × Nat) cs => cs = [encI x]) 1 (wr.alloc (.cells #[] 43)) (some ⟨g, 0, none⟩) i xs) := by
        obtain ⟨_, _, h3⟩ := Kd.R_reads' HO.out
        have h4 := Kd.C_below h3 HB7.out
        rw [HX.out] at h4
        exact ⟨h4⟩
      go_wp2_with (first
        | ((with_reducible refine gate_builtin (b := .append) (xs := #[.tmp 23, .tmp 24]) rfl ?_); at_builtin; refine Kd.R_append_rows kI (Rr := fun (x : Nat × Nat) cs => cs = [encI x]) (w0 := wr) wr.heap.size rfl (.tmp 23) (.tmp 24) 55 43 .nilIface 16 rfl Tryz.underlying55 info43 rfl (by decide) (by decide) (.slice (some ⟨wr.heap.size, 0, none⟩) 0 0) [] xs (some ⟨g, 0, none⟩) i cg (fun k => wr.heap.size ≤ k) (fun _ => False) rfl rfl HE7.out HRR.out (fun _ _ h => h) (fun _ h => h.elim) ?rF HB7.out ?rS ?rL ?_; (case rF => exact fun k_ hk => (by have := HB7.out.size; omega)); (case rS => exact HB7.out.size); (case rL => simp; omega); intro v8 w8 hR hB hG hA; obtain ⟨A8, c8, hv8⟩ := Kd.R_slice hR; obtain ⟨g8, hg8⟩ := some_of_hat hv8 hA hR; subst hg8; rw [List.nil_append] at hR hv8; rw [HX.out] at hv8; subst hv8; have HR8 := Aside0.mk hR; have HB8 := Aside0.mk hB; have HBX8 := Aside0.mk (HBX.out.below hB); have hbw : Below w.heap.size w (w8.alloc (.cells #[.slice (some ⟨g8, 0, none⟩) i c8] 55)) := HBX8.out.bl.trans (((Below.refl _ _).alloc (Nat.le_refl _) _).mono HBX8.out.bl.size); have HN := Aside0.mk (node_any S D n A c _ HG.out (Kd.C_below HR.out hbw) HC.out (HT.out.below hbw)); have HBX9 := Aside0.mk (HBX8.out.below ((Below.refl w8.heap.size w8).alloc (Nat.le_refl _) (.cells #[.slice (some ⟨g8, 0, none⟩) i c8] 55))); have q0 := (blk_cell HBX9.out.nb 0).trans (show _ = some (Value.string n.f0) from rfl); have q1 := (blk_cell HBX9.out.nb 1).trans (show _ = some (Value.string n.f1) from rfl); have q2 := (blk_cell HBX9.out.nb 2).trans (show _ = some (Value.slice A n.f2.length c) from rfl); clear hR hB hG hA hbw)
        | (go_at_call 22; (with_reducible refine HN.out.mono ?_); rintro e w2 ⟨v1, rfl, ht1, hb1⟩; have HPS := Aside0.mk (stack_call (skip := skip) HX.out hm HCN.out HBX.out HB8.out HO.out HR8.out HALL.out ht1 hb1); obtain ⟨T1, b1, rfl⟩ := ht1.form; clear hb1 ht1)
        | (go_at_call 29; (with_reducible refine HPS.out.mono ?_); rintro e w3 ⟨rfl, ho3, hg3, hb3⟩; obtain ⟨vo, ho3⟩ := ho3; have HO3 := Aside0.mk ho3; have HB3 := Aside0.mk hb3; obtain ⟨A3, c3, rfl⟩ := Kd.R_slice ho3.row; have e2 := cell_of_one ho3.out; have e3 := cell_of_one hg3; clear ho3 hg3 hb3))
      go_quiet (fail)
      go_wp2
      go_ret2
      exact ⟨_, rfl, Kd.R_mono (Kd.R_drewN HO3.out.row _) (fun _ _ => trivial), pw_below_drewN HB3.out _⟩
end Go.Proofs.YtdcaabjkklppjaaGreatFmt.A.St
/- impl.Stacked: its contract in the print's form. -/
namespace Go.Proofs.YtdcaabjkklppjaaGreatFmt.A
open Go.RowKit Go.Proofs.YtdcaabjkklppjaaGreatFmtW.PrintWords Go.Proofs.YtdcaabjkklppjaaGreatFmtW.PrintLast Go.Proofs.YtdcaabjkklppjaaGreatFmtW.PrintMore
set_option linter.unusedVariables false
set_option linter.unusedSimpArgs false

theorem nodesL_take (a1 : Int) (a2 : Bool) (l : List S29) : ∀ i, i ≤ l.length → nodesL a1 a2 l i = (l.take i).flatMap (nodeL a1 a2)
  | 0, _ => by simp [nodesL]
  | i + 1, h => by
    rw [nodesL, nodesL_take a1 a2 l i (by omega), List.take_add_one, List.getElem?_eq_getElem (by omega), List.flatMap_append]
    unfold rd_T29
    rw [Int.toNat_natCast, List.getD_eq_getElem?_getD, List.getElem?_eq_getElem (by omega)]
    simp
theorem nodesL_all (a1 : Int) (a2 : Bool) (l : List S29) : nodesL a1 a2 l l.length = l.flatMap (nodeL a1 a2) := by
  rw [nodesL_take a1 a2 l _ (Nat.le_refl _), List.take_length]
theorem w64_big {d : Int} (h0 : -100000 ≤ d) (h1 : d ≤ 100000) : wrap64 d = d := by
  have h2 : d = ((d + 100000).toNat : Int) - 100000 := by omega
  unfold wrap64
  omega
theorem nodeL_some (a1 : Int) {k t : ByteArray} {d : Int} (h : ¬ k.toList = ([] : List UInt8)) : nodeL a1 false ⟨k, t, d⟩ = [⟨k, t, wrap64 (d + a1)⟩] := by
  unfold nodeL
  rw [if_neg h]
  simp
theorem nodeL_end (a1 : Int) (d : Int) : nodeL a1 false ⟨⟨#[]⟩, ⟨#[]⟩, d⟩ = [] := by
  unfold nodeL
  have h : (⟨#[]⟩ : ByteArray).toList = ([] : List UInt8) := by decide +kernel
  exact if_pos h
theorem kindB_pos {S : Nat → ByteArray} {D : Nat} {n : S24} (h : Good S D n) : ¬ (kindB n).toList = ([] : List UInt8) := by
  unfold kindB
  split
  · decide +kernel
  · rcases h.kind with h | h | h | h | h | h | h | h <;> rw [h] <;> decide +kernel
theorem catTo_flat {α β : Type} (f : α → List β) (g : Nat → List α) : ∀ m, (catTo g m).flatMap f = catTo (fun i => (g i).flatMap f) m
  | 0 => rfl
  | m + 1 => by rw [catTo, List.flatMap_append, catTo_flat f g m, catTo]
theorem catTo_eq {α : Type} {f g : Nat → List α} : ∀ m, (∀ i, i < m → f i = g i) → catTo f m = catTo g m
  | 0, _ => rfl
  | m + 1, h => by rw [catTo, catTo, catTo_eq m (fun i hi => h i (by omega)), h m (by omega)]
theorem pr_insp {S : Nat → ByteArray} (skip : ByteArray) (a : Nat) (ha : a ≤ 100) : ∀ (D : Nat) (n : S24) (d : Nat), Good S D n → d + D ≤ 900 → (inspL skip D (d : Int) n).flatMap (nodeL (a : Int) false) = St.prL skip D (d + a) n
  | 0, n, d, h, _ => h.elim
  | D + 1, n, d, h, hd => by
    have hw : ∀ x : Nat, x ≤ 900 → wrap64 ((x : Int) + (a : Int)) = ((x + a : Nat) : Int) := by
      intro x hx
      rw [w64_big (by omega) (by omega)]
      omega
    rw [inspL, St.prL, List.flatMap_cons, nodeL_some _ (kindB_pos h), hw d (by omega)]
    rw [List.singleton_append]
    congr 1
    split
    · rfl
    · rw [List.flatMap_append, List.flatMap_append, catTo_flat]
      have hk : catTo (fun i => (inspL skip D ((d : Int) + 1) (rd_T24 n.f2 (i : Int))).flatMap (nodeL (a : Int) false)) (nk n) = catTo (fun i => St.prL skip D (d + a + 1) (rd_T24 n.f2 (i : Int))) (nk n) := by
        refine catTo_eq _ (fun i hi => ?_)
        have hkid : Good S D (rd_T24 n.f2 (i : Int)) := by
          unfold Good at h
          unfold nk at hi
          split at hi
          · omega
          · next hno =>
            rcases h.2 with h2 | h2
            · exact absurd h2 hno
            · exact h2 i hi
        have := pr_insp skip a ha D (rd_T24 n.f2 (i : Int)) (d + 1) hkid (by omega)
        rw [show ((d : Int) + 1) = ((d + 1 : Nat) : Int) by omega, this, show d + 1 + a = d + a + 1 by omega]
      rw [hk]
      have hs : (if n.f0 = bSel then leafL skip ((d : Int) + 1) n.f1 else []).flatMap (nodeL (a : Int) false) = (if n.f0 = bSel then [(⟨bName, n.f1, ((d + a + 1 : Nat) : Int)⟩ : S29)] else []) := by
        split
        · unfold leafL
          rw [List.flatMap_cons, nodeL_some _ (by decide +kernel), show ((d : Int) + 1) = ((d + 1 : Nat) : Int) by omega, hw (d + 1) (by omega), show d + 1 + a = d + a + 1 by omega]
          split
          · rfl
          · rw [List.flatMap_cons, nodeL_end]
            rfl
        · rfl
      rw [hs, List.flatMap_cons, nodeL_end]
      simp
/-- The nodes among the visits of Inspect, so many deeper. -/
def stackL (skip : ByteArray) (n : S24) (a2 : Int) : List S29 := nodesL a2 false (inspL skip 12 0 n) (inspL skip 12 0 n).length
open Classical in
noncomputable def impl_Stacked.f (a0_0 : ByteArray) (a0_1 : ByteArray) (l0_2 : List S24) (a1 : ByteArray) (a2 : Int) : Option (List S29 × Bool) := if Good tokS 12 ⟨a0_0, a0_1, l0_2⟩ ∧ cnt 12 ⟨a0_0, a0_1, l0_2⟩ ≤ 90000 ∧ 0 ≤ a2 ∧ a2 ≤ 50 then some (stackL a1 ⟨a0_0, a0_1, l0_2⟩ a2, true) else none
theorem impl_Stacked.calls (a0_0 : ByteArray) (a0_1 : ByteArray) (A0_2 : Option Addr) (c0_2 : Nat) (l0_2 : List S24) (a1 : ByteArray) (a2 : Int) (r0 : List S29) (r1 : Bool) (w : World) (hr0_2 : Kd.C k24 w A0_2 l0_2.length l0_2) (hc0_2 : l0_2.length ≤ c0_2) (hT : TokTab tokS w) (h : impl_Stacked.f a0_0 a0_1 l0_2 a1 a2 = some (r0, r1)) :
    Calls Tryz.prog 18 #[.agg #[.string a0_0, .string a0_1, .slice A0_2 l0_2.length c0_2], .string a1, .int .i64 a2] w fun e w' => ∃ v0_, e = .returned (.tuple #[v0_, .bool r1]) ∧ Kd.R k29 29 w' w.heap.size (fun _ => True) v0_ r0 ∧ Below w.heap.size w w' := by
  unfold impl_Stacked.f at h
  split at h
  next hg =>
    obtain ⟨h1, h2, h3, h4⟩ := hg
    have hr := Option.some.inj h
    simp only [Prod.mk.injEq] at hr
    obtain ⟨e0, e1⟩ := hr
    subst e1
    subst e0
    obtain ⟨m, rfl⟩ : ∃ m : Nat, a2 = (m : Int) := ⟨a2.toNat, by omega⟩
    have hc := St.stacked_any tokS 12 (by omega) ⟨a0_0, a0_1, l0_2⟩ A0_2 c0_2 a1 m (by omega) w h1 h2 hr0_2 hc0_2 hT
    have he : stackL a1 ⟨a0_0, a0_1, l0_2⟩ (m : Int) = St.prL a1 12 m ⟨a0_0, a0_1, l0_2⟩ := by
      unfold stackL
      rw [nodesL_all]
      have := pr_insp (S := tokS) a1 m (by omega) 12 ⟨a0_0, a0_1, l0_2⟩ 0 h1 (by omega)
      rw [Nat.zero_add] at this
      exact this
    rw [he]
    exact hc
  next => cases h
end Go.Proofs.YtdcaabjkklppjaaGreatFmt.A
