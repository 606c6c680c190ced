import Derived.Test.YtdmeackaiamkcaaA2
import Derived.WalkSpells
import Derived.Deep.RegionLaw
import Derived.Deep.DrawnRows
namespace Go.Proofs.Ytdmeackaiamkcaa.A
set_option linter.unusedVariables false
set_option linter.unusedSimpArgs false
open Go.RowKit Go.Proofs.YtdmeackaiamkcaaW.PrintWords Go.Proofs.YtdmeackaiamkcaaW.PrintLast Go.Proofs.YtdmeackaiamkcaaW.PrintMore
attribute [local go_sem ↓] Go.wp_at_zero Go.wp_at_succ

theorem info49 : (Try.prog.info? 49).map (fun i => (i.zero, i.size, i.bytes)) = some (some (.pointer none), 1, 8) := by kernel_rfl

theorem cell_al {w : World} {p : Addr} {v : Value} (h : w.cell? p = some v) (o : Obj) : (w.alloc o).cell? p = some v := (World.cell?_of_block (w := w) (Below.heap_alloc w o _ (World.block_lt_of_cell? w _ h))).trans h
theorem cell_dr {w : World} {p : Addr} {v : Value} (h : w.cell? p = some v) : w.drew.cell? p = some v := h
theorem fz_dr {w : World} {p : Addr} (h : w.frozen? p = false) : w.drew.frozen? p = false := h
theorem fz_al {w : World} {p : Addr} {v : Value} (h : w.frozen? p = false) (hc : w.cell? p = some v) (o : Obj) : (w.alloc o).frozen? p = false := (World.frozen?_of_block (w := w) (Below.heap_alloc w o _ (World.block_lt_of_cell? w _ hc))).trans h
theorem fz_al2 {w : World} {p : Addr} {v : Value} (h : w.frozen? p = false) (hc : w.cell? p = some v) (o1 o2 : Obj) : ((w.alloc o1).alloc o2).frozen? p = false := fz_al (fz_al h hc o1) (cell_al hc o1) o2
theorem fz_al3 {w : World} {p : Addr} {v : Value} (h : w.frozen? p = false) (hc : w.cell? p = some v) (o1 o2 o3 : Obj) : (((w.alloc o1).alloc o2).alloc o3).frozen? p = false := fz_al (fz_al2 h hc o1 o2) (cell_al (cell_al hc o1) o2) o3

/-- An error's cells. -/
def errCells (x : S26) : Array Value := #[.string x.f0, .int .i64 0, .int .i64 x.f1, .int .i64 x.f2, .string x.f3]

/-- A list of errors in memory: its row of pointers, and the errors' blocks. -/
structure EL (W : World) (base : Nat) (v : Value) (ps : List Nat) (l : List S26) : Prop where
  own : W.ownsRow base 49 1 v l.length (ps.map fun p => Value.pointer (some ⟨p, 0, none⟩))
  len : ps.length = l.length
  err : ∀ (i : Nat) (p : Nat) (x : S26), ps[i]? = some p → l[i]? = some x → W.heap[p]? = some (.cells (errCells x) 52 (0, 0))

theorem EL.below {W W1 : World} {base : Nat} {v : Value} {ps : List Nat} {l : List S26} (G : EL W base v ps l) (hb : Below W.heap.size W W1) : EL W1 base v ps l :=
  ⟨pw_own_below G.own hb, G.len, fun i p x hi hx => blk_below (G.err i p x hi hx) hb⟩

theorem EL.set {W : World} {base : Nat} {v : Value} {ps : List Nat} {l : List S26} (G : EL W base v ps l) {q t : Nat} {cs : Array Value} (hq : W.heap[q]? = some (.cells cs t (0, 0))) (h49 : 49 ≠ t) (h52 : 52 ≠ t) (j : Nat) (u : Value) : EL (W.setCell ⟨q, j, none⟩ u) base v ps l :=
  ⟨own_setCell G.own (own_ne G.own hq h49) _, G.len, fun i p x hi hx => by
    have h := G.err i p x hi hx
    exact blk_far h (blk_ne h hq h52) _⟩

/-- One error more. -/
theorem EL.push {W W3 w1 : World} {base pf gg cap : Nat} {v : Value} {ps : List Nat} {l : List S26} {x : S26} (G : EL W base v ps l) (hb : Below W.heap.size W W3) (hx : W3.heap[pf]? = some (.cells (errCells x) 52 (0, 0)))
    (hown1 : w1.ownsRow base 49 1 (.slice (some ⟨gg, 0, none⟩) (l.length + 1) cap) (l.length + 1) (ps.map (fun p => Value.pointer (some ⟨p, 0, none⟩)) ++ [.pointer (some ⟨pf, 0, none⟩)]))
    (hgrow : W3.grownBy w1 v.ownBlock) : EL w1 base (.slice (some ⟨gg, 0, none⟩) (l.length + 1) cap) (ps ++ [pf]) (l ++ [x]) := by
  have G3 := G.below hb
  have hl := G.len
  refine ⟨?_, by simp [hl], ?_⟩
  · rw [List.length_append, List.map_append]
    exact hown1
  · intro i p y hi hy
    by_cases hik : i < l.length
    · rw [List.getElem?_append_left (by omega)] at hi hy
      have h := G3.err i p y hi hy
      exact blk_grown h hgrow (own_ne G3.own h (by decide))
    · have hik : i = l.length := by
        have := (List.getElem?_eq_some_iff.1 hi).1
        simp at this
        omega
      subst hik
      rw [List.getElem?_append_right (by omega)] at hi hy
      simp [hl] at hi
      simp at hy
      subst hi
      subst hy
      exact blk_grown hx hgrow (own_ne G3.own hx (by decide))

set_option maxHeartbeats 4000000 in
set_option maxRecDepth 100000 in
theorem add_any (q base : Nat) (v : Value) (ps : List Nat) (l : List S26) (x : S26) (w : World) (hq : w.heap[q]? = some (.cells #[v] 36 (0, 0))) (hbq : base ≤ q) (G : EL w base v ps l) (hl : l.length ≤ 1000000) :
    Calls Try.prog 31 #[.pointer (some ⟨q, 0, none⟩), .agg #[.string x.f0, .int .i64 0, .int .i64 x.f1, .int .i64 x.f2], .string x.f3] w fun e w' => ∃ v' p, e = .returned (.tuple #[]) ∧ w'.heap[q]? = some (.cells #[v'] 36 (0, 0)) ∧ EL w' base v' (ps ++ [p]) (l ++ [x]) ∧ Below base w w' := by
  obtain ⟨i0, hi0, hz0, hz1, hz2⟩ := info_parts info49
  have hv : w.cell? ⟨q, 0, none⟩ = some v := blk_cell hq 0
  have hgf : w.frozen? ⟨q, 0, none⟩ = false := blk_frozen hq 0
  have hgo := blk_lt hq
  have nn0 := World.new_ne w _ hv
  have hgo1 : q < w.heap.size + 1 := by omega
  have hgo2 : q < w.heap.size + 1 + 1 := by omega
  have hgo3 : q < w.heap.size + 1 + 1 + 1 := by omega
  have ne1 : Hid (some q ≠ v.ownBlock) := own_ne G.own hq (by decide)
  have hnew : Hid (∀ (o1 o2 : Obj) (j : Nat) (u : Value), [Value.pointer (some ⟨w.heap.size + 1, 0, none⟩)][j]? = some u → ((((w.alloc o1).alloc o2).alloc (.cells #[.pointer (some ⟨w.heap.size + 1, 0, none⟩)] 49)).drew).cell? ((⟨w.heap.size + 1 + 1, 0, none⟩ : Addr).add j) = some u) := by
    intro o1 o2 j u hj
    have := World.news_of_block (cs := #[.pointer (some ⟨w.heap.size + 1, 0, none⟩)]) (t := 49) (fr := (0, 0)) (heap_alloc_new ((w.alloc o1).alloc o2) _) j u hj
    simpa using this
  have HG := Aside0.mk G
  have HQ := Aside0.mk hq
  have HO := Aside0.mk G.own
  clear G hq
  go_enter Try.func31, Try.ntmps31
  go_wp2
  go_region_law
    ((refine step_append_lies _ (by rfl) _ _ _ (by rfl) base 49 i0 _ 1 8 Try.underlying36 hi0 hz0 hz1 hz2 rfl (by omega) v l.length _ (by rfl) ((((HO.out.alloc _).alloc _).alloc _).drew)
        ⟨w.heap.size + 1 + 1, 0, none⟩ 1 1 [.pointer (some ⟨w.heap.size + 1, 0, none⟩)] (by rfl) (by rfl) (hnew.out _ _) (by simp [Value.oneCell'])
        (by omega) (by unfold maxLen; omega) (by omega) (by simp; omega) (w.heap.size + 1 + 1 + 1) (by simp) ?_; intro gg cap w1 hown1 hgrow hat hltb; have hc1 : w1.cell? ⟨q, 0, none⟩ = some v := hgrow.cell (cell_dr (cell_al (cell_al (cell_al hv _) _) _)) ne1.out; have hf1 : w1.frozen? ⟨q, 0, none⟩ = false := (hgrow.frozen_far _ (by simp; omega) ne1.out).trans (fz_dr (fz_al3 hgf hv _ _ _))))
  all_goals
    go_wp2
    go_end0
    have b3 := below_drew (below_alloc (below_alloc (below_alloc (Below.refl w.heap.size w) (.cells #[.string x.f0, .int .i64 0, .int .i64 x.f1, .int .i64 x.f2] 47)) (.cells (errCells x) 52)) (.cells #[.pointer (some ⟨w.heap.size + 1, 0, none⟩)] 49))
    have hx : ((((w.alloc (.cells #[.string x.f0, .int .i64 0, .int .i64 x.f1, .int .i64 x.f2] 47)).alloc (.cells (errCells x) 52)).alloc (.cells #[.pointer (some ⟨w.heap.size + 1, 0, none⟩)] 49)).drew).heap[w.heap.size + 1]? = some (.cells (errCells x) 52 (0, 0)) := by
      show (((w.alloc _).alloc _).alloc _).heap[w.heap.size + 1]? = _
      rw [Below.heap_alloc _ _ _ (by simp)]
      have := heap_alloc_new (w.alloc (.cells #[.string x.f0, .int .i64 0, .int .i64 x.f1, .int .i64 x.f2] 47)) (.cells (errCells x) 52)
      simpa using this
    have G1 := HG.out.push b3 hx hown1 hgrow
    have hq1 := blk_grown (blk_below HQ.out b3) hgrow ne1.out
    refine ⟨_, _, rfl, by simpa using blk_set hq1 0 _, G1.set hq1 (by decide) (by decide) _ _, ?_⟩
    exact (((b3.mono (by omega)).grown hgrow (by simp; omega) (fun k hk => own_base HO.out k hk)).setCell hbq _)

theorem rd26 {l : List S26} {k : Nat} (h : k < l.length) : rd_T26 l (k : Int) = l[k] := by
  unfold rd_T26
  simp [h]

theorem take26 {l : List S26} {k : Nat} (h : k < l.length) : l.take (k + 1) = l.take k ++ [rd_T26 l (k : Int)] := by
  rw [rd26 h, List.take_succ_eq_append_getElem h]

set_option maxHeartbeats 4000000 in
set_option maxRecDepth 100000 in
theorem listOf_any (A : Option Addr) (c : Nat) (l : List S26) (w : World) (hr : Kd.C k26 w A l.length l) (hc : l.length ≤ c) (hlen : l.length ≤ 1000000) :
    Calls Try.prog 22 #[.slice A l.length c] w fun e w' => ∃ v ps, e = .returned v ∧ EL w' w.heap.size v ps l ∧ Below w.heap.size w w' := by
  have HR := Aside0.mk hr
  clear hr
  go_enter Try.func22, Try.ntmps22
  go_wp2
  obtain ⟨q, hq⟩ : ∃ q, q = w.heap.size + 1 := ⟨_, rfl⟩
  rw [← hq]
  have HQ := Aside0.mk hq
  clear hq
  go_loopg [9] l.length (fun kq v9 w' => ∃ k : Nat, v9 = .int .i64 k ∧ k ≤ l.length ∧ Hid (kq = l.length - k) ∧ Aside0 (∃ v ps, w'.heap[q]? = some (.cells #[v] 36 (0, 0)) ∧ EL w' w.heap.size v ps (l.take k)) ∧ Aside0 (Below w.heap.size w w'))
  case atStart =>
    refine ⟨0, by simp, Nat.zero_le _, rfl, ⟨.slice (some ⟨w.heap.size, 0, none⟩) 0 0, [], ?_, ⟨?_, rfl, ?_⟩⟩, ⟨below_alloc (below_alloc (Below.refl _ _) _) _⟩⟩
    · rw [HQ.out]
      have := heap_alloc_new (w.alloc (.cells #[] 49)) (.cells #[.slice (some ⟨w.heap.size, 0, none⟩) 0 0] 36)
      simpa using this
    · exact (World.ownsRow_made w #[] 0 (Nat.le_refl _) (by unfold maxLen; omega) rfl).alloc _
    · intro i p x h; simp at h
  case round =>
    obtain ⟨k, rfl, hk, HM, HG, HB⟩ := hrel
    by_cases hlt : k < l.length
    · obtain ⟨ad, eA, hx0, hx1, hx2, hx3⟩ := at_T26 HR.out (k : Int) (by omega) (by omega)
      cases eA
      replace hx0 := (HB.out.cell (World.block_lt_of_cell? w _ hx0)).trans hx0
      replace hx1 := (HB.out.cell (World.block_lt_of_cell? w _ hx1)).trans hx1
      replace hx2 := (HB.out.cell (World.block_lt_of_cell? w _ hx2)).trans hx2
      replace hx3 := (HB.out.cell (World.block_lt_of_cell? w _ hx3)).trans hx3
      simp only [Int.toNat_natCast] at hx0 hx1 hx2 hx3
      have HT := Aside0.mk (take26 hlt)
      obtain ⟨x, hx⟩ : ∃ x, rd_T26 l (k : Int) = x := ⟨_, rfl⟩
      rw [hx] at hx0 hx1 hx2 hx3 HT
      clear hx
      have p0 : (0 : Int) ≤ (k : Int) := by omega
      have p1 : (k : Int) < (l.length : Int) := by omega
      obtain ⟨v, ps, hq, G⟩ := HG.out
      have HGG := Aside0.mk G
      have HQQ := Aside0.mk hq
      have HS := Aside0.mk HB.out.size
      have HLT := Aside0.mk (show (l.take k).length ≤ 1000000 by simp; omega)
      have HP := Aside0.mk (fun w => impl_positionOf.calls x.f0 x.f1 x.f2 x.f3 x.f0 0 x.f1 x.f2 w rfl)
      clear G hq HG
      go_wp2
      go_region_with (first
        | (go_at_call 32; refine (HP.out _).mono ?_; rintro e w1 ⟨rfl, hb1⟩; have hc0 : w1.cell? ⟨wr.heap.size, 3, none⟩ = some (.string x.f3) := (hb1.cell (p := ⟨wr.heap.size, 3, none⟩) (by simp)).trans (by simp); have HB1 := Aside0.mk (below_then (below_drew (below_alloc (Below.refl wr.heap.size wr) _)) (by simp) hb1 : Below wr.heap.size wr w1); clear hb1)
        | (go_at_call 31; refine (add_any q w.heap.size v ps (l.take k) x _ (blk_below HQQ.out HB1.out) (by have := HQ.out; omega) (HGG.out.below HB1.out) HLT.out).mono ?_; rintro e w2 ⟨v', p, rfl, hq2, G2, hb2⟩))
      all_goals
        go_wp2
        go_roundg (gk - 1)
        case measure => have := HM.out; omega
        case rel =>
          refine ⟨k + 1, by go_num, by omega, by have := HM.out; show _ = _; omega, ⟨v', ps ++ [p], hq2, ?_⟩, ⟨?_⟩⟩
          · rw [HT.out]; exact G2
          · exact (HB.out.trans (HB1.out.mono HS.out)).trans hb2
    · obtain ⟨v, ps, hq, G⟩ := HG.out
      rw [List.take_of_length_le (by omega)] at G
      have hv : wr.cell? ⟨q, 0, none⟩ = some v := blk_cell hq 0
      have HGG := Aside0.mk G
      clear G hq
      go_wp2
      go_ret
      exact ⟨v, ps, rfl, HGG.out, HB.out⟩
end Go.Proofs.Ytdmeackaiamkcaa.A
