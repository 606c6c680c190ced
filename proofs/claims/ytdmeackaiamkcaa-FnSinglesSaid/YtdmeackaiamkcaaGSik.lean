import Derived.Test.YtdmeackaiamkcaaGSij
namespace Go.Proofs.Ytdmeackaiamkcaa.A
set_option linter.unusedVariables false
set_option linter.unusedSimpArgs false
open Go.RowKit Go.Proofs.YtdmeackaiamkcaaW.PrintWords Go.Proofs.YtdmeackaiamkcaaW.PrintLast Go.Proofs.YtdmeackaiamkcaaW.PrintMore
open Go.Sort (SWO Holds putRow putCells mapBlock grow onCells pdq PermIn SortedIn heap_grow_old)

/-- sort.Sort at a pointer to a list of errors. -/
theorem ptr_sort_any (q base : Nat) (v : Value) (ps : List Nat) (l : List S26) (w : World) (hq : w.heap[q]? = some (.cells #[v] 36 (0, 0))) (G : EL w base v ps l) (hn : l.length ≤ 1000000) :
    Calls Try.prog 33 #[.iface 53 (.pointer (some ⟨q, 0, none⟩))] w fun e w' => e = .returned (.tuple #[]) ∧ (∃ ps', EL w' base v ps' (sortedBy l)) ∧ w'.heap[q]? = some (.cells #[v] 36 (0, 0)) ∧ Below base w w' := by
  by_cases h : l.length ≤ 1
  · obtain ⟨A, c, rfl⟩ := G.slice
    have hs : sortedBy l = l := by unfold sortedBy; rw [if_pos h]
    rw [hs]
    exact (ptr_Sort_tiny A l.length c q w h hq).mono fun e w' ⟨he, k, hw⟩ => ⟨he, by subst hw; exact ⟨⟨ps, G.below (pw_below_drewN (Below.refl _ _) _)⟩, hq, pw_below_drewN (Below.refl _ _) _⟩⟩
  · obtain ⟨b, cap, p, hv, hb, _⟩ := G.elem 0 (by omega)
    subst hv
    obtain ⟨cells, hc⟩ := G.block
    have hblk := blk_lt hc
    have hsz : (List.range l.length).toArray.size = l.length := by simp
    have hne : q ≠ b := by
      intro e
      rw [e, hc] at hq
      injection hq with hq
      injection hq with _ hq
      exact absurd hq (by decide)
    have C : PS (encP ps) (ltOf l) w (.slice (some ⟨b, 0, none⟩) l.length cap) b q l.length :=
      ⟨by have := err_LessM G (by omega) hn; rw [hsz] at this; exact this, err_SwapM b cap l.length ps (by omega), ⟨_, hsz, G.holds⟩, hblk, hq, hne, hn⟩
    refine (ptr_Sort_many (some ⟨b, 0, none⟩) cap C (swo_ltOf l) ⟨SW.start G.holds, hsz⟩ (by omega)).mono fun e w' ⟨he, hR⟩ => ?_
    have hq' := hR.hdr C
    obtain ⟨k, os, hw⟩ := hR.sw
    have hw : w' = grow (putRow (encP ps) (Go.Sort.ahead w k) b 0 (ordOf l)) os := by rw [hw]; unfold ordOf sortWorld; rw [List.toArray_range]
    refine ⟨he, ?_, hq', ?_⟩
    · subst hw
      exact ⟨_, G.sorted (by omega) k os⟩
    · subst hw
      exact (Below.refl base w).grown (grownBy_sortedP _) (by omega) (fun k hk => by injection hk with hk; omega)

/-- A store of one of the list's own errors at an earlier place. -/
theorem EL.put {W : World} {base b c : Nat} {ps : List Nat} {l : List S26} (G : EL W base (.slice (some ⟨b, 0, none⟩) l.length c) ps l) {k p : Nat} {x : S26} (hp : ps[k]? = some p) (hx : l[k]? = some x) (i : Nat) (hi : i < l.length) :
    EL (W.setCell ⟨b, i, none⟩ (.pointer (some ⟨p, 0, none⟩))) base (.slice (some ⟨b, 0, none⟩) l.length c) (ps.set i p) (l.set i x) := by
  obtain ⟨cells, hc⟩ := G.block
  have hl := G.len
  have hown := G.own
  rw [← hl] at hown
  have h1 := own_put_of (enc := fun p : Nat => Value.pointer (some ⟨p, 0, none⟩)) (xs := ps) hown (i : Int) p
  refine ⟨?_, by simp [hl], ?_⟩
  · simp only [Int.toNat_natCast] at h1
    rw [show (ps.set i p).length = l.length by simp [hl], hl] at h1
    rw [show (l.set i x).length = l.length by simp]
    exact h1
  · intro j p' x' hj hx'
    have key : W.heap[p']? = some (.cells (errCells x') 52 (0, 0)) := by
      by_cases hij : i = j
      · subst hij
        rw [List.getElem?_set_self (by omega)] at hj hx'
        cases hj
        cases hx'
        exact G.err k p x hp hx
      · rw [List.getElem?_set_ne hij] at hj hx'
        exact G.err j p' x' hj hx'
    exact blk_far key (blk_ne key hc (by decide)) _

theorem EL.take {W : World} {base : Nat} {A : Option Addr} {n c : Nat} {ps : List Nat} {l : List S26} (G : EL W base (.slice A n c) ps l) (i : Nat) (hi : i ≤ l.length) : EL W base (.slice A i c) (ps.take i) (l.take i) := by
  have hl := G.len
  obtain ⟨A', c', hv⟩ := own_slice G.own
  injection hv with hA hn hc
  subst hn
  have h := own_take G.own hi
  refine ⟨?_, by simp [hl], fun j p x hj hx => ?_⟩
  · rw [show (l.take i).length = i by simp; omega, List.map_take]
    simpa using h
  · rw [List.getElem?_take] at hj hx
    split at hj
    · rw [if_pos (by assumption)] at hx
      exact G.err j p x hj hx
    · cases hj

/-- The errors without multiples: those whose file or line differs from the one kept last. -/
def sg (f : ByteArray) (n : Int) : List S26 → List S26
  | [] => []
  | x :: xs => if x.f0.toList = f.toList ∧ x.f1 = n then sg f n xs else x :: sg x.f0 x.f1 xs

theorem drop_step {lk m : List S26} {k : Nat} {x : S26} (h : lk.drop k = m.drop k) (hx : rd_T26 lk (k : Int) = x) (hk : k < lk.length) (hm : k < m.length) : m.drop k = x :: m.drop (k + 1) := by
  rw [← h, List.drop_eq_getElem_cons hk, ← rd26 hk, hx]
  congr 1
  rw [← List.drop_drop, h, List.drop_drop]

theorem get_of_rd {l : List S26} {k : Nat} {x : S26} (h : rd_T26 l (k : Int) = x) (hk : k < l.length) : l[k]? = some x := by
  rw [← h, rd26 hk, List.getElem?_eq_getElem hk]

theorem take_set_succ {l : List S26} {i : Nat} {x : S26} (h : i < l.length) : (l.set i x).take (i + 1) = l.take i ++ [x] := by
  rw [List.take_succ_eq_append_getElem (by simpa using h)]
  congr 1
  · rw [List.take_set_of_le (Nat.le_refl _)]
  · simp

/-- The world behind a round that keeps an error. -/
theorem keep_step {wr : World} {base q b c LB nq : Nat} {psk : List Nat} {lk m : List S26} {w : World} {f : ByteArray} {ln cl : Int} {k p : Nat} {x : S26}
    (G : EL wr base (.slice (some ⟨b, 0, none⟩) lk.length c) psk lk) (hq : wr.heap[q]? = some (.cells #[.slice (some ⟨b, 0, none⟩) m.length c] 36 (0, 0))) (hl : wr.heap[LB]? = some (.cells #[.string f, .int .i64 0, .int .i64 ln, .int .i64 cl] 47 (0, 0))) (B : Below base w wr)
    (hp : psk[k]? = some p) (hx : lk[k]? = some x) (i : Nat) (hi : i < lk.length) (hbb : base ≤ LB) :
    EL ((((((wr.drewN nq).setCell ⟨LB, 0, none⟩ (.string x.f0)).setCell ⟨LB, 1, none⟩ (.int .i64 0)).setCell ⟨LB, 2, none⟩ (.int .i64 x.f1)).setCell ⟨LB, 3, none⟩ (.int .i64 x.f2)).setCell ⟨b, i, none⟩ (.pointer (some ⟨p, 0, none⟩))) base (.slice (some ⟨b, 0, none⟩) lk.length c) (psk.set i p) (lk.set i x) ∧
    ((((((wr.drewN nq).setCell ⟨LB, 0, none⟩ (.string x.f0)).setCell ⟨LB, 1, none⟩ (.int .i64 0)).setCell ⟨LB, 2, none⟩ (.int .i64 x.f1)).setCell ⟨LB, 3, none⟩ (.int .i64 x.f2)).setCell ⟨b, i, none⟩ (.pointer (some ⟨p, 0, none⟩))).heap[q]? = some (.cells #[.slice (some ⟨b, 0, none⟩) m.length c] 36 (0, 0)) ∧
    ((((((wr.drewN nq).setCell ⟨LB, 0, none⟩ (.string x.f0)).setCell ⟨LB, 1, none⟩ (.int .i64 0)).setCell ⟨LB, 2, none⟩ (.int .i64 x.f1)).setCell ⟨LB, 3, none⟩ (.int .i64 x.f2)).setCell ⟨b, i, none⟩ (.pointer (some ⟨p, 0, none⟩))).heap[LB]? = some (.cells #[.string x.f0, .int .i64 0, .int .i64 x.f1, .int .i64 x.f2] 47 (0, 0)) ∧
    Below base w ((((((wr.drewN nq).setCell ⟨LB, 0, none⟩ (.string x.f0)).setCell ⟨LB, 1, none⟩ (.int .i64 0)).setCell ⟨LB, 2, none⟩ (.int .i64 x.f1)).setCell ⟨LB, 3, none⟩ (.int .i64 x.f2)).setCell ⟨b, i, none⟩ (.pointer (some ⟨p, 0, none⟩))) := by
  obtain ⟨b', cap', p', hv, hbase, _⟩ := G.elem i hi
  injection hv with hv h9 hcap
  injection hv with hv
  injection hv with hv h8 h7
  subst hv
  clear h9 h8 h7 hcap
  obtain ⟨cells, hc⟩ := G.block
  have hbLB : b ≠ LB := blk_ne hc hl (by decide)
  have hqb : q ≠ b := Ne.symm (blk_ne hc hq (by decide))
  have hqLB : q ≠ LB := blk_ne hq hl (by decide)
  have G0 := G.below (pw_below_drewN (Below.refl wr.heap.size wr) nq)
  have l0 : (wr.drewN nq).heap[LB]? = _ := hl
  have q0 : (wr.drewN nq).heap[q]? = _ := hq
  have B0 : Below base w (wr.drewN nq) := B.trans (pw_below_drewN (Below.refl _ _) _)
  clear G hq hl hc B
  generalize wr.drewN nq = v0 at G0 l0 q0 B0 ⊢
  have l1 := blk_put l0 0 (.string x.f0) rfl
  have l2 := blk_put l1 1 (.int .i64 0) rfl
  have l3 := blk_put l2 2 (.int .i64 x.f1) rfl
  have l4 := blk_put l3 3 (.int .i64 x.f2) rfl
  have G4 := (((G0.set l0 (by decide) (by decide) 0 (.string x.f0)).set l1 (by decide) (by decide) 1 (.int .i64 0)).set l2 (by decide) (by decide) 2 (.int .i64 x.f1)).set l3 (by decide) (by decide) 3 (.int .i64 x.f2)
  have q4 := blk_far (blk_far (blk_far (blk_far q0 (p := ⟨LB, 0, none⟩) hqLB (.string x.f0)) (p := ⟨LB, 1, none⟩) hqLB (.int .i64 0)) (p := ⟨LB, 2, none⟩) hqLB (.int .i64 x.f1)) (p := ⟨LB, 3, none⟩) hqLB (.int .i64 x.f2)
  have B1 : Below base w (v0.setCell ⟨LB, 0, none⟩ (.string x.f0)) := B0.setCell hbb _
  have B2 : Below base w ((v0.setCell ⟨LB, 0, none⟩ (.string x.f0)).setCell ⟨LB, 1, none⟩ (.int .i64 0)) := B1.setCell hbb _
  have B3 : Below base w (((v0.setCell ⟨LB, 0, none⟩ (.string x.f0)).setCell ⟨LB, 1, none⟩ (.int .i64 0)).setCell ⟨LB, 2, none⟩ (.int .i64 x.f1)) := B2.setCell hbb _
  have B4 : Below base w ((((v0.setCell ⟨LB, 0, none⟩ (.string x.f0)).setCell ⟨LB, 1, none⟩ (.int .i64 0)).setCell ⟨LB, 2, none⟩ (.int .i64 x.f1)).setCell ⟨LB, 3, none⟩ (.int .i64 x.f2)) := B3.setCell hbb _
  exact ⟨G4.put hp hx i hi, blk_far q4 (p := ⟨b, i, none⟩) hqb _, blk_far l4 (p := ⟨b, i, none⟩) (Ne.symm hbLB) _, B4.setCell hbase _⟩

set_option maxHeartbeats 4000000 in
set_option maxRecDepth 100000 in
theorem remove_any (q base : Nat) (A : Option Addr) (c : Nat) (ps : List Nat) (l : List S26) (w : World) (hq : w.heap[q]? = some (.cells #[.slice A l.length c] 36 (0, 0))) (hbq : base ≤ q) (G : EL w base (.slice A l.length c) ps l) (hn : l.length ≤ 1000000) :
    Calls Try.prog 30 #[.pointer (some ⟨q, 0, none⟩)] w fun e w' => ∃ v' ps', e = .returned (.tuple #[]) ∧ w'.heap[q]? = some (.cells #[v'] 36 (0, 0)) ∧ EL w' base v' ps' (sg ⟨#[]⟩ 0 (sortedBy l)) ∧ Below base w w' := by
  have HS := ptr_sort_any q base _ ps l w hq G hn
  have hlen := sortedBy_length l
  obtain ⟨m, hm⟩ : ∃ m, sortedBy l = m := ⟨_, rfl⟩
  rw [hm] at HS hlen ⊢
  rw [← hlen] at HS hn
  clear hm G hq hlen
  go_enter Try.func30, Try.ntmps30
  go_wp2_with (go_at_call 33; refine HS.mono ?_; clear HS; rintro e w1 ⟨rfl, ⟨ps1, G1⟩, hq1, hB1⟩; have hv1 : w1.cell? ⟨q, 0, none⟩ = some (.slice A m.length c) := blk_cell hq1 0; have hgo : q < w1.heap.size := blk_lt hq1; have nn0 := World.new_ne w1 _ hv1; have HG1 := Aside0.mk G1; have HQ1 := Aside0.mk hq1; have HB1 := Aside0.mk hB1; clear G1 hq1 hB1)
  obtain ⟨LB, hLB⟩ : ∃ LB, LB = w1.heap.size := ⟨_, rfl⟩
  have hl0 : (w1.alloc (.cells #[.string ⟨#[]⟩, .int .i64 0, .int .i64 0, .int .i64 0] 47)).heap[LB]? = some (.cells #[.string ⟨#[]⟩, .int .i64 0, .int .i64 0, .int .i64 0] 47 (0, 0)) := by rw [hLB]; exact heap_alloc_new w1 _
  have hqne : LB ≠ q := by rw [hLB]; exact nn0
  have hbl : Below base w (w1.alloc (.cells #[.string ⟨#[]⟩, .int .i64 0, .int .i64 0, .int .i64 0] 47)) := HB1.out.trans ((below_alloc (Below.refl _ _) _).mono (by omega))
  have hG0 := HG1.out.below (below_alloc (Below.refl _ _) (.cells #[.string ⟨#[]⟩, .int .i64 0, .int .i64 0, .int .i64 0] 47))
  have hQ0 := blk_below HQ1.out (below_alloc (Below.refl _ _) (.cells #[.string ⟨#[]⟩, .int .i64 0, .int .i64 0, .int .i64 0] 47))
  have hbb : base ≤ LB := by rw [hLB]; exact Nat.le_trans hbq (by omega)
  rw [← hLB]
  generalize w1.alloc (.cells #[.string ⟨#[]⟩, .int .i64 0, .int .i64 0, .int .i64 0] 47) = w2 at hl0 hbl hG0 hQ0 ⊢
  clear hLB HG1 HQ1 HB1 hv1 hgo nn0
  go_loopg [3, 13] m.length (fun kq v3 v13 wr => ∃ (i k : Nat) (f : ByteArray) (ln cl : Int) (psk : List Nat) (lk : List S26), v3 = .int .i64 i ∧ v13 = .int .i64 k ∧ i ≤ k ∧ k ≤ m.length ∧ lk.length = m.length ∧ Hid (kq = m.length - k) ∧
      Aside0 (EL wr base (.slice A lk.length c) psk lk) ∧ Aside0 (wr.heap[q]? = some (.cells #[.slice A m.length c] 36 (0, 0))) ∧ Aside0 (wr.heap[LB]? = some (.cells #[.string f, .int .i64 0, .int .i64 ln, .int .i64 cl] 47 (0, 0))) ∧ Aside0 (Below base w wr) ∧
      Aside0 (lk.drop k = m.drop k) ∧ Aside0 (lk.take i ++ sg f ln (m.drop k) = sg ⟨#[]⟩ 0 m))
  case atStart => exact ⟨0, 0, ⟨#[]⟩, 0, 0, ps1, m, by simp, by simp, Nat.le_refl _, Nat.zero_le _, rfl, rfl, ⟨hG0⟩, ⟨hQ0⟩, ⟨hl0⟩, ⟨hbl⟩, ⟨rfl⟩, ⟨by simp⟩⟩
  case round =>
    clear hl0 hbl hG0 hQ0
    obtain ⟨i, k, f, ln, cl, psk, lk, rfl, rfl, hik, hkm, hlk, HM, HG, HQ, HL, HB, HD, HS⟩ := hrel
    have hl0 : wr.cell? ⟨LB, 0, none⟩ = some (.string f) := blk_cell HL.out 0
    have hl1 : wr.cell? ⟨LB, 1, none⟩ = some (.int .i64 0) := blk_cell HL.out 1
    have hl2 : wr.cell? ⟨LB, 2, none⟩ = some (.int .i64 ln) := blk_cell HL.out 2
    have hl3 : wr.cell? ⟨LB, 3, none⟩ = some (.int .i64 cl) := blk_cell HL.out 3
    have hlf0 : wr.frozen? ⟨LB, 0, none⟩ = false := blk_frozen HL.out 0
    have hlf1 : wr.frozen? ⟨LB, 1, none⟩ = false := blk_frozen HL.out 1
    have hlf2 : wr.frozen? ⟨LB, 2, none⟩ = false := blk_frozen HL.out 2
    have hlf3 : wr.frozen? ⟨LB, 3, none⟩ = false := blk_frozen HL.out 3
    have hq0 : wr.cell? ⟨q, 0, none⟩ = some (.slice A m.length c) := blk_cell HQ.out 0
    have hqf : wr.frozen? ⟨q, 0, none⟩ = false := blk_frozen HQ.out 0
    by_cases hlt : k < m.length
    · obtain ⟨b, cap', p, hv, _, hp, cp, _, xp⟩ := HG.out.elem k (by omega)
      injection hv with hv h9 hcap
      subst hv
      subst hcap
      clear h9
      obtain ⟨cells, hc⟩ := HG.out.block
      have hbne : LB ≠ b := Ne.symm (blk_ne hc HL.out (by decide))
      have hbq2 : q ≠ b := Ne.symm (blk_ne hc HQ.out (by decide))
      obtain ⟨x, hx⟩ : ∃ x, rd_T26 lk (k : Int) = x := ⟨_, rfl⟩
      rw [hx] at xp
      have hX := Aside0.mk hx
      clear hx
      have hpne : LB ≠ p := Ne.symm (blk_ne xp HL.out (by decide))
      have x0 : wr.cell? ⟨p, 0, none⟩ = some (.string x.f0) := blk_cell xp 0
      have x1 : wr.cell? ⟨p, 1, none⟩ = some (.int .i64 0) := blk_cell xp 1
      have x2 : wr.cell? ⟨p, 2, none⟩ = some (.int .i64 x.f1) := blk_cell xp 2
      have x3 : wr.cell? ⟨p, 3, none⟩ = some (.int .i64 x.f2) := blk_cell xp 3
      have p0 : (0 : Int) ≤ (k : Int) := by omega
      have p1 : (k : Int) < (m.length : Int) := by omega
      have i0 : (0 : Int) ≤ (i : Int) := by omega
      have i1 : (i : Int) < (m.length : Int) := by omega
      obtain ⟨b2, cap2, pi, hv2, _, _, ci, fi, _⟩ := HG.out.elem i (by omega)
      injection hv2 with hv2 h9 hcap
      injection hv2 with hv2
      injection hv2 with hv2 h8 h7
      subst hv2
      subst hcap
      clear h9 h8 h7
      have HP := Aside0.mk hp
      have HXP := Aside0.mk xp
      have A1 : Aside0 (i + 1 ≤ k + 1) := ⟨by omega⟩
      have A2 : Aside0 (k + 1 ≤ m.length) := ⟨by omega⟩
      have A3 : Aside0 (i ≤ k + 1) := ⟨by omega⟩
      have A4 : Hid (gk - 1 = m.length - (k + 1)) := by have := HM.out; show _ = _; omega
      have A5 : Aside0 (gk - 1 < gk) := ⟨by have := HM.out; omega⟩
      have hD : Aside0 (m.drop k = x :: m.drop (k + 1)) := ⟨drop_step HD.out hX.out (by omega) (by omega)⟩
      have hxk : Aside0 (lk[k]? = some x) := ⟨get_of_rd hX.out (by omega)⟩
      have hD2 : Aside0 (lk.drop (k + 1) = m.drop (k + 1)) := ⟨by rw [← List.drop_drop, HD.out, List.drop_drop]⟩
      have hD3 : Aside0 ((lk.set i x).drop (k + 1) = m.drop (k + 1)) := ⟨by rw [List.drop_set_of_lt (by omega)]; exact hD2.out⟩
      have hT : Aside0 ((lk.set i x).take (i + 1) = lk.take i ++ [x]) := ⟨take_set_succ (by omega)⟩
      have hlk2 : Aside0 ((lk.set i x).length = m.length) := ⟨by rw [List.length_set]; exact hlk⟩
      have hil : Aside0 (i < lk.length) := ⟨by omega⟩
      clear hp xp hc
      by_cases h0 : x.f0.toList = f.toList
      · by_cases h1 : x.f1 = ln
        · have e0 : (x.f0.toList == f.toList) = true := by simpa using h0
          have e1 : (x.f1 == ln) = true := by simpa using h1
          go_wp2
          go_quiet (fail)
          go_wp2
          go_roundg (gk - 1)
          case measure => exact A5.out
          case rel =>
            refine ⟨i, k + 1, f, ln, cl, psk, lk, rfl, by go_num, A3.out, A2.out, hlk, A4, ⟨HG.out.below (pw_below_drewN (Below.refl _ _) _)⟩, ⟨HQ.out⟩, ⟨HL.out⟩, ⟨HB.out.trans ((pw_below_drewN (Below.refl _ _) _))⟩, hD2, ⟨?_⟩⟩
            have := HS.out
            rw [hD.out] at this
            simpa only [sg, h0, h1, and_self, if_true] using this
        · have e0 : (x.f0.toList == f.toList) = true := by simpa using h0
          have e1 : (x.f1 == ln) = false := by simpa using h1
          go_wp2
          go_quiet (fail)
          go_wp2
          go_roundg (gk - 1)
          case measure => exact A5.out
          case rel =>
            obtain ⟨G2, Q2, L2, B2⟩ := keep_step (nq := nq) HG.out HQ.out HL.out HB.out HP.out hxk.out i hil.out hbb
            refine ⟨i + 1, k + 1, x.f0, x.f1, x.f2, psk.set i p, lk.set i x, by go_num, by go_num, A1.out, A2.out, hlk2.out, A4, ⟨by rw [List.length_set]; exact G2⟩, ⟨Q2⟩, ⟨L2⟩, ⟨B2⟩, hD3, ⟨?_⟩⟩
            have := HS.out
            rw [hD.out] at this
            rw [hT.out, ← this, sg, if_neg (fun g => h1 g.2)]
            simp
      · have e0 : (x.f0.toList == f.toList) = false := by simpa using h0
        go_wp2
        go_quiet (fail)
        go_wp2
        go_roundg (gk - 1)
        case measure => exact A5.out
        case rel =>
          obtain ⟨G2, Q2, L2, B2⟩ := keep_step (nq := nq) HG.out HQ.out HL.out HB.out HP.out hxk.out i hil.out hbb
          refine ⟨i + 1, k + 1, x.f0, x.f1, x.f2, psk.set i p, lk.set i x, by go_num, by go_num, A1.out, A2.out, hlk2.out, A4, ⟨by rw [List.length_set]; exact G2⟩, ⟨Q2⟩, ⟨L2⟩, ⟨B2⟩, hD3, ⟨?_⟩⟩
          have := HS.out
          rw [hD.out] at this
          rw [hT.out, ← this, sg, if_neg (fun g => h0 g.1)]
          simp
    · have hkk : k = m.length := by omega
      have hic : i ≤ c := by have := own_le HG.out.own; omega
      have hil : Aside0 (i ≤ lk.length) := ⟨by omega⟩
      have i0 : (0 : Int) ≤ (i : Int) := by omega
      have i1 : (i : Int) ≤ (c : Int) := by omega
      have hS := HS.out
      rw [List.drop_of_length_le (by omega), sg, List.append_nil] at hS
      have HS2 := Aside0.mk hS
      have p1 : ¬ ((k : Int) < (m.length : Int)) := by omega
      clear hS
      go_wp2
      go_end0
      refine ⟨rfl, _, by simpa using blk_set HQ.out 0 _, ⟨psk.take i, ?_⟩, HB.out.setCell hbq _⟩
      rw [← HS2.out]
      exact (HG.out.take i hil.out).set HQ.out (by decide) (by decide) 0 _

/-- impl.Singles at a list of few errors. -/
def impl_Singles.f (l0 : List S26) : Option (List S26) := if l0.length ≤ 50 then some (sg ⟨#[]⟩ 0 (sortedBy l0)) else none

theorem sg_length (f : ByteArray) (n : Int) (l : List S26) : (sg f n l).length ≤ l.length := by
  induction l generalizing f n with
  | nil => simp [sg]
  | cons x xs ih =>
    rw [sg]
    split
    · have := ih f n; simp; omega
    · have := ih x.f0 x.f1; simp; omega

set_option maxHeartbeats 2000000 in
theorem impl_Singles.calls (A0 : Option Addr) (c0 : Nat) (l0 : List S26) (r : List S26) (w : World) (hr0 : Kd.C k26 w A0 l0.length l0) (hc0 : l0.length ≤ c0) (h : impl_Singles.f l0 = some r) :
    Calls Try.prog 20 #[.slice A0 l0.length c0] w fun e w' => ∃ v0_ : Value, e = .returned v0_ ∧ Kd.R k26 26 w' w.heap.size (fun _ => True) v0_ r ∧ Below w.heap.size w w' := by
  unfold impl_Singles.f at h
  split at h
  next hb =>
    have h := Option.some.inj h
    have hrl : r.length ≤ 1000000 := by rw [← h]; have := sg_length ⟨#[]⟩ 0 (sortedBy l0); rw [sortedBy_length] at this; omega
    have HL := listOf_any A0 c0 l0 w hr0 hc0 (by omega)
    clear hr0
    go_enter Try.func20, Try.ntmps20
    go_wp2_with fail
    refine HL.mono ?_
    rintro e w1 ⟨v, ps, rfl, G, hB⟩
    obtain ⟨A, c, rfl⟩ := G.slice
    have HB := Aside0.mk hB
    have HG := Aside0.mk G
    clear G hB HL
    go_wp2_with fail
    refine (remove_any w1.heap.size w.heap.size A c ps l0 _ (heap_alloc_new w1 _) HB.out.size (HG.out.below (below_alloc (Below.refl _ _) _)) (by omega)).mono ?_
    rintro e w2 ⟨v', ps', rfl, hq2, G2, hB2⟩
    rw [h] at G2
    have hcell : w2.cell? ⟨w1.heap.size, 0, none⟩ = some v' := blk_cell hq2 0
    have HB1 := Aside0.mk ((HB.out.trans ((below_alloc (Below.refl _ _) (.cells #[.slice A l0.length c] 36)).mono HB.out.size)).trans hB2)
    have HF := faultsOf_any _ v' ps' r w2 G2 hrl
    clear hq2 G2 hB2 HG HB h
    go_wp2_with (go_at_call 25; refine HF.mono ?_; clear HF; rintro e w3 ⟨v'', rfl, F, hB3⟩; have HF3 := Aside0.mk F; have HB3 := Aside0.mk hB3; clear F hB3)
    go_ret
    exact ⟨_, rfl, (HF3.out.lower HB1.out.size).row, HB1.out.trans (HB3.out.mono HB1.out.size)⟩
  next => cases h
end Go.Proofs.Ytdmeackaiamkcaa.A
