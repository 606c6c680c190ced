import Derived.Test.YteaelkeiocogfaaGGroup
import Derived.Deep.DrawnRows
namespace Go.Proofs.Yteaelkeiocogfaa.A
set_option linter.unusedVariables false
set_option linter.unusedSimpArgs false
open Go.RowKit Go.Proofs.YteaelkeiocogfaaW.PrintWords Go.Proofs.YteaelkeiocogfaaW.PrintLast Go.Proofs.YteaelkeiocogfaaW.PrintMore
attribute [local go_sem ↓] Go.wp_at_zero Go.wp_at_succ

theorem info47 : (Try.prog.info? 47).map (fun i => (i.zero, i.size, i.bytes)) = some (some (.pointer none), 1, 8) := by kernel_rfl
theorem info48 : (Try.prog.info? 48).map (fun i => (i.zero, i.size, i.bytes)) = some (some (.pointer none), 1, 8) := by kernel_rfl

theorem newIdent (s : ByteArray) (w : World) : Calls Try.prog 24 #[.string s] w fun e w' => e = .returned (.pointer (some ⟨w.heap.size, 0, none⟩)) ∧ w.alloc (.cells #[.int .i64 0, .string s, .pointer none] 77) = w' := by
  go_enter Try.func24, Try.ntmps24
  go_wp2
  go_ret
  exact ⟨rfl, rfl⟩

theorem ret_int {k : IntKind} {a b : Int} (h : a = b) : Ending.returned (.int k a) = .returned (.int k b) := by rw [h]

def nm (n : Int) : Int := if n = 0 then 1 else n
def sumN : List Int → Int
  | [] => 0
  | n :: r => nm n + sumN r

/-- A list of fields in memory: of each field the number of its names is told. -/
structure FL (W : World) (base f : Nat) (v : Value) (ps : List Nat) (ns : List Int) : Prop where
  blk : W.heap[f]? = some (.cells #[.int .i64 0, v, .int .i64 0] 46 (0, 0))
  own : W.ownsRow base 47 1 v ns.length (ps.map fun p => Value.pointer (some ⟨p, 0, none⟩))
  len : ps.length = ns.length
  fld : ∀ (i : Nat) (p : Nat) (n : Int), ps[i]? = some p → ns[i]? = some n → ∃ a cap ty, W.heap[p]? = some (.cells #[.pointer none, .slice a n.toNat cap, ty, .pointer none, .pointer none] 55 (0, 0))

theorem sumN_bound : ∀ (l : List Int), (∀ x ∈ l, 0 ≤ x ∧ x ≤ 20) → 0 ≤ sumN l ∧ sumN l ≤ 20 * l.length
  | [], _ => by simp [sumN]
  | n :: r, h => by
    have ih := sumN_bound r (fun x hx => h x (List.mem_cons_of_mem _ hx))
    have := h n List.mem_cons_self
    simp only [sumN, nm, List.length_cons]
    split <;> omega

theorem sumN_append (l r : List Int) : sumN (l ++ r) = sumN l + sumN r := by
  induction l with
  | nil => simp [sumN]
  | cons n l ih => simp [sumN, ih]; omega

theorem FL.elem {W : World} {base f : Nat} {v : Value} {ps : List Nat} {ns : List Int} (G : FL W base f v ps ns) (i : Nat) (hi : i < ns.length) :
    ∃ b cap p a cap', v = .slice (some ⟨b, 0, none⟩) ns.length cap ∧ W.cell? ⟨b, i, none⟩ = some (.pointer (some ⟨p, 0, none⟩)) ∧ W.cell? ⟨p, 1, none⟩ = some (.slice a (rd ns (i : Int)).toNat cap') := by
  obtain ⟨b, cap, hv, _, _⟩ := G.own.form (by omega)
  have hip : i < ps.length := by rw [G.len]; exact hi
  obtain ⟨a, cap', ty, hb⟩ := G.fld i ps[i] ns[i] (by simp [hip]) (by simp [hi])
  refine ⟨b, cap, ps[i], a, cap', hv, ?_, ?_⟩
  · have := G.own.cells (g := b) (by rw [hv]; rfl) i (.pointer (some ⟨ps[i], 0, none⟩)) (by simp [hip])
    rwa [add_plain] at this
  · have h2 : rd ns (i : Int) = ns[i] := by simp [rd, hi]
    rw [h2]
    exact (blk_cell hb 1).trans rfl

set_option maxHeartbeats 2000000 in
theorem numFields_any (f : Nat) (v : Value) (ps : List Nat) (ns : List Int) (base : Nat) (w : World) (G : FL w base f v ps ns) (hl : ns.length ≤ 50) (hall : ∀ x ∈ ns, 0 ≤ x ∧ x ≤ 20) :
    Calls Try.prog 25 #[.pointer (some ⟨f, 0, none⟩)] w fun e w' => e = .returned (.int .i64 (sumN ns)) ∧ w = w' := by
  have hv : ∃ b cap, v = .slice b ns.length cap := own_slice G.own
  obtain ⟨b, cap, rfl⟩ := hv
  have hf : w.cell? ⟨f, 1, none⟩ = some (.slice b ns.length cap) := (blk_cell G.blk 1).trans rfl
  have HG := Aside0.mk G
  clear G
  go_enter Try.func25, Try.ntmps25
  go_wp2
  go_loop [3, 14] (fun s i => ∃ k : Nat, i = .int .i64 k ∧ k ≤ ns.length ∧ s = .int .i64 (sumN (ns.take k))) (fun _ i => ns.length - (intOf i).toNat)
  case atStart => exact ⟨0, rfl, Nat.zero_le _, rfl⟩
  case round =>
    obtain ⟨k, rfl, hk, rfl⟩ := hrel
    have hb := sumN_bound (ns.take k) (fun x hx => hall x (List.mem_of_mem_take hx))
    have hbl : (ns.take k).length ≤ 50 := by simp; omega
    by_cases hlt : k < ns.length
    · obtain ⟨b1, cap1, p, a, cap2, hv, he, hp⟩ := HG.out.elem k hlt
      injection hv with hv1 hv2 hv3
      subst hv1
      clear hv3 hv2
      have p0 : (0 : Int) ≤ (k : Int) := by omega
      have p1 : (k : Int) < (ns.length : Int) := by omega
      obtain ⟨n, hn⟩ : ∃ n, rd ns (k : Int) = n := ⟨_, rfl⟩
      have hn' : n = ns[k] := by rw [← hn]; simp [rd, hlt]
      have hn0 := hall n (by rw [hn']; exact List.getElem_mem _)
      have hstep : sumN (ns.take (k + 1)) = sumN (ns.take k) + nm n := by
        rw [List.take_succ_eq_append_getElem hlt, sumN_append, ← hn']; simp [sumN]
      rw [hn] at hp
      clear hn hn'
      have HS := Aside0.mk hstep
      clear hstep
      obtain ⟨m, rfl⟩ : ∃ m : Nat, n = m := ⟨n.toNat, by omega⟩
      rw [Int.toNat_natCast] at hp
      rcases Nat.eq_zero_or_pos m with rfl | hm
      · go_wp2
        go_round
        case rel => exact ⟨k + 1, by go_num, by omega, by rw [HS.out]; simp [nm]⟩
        case measure => simp [intOf]; omega
      · have hz : ((m : Int) == 0) = false := by rw [beq_eq_false_iff_ne]; omega
        have hn2 : nm (m : Int) = m := by unfold nm; rw [if_neg (by omega)]
        have HN := Aside0.mk hn2
        clear hn2
        go_wp2
        go_round
        case rel => exact ⟨k + 1, by go_num, by omega, by rw [HS.out, HN.out]⟩
        case measure => simp [intOf]; omega
    · have : ns.take k = ns := List.take_of_length_le (by omega)
      have HT := Aside0.mk this
      clear this
      go_wp2
      go_ret
      exact ⟨ret_int (by rw [HT.out]), rfl⟩

/-- The field that is being made: its block, and the row of its names. -/
structure Fld (W : World) (base p : Nat) (ty nv : Value) (k : Nat) : Prop where
  blk : W.heap[p]? = some (.cells #[.pointer none, nv, ty, .pointer none, .pointer none] 55 (0, 0))
  own : ∃ xs, W.ownsRow base 48 1 nv k xs

theorem FL.grown {W W1 : World} {base f : Nat} {v : Value} {ps : List Nat} {ns : List Int} {nv : Value} {k : Nat} {xs : List Value} (G : FL W base f v ps ns) (ho : W.ownsRow base 48 1 nv k xs) (hg : W.grownBy W1 nv.ownBlock) : FL W1 base f v ps ns := by
  refine ⟨blk_grown G.blk hg (own_ne ho G.blk (by decide)), ?_, G.len, ?_⟩
  · exact own_other G.own hg (own_type_ne G.own ho (by decide))
  · intro i p n hi hn
    obtain ⟨a, cap, ty, hb⟩ := G.fld i p n hi hn
    exact ⟨a, cap, ty, blk_grown hb hg (own_ne ho hb (by decide))⟩

theorem FL.below {W W1 : World} {base f : Nat} {v : Value} {ps : List Nat} {ns : List Int} (G : FL W base f v ps ns) (hb : Below W.heap.size W W1) : FL W1 base f v ps ns := by
  refine ⟨blk_below G.blk hb, pw_own_below G.own hb, G.len, ?_⟩
  intro i p n hi hn
  obtain ⟨a, cap, ty, h⟩ := G.fld i p n hi hn
  exact ⟨a, cap, ty, blk_below h hb⟩

theorem FL.set {W : World} {base f : Nat} {v : Value} {ps : List Nat} {ns : List Int} (G : FL W base f v ps ns) {q : Nat} {cs : Array Value} (hq : W.heap[q]? = some (.cells cs 55 (0, 0))) (hne : q ∉ ps) (j : Nat) (u : Value) : FL (W.setCell ⟨q, j, none⟩ u) base f v ps ns := by
  refine ⟨blk_far G.blk (blk_ne G.blk hq (by decide)) _, own_setCell G.own (own_ne G.own hq (by decide)) _, G.len, ?_⟩
  intro i p n hi hn
  obtain ⟨a, cap, ty, h⟩ := G.fld i p n hi hn
  have : p ≠ q := by rintro rfl; exact hne (List.mem_of_getElem? hi)
  exact ⟨a, cap, ty, blk_far h this _⟩

theorem FL.lt {W : World} {base f : Nat} {v : Value} {ps : List Nat} {ns : List Int} (G : FL W base f v ps ns) : ∀ p ∈ ps, p < W.heap.size := by
  intro p hp
  obtain ⟨i, hi, rfl⟩ := List.getElem_of_mem hp
  obtain ⟨a, cap, ty, h⟩ := G.fld i ps[i] (ns[i]'(by rw [← G.len]; exact hi)) (by simp [hi]) (by simp [← G.len, hi])
  exact blk_lt h

theorem FL.push {wr w1 : World} {base f pf gg cap : Nat} {v nv ty : Value} {ps : List Nat} {ns : List Int} {n : Int} {o : Obj} (G : FL wr base f v ps ns) (F : Fld wr base pf ty nv n.toNat)
    (hown1 : w1.ownsRow base 47 1 (.slice (some ⟨gg, 0, none⟩) (ns.length + 1) cap) (ns.length + 1) (ps.map (fun p => Value.pointer (some ⟨p, 0, none⟩)) ++ [.pointer (some ⟨pf, 0, none⟩)]))
    (hgrow : (wr.alloc o).grownBy w1 v.ownBlock) :
    FL (w1.setCell ⟨f, 1, none⟩ (.slice (some ⟨gg, 0, none⟩) (ns.length + 1) cap)) base f (.slice (some ⟨gg, 0, none⟩) (ns.length + 1) cap) (ps ++ [pf]) (ns ++ [n]) := by
  have old : ∀ {q : Nat} {x : Obj}, wr.heap[q]? = some x → some q ≠ v.ownBlock → w1.heap[q]? = some x := fun hq hne =>
    blk_grown (blk_below hq (below_alloc (Below.refl _ _) _)) hgrow hne
  have hf1 := old G.blk (own_ne G.own G.blk (by decide))
  have far : ∀ {q : Nat} {cs : Array Value}, wr.heap[q]? = some (.cells cs 55 (0, 0)) → (w1.setCell ⟨f, 1, none⟩ (.slice (some ⟨gg, 0, none⟩) (ns.length + 1) cap)).heap[q]? = some (.cells cs 55 (0, 0)) := by
    intro q cs h
    have h1 := old h (own_ne G.own h (by decide))
    exact blk_far h1 (p := ⟨f, 1, none⟩) (blk_ne h1 hf1 (by decide)) _
  refine ⟨?_, ?_, ?_, ?_⟩
  · have := blk_set hf1 1 (.slice (some ⟨gg, 0, none⟩) (ns.length + 1) cap)
    simpa using this
  · rw [List.length_append, List.map_append]
    exact own_setCell hown1 (own_ne hown1 hf1 (by decide)) _
  · simp [G.len]
  · intro i p x hi hx
    have hl := G.len
    by_cases hik : i < ns.length
    · rw [List.getElem?_append_left (by omega)] at hi hx
      obtain ⟨a, cap', ty', h⟩ := G.fld i p x hi hx
      exact ⟨a, cap', ty', far h⟩
    · have hik : i = ns.length := by
        have := (List.getElem?_eq_some_iff.1 hi).1
        simp at this
        omega
      subst hik
      rw [List.getElem?_append_right (by omega)] at hi hx
      simp [hl] at hi
      simp at hx
      subst hi
      subst hx
      obtain ⟨xs, ho⟩ := F.own
      obtain ⟨a, cap', rfl⟩ := own_slice ho
      exact ⟨a, cap', ty, far F.blk⟩

set_option maxHeartbeats 8000000 in
set_option maxRecDepth 100000 in
theorem numFields_made (A : Option Addr) (c : Nat) (l : List Int) (w : World) (hr : Kd.C (Kd.int .i64) w A l.length l) (hl : l.length ≤ 50) (hall : ∀ x ∈ l, 0 ≤ x ∧ x ≤ 20) :
    Calls Try.prog 11 #[.slice A l.length c] w fun e w' => e = .returned (.int .i64 (sumN l)) ∧ Below w.heap.size w w' := by
  obtain ⟨i0, hi0, hz0, hz1, hz2⟩ := info_parts info47
  obtain ⟨i1, hi1, hy0, hy1, hy2⟩ := info_parts info48
  have HR := Aside0.mk (Kd.reads_of_C (d := (0 : Int)) hr)
  have HA := Aside0.mk hall
  clear hr hall
  go_enter Try.func11, Try.ntmps11
  go_wp2
  go_loopg [11] l.length (fun kq v11 w' => ∃ k : Nat, v11 = .int .i64 k ∧ k ≤ l.length ∧ Hid (kq = l.length - k) ∧ Aside0 (∃ v ps, FL w' w.heap.size w.heap.size v ps (l.take k)) ∧ Aside0 (Below w.heap.size w w'))
  case atStart =>
    refine ⟨0, by simp, Nat.zero_le _, rfl, ⟨.slice none 0 0, [], ?_, ?_, ?_, ?_⟩, ⟨?_⟩⟩
    · exact heap_alloc_new w _
    · exact World.ownsRow_nil _ _ _ _
    · rfl
    · intro i p x h; simp at h
    · exact (Below.refl _ _).alloc (Nat.le_refl _) _
  case round =>
    obtain ⟨k, rfl, hk, HM, HG, HB⟩ := hrel
    by_cases hlt : k < l.length
    · have p0 : (0 : Int) ≤ (k : Int) := by omega
      have p1 : (k : Int) < (l.length : Int) := by omega
      obtain ⟨ad, eA, hcs⟩ := HR.out.2.2 (by omega)
      cases eA
      have hx0 := hcs k hlt
      clear hcs
      replace hx0 := (HB.out.cell (World.block_lt_of_cell? w _ hx0)).trans hx0
      obtain ⟨n, hn⟩ : ∃ n, l.getD k 0 = n := ⟨_, rfl⟩
      have hnm : n = l[k] := by rw [← hn]; simp [hlt]
      have hn0 := HA.out n (by rw [hnm]; exact List.getElem_mem _)
      rw [hn] at hx0
      have HN := Aside0.mk hnm
      clear hn hnm
      obtain ⟨m, rfl⟩ : ∃ m : Nat, n = m := ⟨n.toNat, by omega⟩
      go_wp2_with fail
      refine (newIdent _ _).mono ?_
      rintro e w1 ⟨rfl, rfl⟩
      obtain ⟨gO, hgO⟩ : ∃ gO : Nat, gO = gk := ⟨_, rfl⟩
      subst hgO
      obtain ⟨v, ps, G⟩ := HG.out
      have hpn : ∀ q ∈ ps, q ≠ wr.heap.size + 1 := fun q hq => by have := G.lt q hq; omega
      have HPN := Aside0.mk hpn
      have HW := Aside0.mk HB.out.size
      clear hpn HG
      have HG := Aside0.mk G
      clear G
      go_wp2_with fail
      obtain ⟨pf, hpf⟩ : ∃ pf, pf = wr.heap.size + 1 := ⟨_, rfl⟩
      obtain ⟨ty, hty⟩ : ∃ ty, ty = Value.iface 48 (.pointer (some ⟨wr.heap.size, 0, none⟩)) := ⟨_, rfl⟩
      rw [← hty, ← hpf]
      have HPF := Aside0.mk hpf
      clear hpf hty
      go_loopg [20] m (fun kj v20 wi => ∃ j : Nat, v20 = .int .i64 j ∧ j ≤ m ∧ Hid (kj = m - j) ∧ Aside0 (FL wi w.heap.size w.heap.size v ps (l.take k)) ∧ Aside0 (∃ nv, Fld wi w.heap.size pf ty nv j) ∧ Aside0 (Below w.heap.size w wi))
      case atStart =>
        refine ⟨0, by simp, Nat.zero_le _, rfl, ⟨(HG.out.below (below_alloc (below_alloc (Below.refl _ _) _) _))⟩, ⟨.slice none 0 0, ⟨?_, [], World.ownsRow_nil _ _ _ _⟩⟩, ⟨below_alloc (below_alloc HB.out _) _⟩⟩
        rw [HPF.out]
        have := heap_alloc_new (wr.alloc (.cells #[.int .i64 0, .string ⟨#[84]⟩, .pointer none] 77)) (.cells #[.pointer none, .slice none 0 0, ty, .pointer none, .pointer none] 55)
        simpa using this
      case round =>
        obtain ⟨wo, hwo⟩ : ∃ wo : World, wo = wr := ⟨_, rfl⟩
        clear hwo
        obtain ⟨j, rfl, hj, HM2, HG2, HF2, HB2⟩ := hrel
        clear HG HB
        by_cases hlt2 : j < m
        · obtain ⟨nv, F⟩ := HF2.out
          have hv : wr.cell? ⟨pf, 1, none⟩ = some nv := blk_cell F.blk 1
          have hgf : wr.frozen? ⟨pf, 1, none⟩ = false := blk_frozen F.blk 1
          have hgo := blk_lt F.blk
          have nn0 := World.new_ne wr _ hv
          have hgo1 : pf < wr.heap.size + 1 := by omega
          have hgo2 : pf < wr.heap.size + 1 + 1 := by omega
          obtain ⟨xs, hown⟩ := F.own
          have ne1 : Hid (some pf ≠ nv.ownBlock) := own_ne hown F.blk (by decide)
          have HO := Aside0.mk hown
          have HFF := Aside0.mk F
          clear hown
          have hnew : Hid (∀ (o1 : Obj) (j : Nat) (u : Value), [Value.pointer (some ⟨wr.heap.size, 0, none⟩)][j]? = some u → (((wr.alloc o1).alloc (.cells #[.pointer (some ⟨wr.heap.size, 0, none⟩)] 48)).drew).cell? ((⟨wr.heap.size + 1, 0, none⟩ : Addr).add j) = some u) := by
            intro o1 j u hj
            have := World.news_of_block (cs := #[.pointer (some ⟨wr.heap.size, 0, none⟩)]) (t := 48) (fr := (0, 0)) (heap_alloc_new (wr.alloc o1) _) j u hj
            simpa using this
          have hB1 := Aside0.mk HB2.out.size
          go_wp2_with fail
          go_region_law (first
            | (refine step_append_lies _ (by rfl) _ _ _ (by rfl) w.heap.size 48 i1 _ 1 8 Try.underlying50 hi1 hy0 hy1 hy2 rfl (by omega) nv j xs (by rfl) (((HO.out.alloc _).alloc _).drew)
                ⟨wr.heap.size + 1, 0, none⟩ 1 1 [.pointer (some ⟨wr.heap.size, 0, none⟩)] (by rfl) (by rfl) (hnew.out _) (by simp [Value.oneCell'])
                (by omega) (by unfold maxLen; omega) (by omega) (by have := hB1.out; simp; omega) (wr.heap.size + 1 + 1) (by simp) ?_; intro gg cap w1 hown1 hgrow hat hltb; have hc1 : w1.cell? ⟨pf, 1, none⟩ = some nv := hgrow.cell (cell_dr (cell_al (cell_al hv _) _)) ne1.out; have hf1 : w1.frozen? ⟨pf, 1, none⟩ = false := (hgrow.frozen_far _ (by simp; omega) ne1.out).trans (fz_dr (fz_al2 hgf hv _ _)))
            | (go_simp; go_at_call 24; refine (newIdent _ _).mono ?_; rintro e w' ⟨rfl, rfl⟩))
          all_goals
            go_wp2
            go_roundg (gk - 1)
            case measure => have := HM2.out; omega
            case rel =>
              have G1 : FL _ _ _ v ps (l.take k) := ((HG2.out.below (below_drew (below_alloc (below_alloc (Below.refl _ _) _) _))).grown (((HO.out.alloc _).alloc _).drew) hgrow)
              have b1 := blk_grown (w := _) (w1 := w1) (g := pf) (o := .cells #[.pointer none, nv, ty, .pointer none, .pointer none] 55 (0, 0)) (blk_below HFF.out.blk (below_drew (below_alloc (below_alloc (Below.refl _ _) _) _))) hgrow ne1.out
              have hm : pf ∉ ps := fun hq => HPN.out pf hq HPF.out
              refine ⟨j + 1, by go_num, by omega, by have := HM2.out; show _ = _; omega, ⟨G1.set b1 hm _ _⟩, ⟨_, ⟨by simpa using blk_set b1 1 _, _, own_setCell hown1 (own_ne hown1 b1 (by decide)) _⟩⟩, ⟨?_⟩⟩
              exact ((below_drew (below_alloc (below_alloc HB2.out _) _)).grown hgrow (by have := hB1.out; simp; omega) (fun k hk => own_base HO.out k hk)).setCell (by have := HW.out; have := HPF.out; show _ ≤ pf; omega) _
        · obtain ⟨nv, F⟩ := HF2.out
          have G := HG2.out
          have hv : wr.cell? ⟨w.heap.size, 1, none⟩ = some v := blk_cell G.blk 1
          have hgf : wr.frozen? ⟨w.heap.size, 1, none⟩ = false := blk_frozen G.blk 1
          have hgo := blk_lt G.blk
          have nn0 := World.new_ne wr _ hv
          have ne1 : Hid (some w.heap.size ≠ v.ownBlock) := own_ne G.own G.blk (by decide)
          have hlk : (l.take k).length = k := by simp; omega
          have HO : Aside0 (wr.ownsRow w.heap.size 47 1 v k (ps.map fun p => Value.pointer (some ⟨p, 0, none⟩))) := ⟨by have := G.own; rw [hlk] at this; exact this⟩
          have HLK := Aside0.mk hlk
          clear hlk
          have HGG := Aside0.mk G
          clear G
          have HFF := Aside0.mk F
          clear F
          have hB1 := Aside0.mk HB2.out.size
          have hjm : j = m := by omega
          subst hjm
          go_wp2_with (at_builtin; refine wpList_append_lies _ rfl _ _ _ rfl w.heap.size 47 i0 _ 1 8 Try.underlying44 hi0 hz0 hz1 hz2 rfl (by omega) v k _ rfl (HO.out.alloc _) ⟨wr.heap.size, 0, none⟩ 1 1 [.pointer (some ⟨pf, 0, none⟩)] rfl rfl (World.news_of_block (cs := #[.pointer (some ⟨pf, 0, none⟩)]) (t := 47) (fr := (0, 0)) (heap_alloc_new wr _)) (by simp [Value.oneCell']) (by omega) (by unfold maxLen; omega) (by omega) (by have := hB1.out; simp; omega) (wr.heap.size + 1) (by simp) ?_; intro gg cap w1 hown1 hgrow hat hltb; have hc1 : w1.cell? ⟨w.heap.size, 1, none⟩ = some v := hgrow.cell (cell_al hv _) ne1.out; have hf1 : w1.frozen? ⟨w.heap.size, 1, none⟩ = false := (hgrow.frozen_far _ (by simp; omega) ne1.out).trans (fz_al hgf hv _))
          go_roundg (gO - 1)
          case measure => have := HM.out; omega
          case rel =>
            refine ⟨k + 1, by go_num, by omega, by have := HM.out; show _ = _; omega, ⟨.slice (some ⟨gg, 0, none⟩) (k + 1) cap, ps ++ [pf], ?_⟩, ⟨?_⟩⟩
            · have e : l.take (k + 1) = l.take k ++ [(j : Int)] := by rw [List.take_succ_eq_append_getElem (by omega), HN.out]
              rw [e]
              have h1 := hown1
              have hlk := HLK.out
              rw [← hlk] at h1
              have := HGG.out.push (n := (j : Int)) HFF.out h1 hgrow
              rw [hlk] at this
              exact this
            · exact ((below_alloc HB2.out _).grown hgrow (by have := hB1.out; simp; omega) (fun k hk => own_base HO.out k hk)).setCell (Nat.le_refl _) _
    · obtain ⟨v, ps, G⟩ := HG.out
      have : l.take k = l := List.take_of_length_le (by omega)
      rw [this] at G
      have HF := numFields_any w.heap.size v ps l _ wr G hl HA.out
      clear G HG this
      go_wp2_with fail
      refine HF.mono ?_
      rintro e w1 ⟨rfl, rfl⟩
      go_wp2_with fail
      go_ret
      exact ⟨rfl, HB.out⟩

/-- impl.NumFields of few counts, each from 0 to 20. -/
def impl_NumFields.f (l0 : List Int) : Option Int := if l0.length ≤ 50 ∧ (∀ x ∈ l0, 0 ≤ x ∧ x ≤ 20) then some (sumN l0) else none

theorem impl_NumFields.calls (A0 : Option Addr) (c0 : Nat) (l0 : List Int) (r : Int) (w : World) (hr0 : Kd.C (Kd.int .i64) w A0 l0.length l0) (hc0 : l0.length ≤ c0) (h : impl_NumFields.f l0 = some r) :
    Calls Try.prog 11 #[.slice A0 l0.length c0] w fun e w' => e = .returned (.int .i64 r) ∧ Below w.heap.size w w' := by
  unfold impl_NumFields.f at h
  split at h
  next hb =>
    have h := Option.some.inj h
    subst h
    exact numFields_made A0 c0 l0 w hr0 hb.1 hb.2
  next => cases h
end Go.Proofs.Yteaelkeiocogfaa.A
