/- A group of comments in memory (carried over from the seat of comments). -/
import Derived.Test.YtcjiafjahfmdoaaDoorA0
import Derived.WalkSpells
import Derived.Deep.RegionLaw
import Derived.Deep.DrawnRows
namespace Go.Proofs.YtcjiafjahfmdoaaDoor.A
set_option linter.unusedVariables false
set_option linter.unusedSimpArgs false
attribute [local go_sem ↓] Go.wp_at_zero Go.wp_at_succ
open Go.RowKit Go.Proofs.YtcjiafjahfmdoaaDoorW.PrintWords Go.Proofs.YtcjiafjahfmdoaaDoorW.PrintLast Go.Proofs.YtcjiafjahfmdoaaDoorW.PrintMore

-- the values' own types
/-! #### struct type 25 -/
structure S25 where
  f0 : Int
  f1 : ByteArray
def z25 : S25 := ⟨(0 : Int), (⟨#[]⟩ : ByteArray)⟩
def k25 : Kd S25 := Kd.iso (Kd.pair (Kd.int .i64) Kd.string) (fun x : S25 => (x.f0, x.f1))
theorem k25_open {w : World} {x : S25} {cs : List Value} (h : k25.K w x cs) : cs = [.int .i64 x.f0, .string x.f1] := by
  obtain ⟨_, _, rfl, rfl, rfl⟩ := h
  exact rfl
theorem k25_openM {w : World} {base : Nat} {ok : Nat → Prop} {x : S25} {cs : List Value} (h : k25.M w base ok x cs) : cs = [.int .i64 x.f0, .string x.f1] := by
  obtain ⟨_, _, rfl, rfl, rfl⟩ := h
  exact rfl
theorem k25_mk (w : World) (x : S25)  : k25.K w x [.int .i64 x.f0, .string x.f1] := ⟨[.int .i64 x.f0], [.string x.f1], rfl, rfl, rfl⟩
theorem k25_mkM (w : World) (base : Nat) (ok : Nat → Prop) (x : S25)  : k25.M w base ok x [.int .i64 x.f0, .string x.f1] := ⟨[.int .i64 x.f0], [.string x.f1], rfl, rfl, rfl⟩
def rd_T25 (xs : List S25) (i : Int) : S25 := xs.getD i.toNat z25
theorem at_T25 {w : World} {A : Option Addr} {n : Nat} {xs : List S25} (h : Kd.C k25 w A n xs) (i : Int) (h0 : 0 ≤ i) (h1 : i < n) : ∃ ad , A = some ad ∧ w.cell? (ad.add (i.toNat * 2)) = some (.int .i64 (rd_T25 xs i).f0) ∧ w.cell? ⟨(ad.add (i.toNat * 2)).block, (ad.add (i.toNat * 2)).off + 1, none⟩ = some (.string (rd_T25 xs i).f1) := by
  obtain ⟨ad, c, e, _, hK, hc0⟩ := Kd.C_get h z25 i h0 h1
  have hc : ∀ j u, c[j]? = some u → w.cell? (ad.add (i.toNat * 2 + j)) = some u := hc0
  obtain rfl := k25_open hK
  exact ⟨ad, e, hc 0 _ rfl, by rw [← add_field _ _ 1 (by omega)]; exact hc 1 _ rfl⟩


theorem info72 : (Tryd.prog.info? 58).map (fun i => (i.zero, i.size, i.bytes)) = some (some (.pointer none), 1, 8) := by kernel_rfl

theorem cell_al {w : World} {p : Addr} {v : Value} (h : w.cell? p = some v) (o : Obj) : (w.alloc o).cell? p = some v := (World.cell?_of_block (w := w) (Below.heap_alloc w o _ (World.block_lt_of_cell? w _ h))).trans h
theorem cell_dr {w : World} {p : Addr} {v : Value} (h : w.cell? p = some v) : w.drew.cell? p = some v := h
theorem fz_dr {w : World} {p : Addr} (h : w.frozen? p = false) : w.drew.frozen? p = false := h
theorem fz_al {w : World} {p : Addr} {v : Value} (h : w.frozen? p = false) (hc : w.cell? p = some v) (o : Obj) : (w.alloc o).frozen? p = false := (World.frozen?_of_block (w := w) (Below.heap_alloc w o _ (World.block_lt_of_cell? w _ hc))).trans h
theorem fz_al2 {w : World} {p : Addr} {v : Value} (h : w.frozen? p = false) (hc : w.cell? p = some v) (o1 o2 : Obj) : ((w.alloc o1).alloc o2).frozen? p = false := fz_al (fz_al h hc o1) (cell_al hc o1) o2
theorem fz_al3 {w : World} {p : Addr} {v : Value} (h : w.frozen? p = false) (hc : w.cell? p = some v) (o1 o2 o3 : Obj) : (((w.alloc o1).alloc o2).alloc o3).frozen? p = false := fz_al (fz_al2 h hc o1 o2) (cell_al (cell_al hc o1) o2) o3
/-- A group of comments in memory: its block, its row of pointers, the comments' blocks, all from base on. -/
structure Grp (W : World) (base g : Nat) (v : Value) (ps : List Nat) (l : List S25) : Prop where
  blk : W.heap[g]? = some (.cells #[v] 57 (0, 0))
  own : W.ownsRow base 58 1 v l.length (ps.map fun p => Value.pointer (some ⟨p, 0, none⟩))
  len : ps.length = l.length
  com : ∀ (i : Nat) (p : Nat) (x : S25), ps[i]? = some p → l[i]? = some x → W.heap[p]? = some (.cells #[.int .i64 x.f0, .string x.f1] 60 (0, 0))

theorem rd25 {l : List S25} {k : Nat} (h : k < l.length) : rd_T25 l (k : Int) = l[k] := by
  unfold rd_T25
  simp [h]

theorem take25 {l : List S25} {k : Nat} (h : k < l.length) : l.take (k + 1) = l.take k ++ [rd_T25 l (k : Int)] := by
  rw [rd25 h, List.take_succ_eq_append_getElem h]

/-- One comment more. -/
theorem grp_step {wr w1 : World} {base g k gg cap : Nat} {v : Value} {ps : List Nat} {l : List S25} {O1 : Obj} (G : Grp wr base g v ps (l.take k)) (hk : k < l.length)
    (hown1 : w1.ownsRow base 58 1 (.slice (some ⟨gg, 0, none⟩) (k + 1) cap) (k + 1) (ps.map (fun p => Value.pointer (some ⟨p, 0, none⟩)) ++ [.pointer (some ⟨wr.heap.size + 1, 0, none⟩)]))
    (hgrow : ((((wr.alloc O1).alloc (.cells #[.int .i64 (rd_T25 l (k : Int)).f0, .string (rd_T25 l (k : Int)).f1] 60)).alloc (.cells #[.pointer (some ⟨wr.heap.size + 1, 0, none⟩)] 58)).drew).grownBy w1 v.ownBlock) :
    Grp (w1.setCell ⟨g, 0, none⟩ (.slice (some ⟨gg, 0, none⟩) (k + 1) cap)) base g (.slice (some ⟨gg, 0, none⟩) (k + 1) cap) (ps ++ [wr.heap.size + 1]) (l.take (k + 1)) := by
  have hl : (l.take k).length = k := by simp; omega
  have hps : ps.length = k := G.len.trans hl
  have old : ∀ {q : Nat} {o : Obj}, wr.heap[q]? = some o → some q ≠ v.ownBlock → w1.heap[q]? = some o := by
    intro q o hq hne
    refine blk_grown (w := (((wr.alloc O1).alloc _).alloc _).drew) ?_ hgrow hne
    show (((wr.alloc O1).alloc _).alloc _).heap[q]? = some o
    have h0 := blk_lt hq
    rw [Below.heap_alloc _ _ _ (by simp; omega), Below.heap_alloc _ _ _ (by simp; omega), Below.heap_alloc _ _ _ (by omega)]
    exact hq
  have hg1 : w1.heap[g]? = some (.cells #[v] 57 (0, 0)) := old G.blk (own_ne G.own G.blk (by decide))
  have hnew : w1.heap[wr.heap.size + 1]? = some (.cells #[.int .i64 (rd_T25 l (k : Int)).f0, .string (rd_T25 l (k : Int)).f1] 60 (0, 0)) := by
    refine blk_grown (w := (((wr.alloc O1).alloc _).alloc _).drew) ?_ hgrow (fun h => ?_)
    · show (((wr.alloc O1).alloc _).alloc _).heap[wr.heap.size + 1]? = _
      rw [Below.heap_alloc _ _ _ (by simp)]
      have := heap_alloc_new (wr.alloc O1) (.cells #[.int .i64 (rd_T25 l (k : Int)).f0, .string (rd_T25 l (k : Int)).f1] 60)
      simpa using this
    · have := own_lt G.own _ h.symm
      omega
  refine ⟨?_, ?_, ?_, ?_⟩
  · have := blk_set hg1 0 (.slice (some ⟨gg, 0, none⟩) (k + 1) cap)
    simpa using this
  · have hlen : (l.take (k + 1)).length = k + 1 := by simp; omega
    rw [hlen, List.map_append]
    exact own_setCell hown1 (own_ne hown1 hg1 (by decide)) _
  · simp [hps]; omega
  · intro i p x hi hx
    have far : ∀ {q : Nat} {cs : Array Value}, w1.heap[q]? = some (.cells cs 60 (0, 0)) → (w1.setCell ⟨g, 0, none⟩ (.slice (some ⟨gg, 0, none⟩) (k + 1) cap)).heap[q]? = some (.cells cs 60 (0, 0)) :=
      fun h => blk_far h (p := ⟨g, 0, none⟩) (blk_ne h hg1 (by decide)) _
    rw [take25 hk] at hx
    by_cases hik : i < k
    · rw [List.getElem?_append_left (by omega)] at hi hx
      have := G.com i p x hi hx
      exact far (old this (own_ne G.own this (by decide)))
    · have hik : i = k := by
        have := (List.getElem?_eq_some_iff.1 hi).1
        simp [hps] at this
        omega
      subst hik
      rw [List.getElem?_append_right (by omega)] at hi hx
      simp [hps] at hi
      simp [hl] at hx
      subst hi
      subst hx
      exact far hnew

set_option maxHeartbeats 4000000 in
set_option maxRecDepth 100000 in
theorem groupOf_any (A : Option Addr) (c : Nat) (l : List S25) (w : World) (hr : Kd.C k25 w A l.length l) (hc : l.length ≤ c) (hlen : l.length ≤ 1000000) :
    Calls Tryd.prog 18 #[.slice A l.length c] w fun e w' => ∃ g v ps, e = .returned (.pointer (some ⟨g, 0, none⟩)) ∧ Grp w' w.heap.size g v ps l ∧ Below w.heap.size w w' := by
  obtain ⟨i0, hi0, hz0, hz1, hz2⟩ := info_parts info72
  have HR := Aside0.mk hr
  clear hr
  go_enter Tryd.func18, Tryd.ntmps18
  go_wp2
  go_loopg [10] l.length (fun kq v10 w' => ∃ k : Nat, v10 = .int .i64 k ∧ k ≤ l.length ∧ Hid (kq = l.length - k) ∧ Aside0 (∃ v ps, Grp w' w.heap.size w.heap.size v ps (l.take k)) ∧ Aside0 (Below w.heap.size w w'))
  case atStart => 
    refine ⟨0, by simp, Nat.zero_le _, rfl, ⟨.slice none 0 0, [], ?_, ?_, ?_, ?_⟩, ⟨?_⟩⟩
    · exact heap_alloc_new w _
    · exact World.ownsRow_nil _ _ _ _
    · rfl
    · intro i p x h; simp at h
    · exact (Below.refl _ _).alloc (Nat.le_refl _) _
  case round =>
    obtain ⟨k, rfl, hk, HM, HG, HB⟩ := hrel
    by_cases hlt : k < l.length
    · obtain ⟨ad, eA, hx0, hx1⟩ := at_T25 HR.out (k : Int) (by omega) (by omega)
      cases eA
      replace hx0 := (HB.out.cell (World.block_lt_of_cell? w _ hx0)).trans hx0
      replace hx1 := (HB.out.cell (World.block_lt_of_cell? w _ hx1)).trans hx1
      simp only [Int.toNat_natCast] at hx0 hx1
      have p0 : (0 : Int) ≤ (k : Int) := by omega
      have p1 : (k : Int) < (l.length : Int) := by omega
      obtain ⟨v, ps, G⟩ := HG.out
      have HGG := Aside0.mk G
      have HLT := Aside0.mk hlt
      have hn : (l.take k).length = k := by simp; omega
      have hv : wr.cell? ⟨w.heap.size, 0, none⟩ = some v := blk_cell G.blk 0
      have hgo := blk_lt G.blk
      have hgf : wr.frozen? ⟨w.heap.size, 0, none⟩ = false := blk_frozen G.blk 0
      have ne1 : Hid (some w.heap.size ≠ v.ownBlock) := own_ne G.own G.blk (by decide)
      have ne2 : Hid (some wr.heap.size ≠ v.ownBlock) := fun h => Nat.lt_irrefl _ (own_lt G.own _ h.symm)
      have hnew : Hid (∀ (o1 o2 : Obj) (j : Nat) (u : Value), [Value.pointer (some ⟨wr.heap.size + 1, 0, none⟩)][j]? = some u → ((((wr.alloc o1).alloc o2).alloc (.cells #[.pointer (some ⟨wr.heap.size + 1, 0, none⟩)] 58)).drew).cell? ((⟨wr.heap.size + 1 + 1, 0, none⟩ : Addr).add j) = some u) := by
        intro o1 o2 j u hj
        have := World.news_of_block (cs := #[.pointer (some ⟨wr.heap.size + 1, 0, none⟩)]) (t := 58) (fr := (0, 0)) (heap_alloc_new ((wr.alloc o1).alloc o2) _) j u hj
        simpa using this
      have hown : Hid (wr.ownsRow w.heap.size 58 1 v k (ps.map fun p => Value.pointer (some ⟨p, 0, none⟩))) := by have := G.own; rw [hn] at this; exact this
      have nn0 := World.new_ne wr _ hv
      have hgo1 : w.heap.size < wr.heap.size + 1 := by omega
      have hgo2 : w.heap.size < wr.heap.size + 1 + 1 := by omega
      have HN := Aside0.mk hn
      clear hn
      go_wp2
      go_region_law
        ((refine step_append_lies _ (by rfl) _ _ _ (by rfl) w.heap.size 58 i0 _ 1 8 Tryd.underlying55 hi0 hz0 hz1 hz2 rfl (by omega) v k _ (by rfl) ((((hown.out.alloc _).alloc _).alloc _).drew)
            ⟨wr.heap.size + 1 + 1, 0, none⟩ 1 1 [.pointer (some ⟨wr.heap.size + 1, 0, none⟩)] (by rfl) (by rfl) (hnew.out _ _) (by simp [Value.oneCell'])
            (by omega) (by unfold maxLen; omega) (by omega) (by simp; omega) (wr.heap.size + 1 + 1 + 1) (by simp) ?_; intro gg cap w1 hown1 hgrow hat hltb; have hc1 : w1.cell? ⟨w.heap.size, 0, none⟩ = some v := hgrow.cell (cell_dr (cell_al (cell_al (cell_al hv _) _) _)) ne1.out; have hf1 : w1.frozen? ⟨w.heap.size, 0, none⟩ = false := (hgrow.frozen_far _ (by simp; omega) ne1.out).trans (fz_dr (fz_al3 hgf hv _ _ _))))
      all_goals
        go_wp2
        go_roundg (gk - 1)
        case measure => have := HM.out; omega
        case rel =>
          refine ⟨k + 1, by go_num, by omega, by have := HM.out; show _ = _; omega, ⟨_, _, grp_step HGG.out HLT.out hown1 hgrow⟩, ⟨?_⟩⟩
          exact ((below_drew (below_alloc (below_alloc (below_alloc HB.out _) _) _)).grown hgrow (by simp; omega) (fun k hk => own_base hown.out k hk)).setCell (Nat.le_refl _) _
    · go_wp2
      go_ret
      have hkl : k = l.length := by omega
      subst hkl
      obtain ⟨v, ps, G⟩ := HG.out
      rw [List.take_length] at G
      exact ⟨_, v, ps, rfl, G, HB.out⟩

/-- Comment number i of a group, cell by cell. -/
theorem Grp.elem {W : World} {base g : Nat} {v : Value} {ps : List Nat} {l : List S25} (G : Grp W base g v ps l) (i : Nat) (hi : i < l.length) :
    ∃ b cap p, v = .slice (some ⟨b, 0, none⟩) l.length cap ∧ l.length ≤ cap ∧ W.cell? ⟨b, i, none⟩ = some (.pointer (some ⟨p, 0, none⟩)) ∧ W.cell? ⟨p, 0, none⟩ = some (.int .i64 (rd_T25 l (i : Int)).f0) ∧ W.cell? ⟨p, 1, none⟩ = some (.string (rd_T25 l (i : Int)).f1) := by
  obtain ⟨b, cap, hv, _, _⟩ := G.own.form (by omega)
  have hip : i < ps.length := by rw [G.len]; exact hi
  refine ⟨b, cap, ps[i], hv, ?_, ?_, ?_, ?_⟩
  · have := G.own
    rw [hv] at this
    exact own_le this
  · have := G.own.cells (g := b) (by rw [hv]; rfl) i (.pointer (some ⟨ps[i], 0, none⟩)) (by simp [hip])
    rwa [add_plain] at this
  · have := G.com i ps[i] l[i] (by simp [hip]) (by simp [hi])
    rw [rd25 hi]
    exact (blk_cell this 0).trans rfl
  · have := G.com i ps[i] l[i] (by simp [hip]) (by simp [hi])
    rw [rd25 hi]
    exact (blk_cell this 1).trans rfl
end Go.Proofs.YtcjiafjahfmdoaaDoor.A
