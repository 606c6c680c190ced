import Derived.Test.YtdmeackaiamkcaaOrder
import Derived.Test.YtdmeackaiamkcaaLays
namespace Go.Proofs.Ytdmeackaiamkcaa.A
set_option linter.unusedVariables false
set_option linter.unusedSimpArgs false
open Go.RowKit Go.Proofs.YtdmeackaiamkcaaW.PrintWords Go.Proofs.YtdmeackaiamkcaaW.PrintLast Go.Proofs.YtdmeackaiamkcaaW.PrintMore
open Go.Sort (SWO Holds putRow putCells mapBlock grow onCells pdq PermIn SortedIn heap_grow_old)

/-- Place t of a list of errors, and of their blocks: any number, rounded into the list. -/
def fAt (l : List S26) (t : Nat) : S26 := rd_T26 l ((t % l.length : Nat) : Int)
def pAt (ps : List Nat) (t : Nat) : Nat := ps.getD (t % ps.length) 0
def encP (ps : List Nat) (t : Nat) : Value := .pointer (some ⟨pAt ps t, 0, none⟩)
def ltOf (l : List S26) (s t : Nat) : Bool := lessB (fAt l s) (fAt l t)
theorem swo_ltOf (l : List S26) : SWO (ltOf l) := ⟨fun x => swo_lessB.irrefl _, fun x y z => swo_lessB.trans _ _ _, fun x y z => swo_lessB.ntrans _ _ _⟩

/-- The places in the order that the sort leaves. -/
def ordOf (l : List S26) : Array Nat := pdq (ltOf l) (List.range l.length).toArray 0 l.length (Lib.bitLen l.length) true true
/-- The list as the sort leaves it. -/
def sortedBy (l : List S26) : List S26 := if l.length ≤ 1 then l else (ordOf l).toList.map (fAt l)

theorem ordOf_perm (l : List S26) : PermIn 0 l.length (List.range l.length).toArray (ordOf l) ∧ SortedIn (ltOf l) 0 l.length (ordOf l) := by
  have h := Go.Sort.pdq_sorts (ltOf l) (swo_ltOf l) (List.range l.length).toArray 0 l.length (Lib.bitLen l.length) true true (Nat.zero_le _) (by simp) (Or.inl rfl)
  exact ⟨h.1, h.2⟩

theorem ordOf_size (l : List S26) : (ordOf l).size = l.length := by
  have := (ordOf_perm l).1.1
  simpa using this

theorem sortedBy_length (l : List S26) : (sortedBy l).length = l.length := by
  unfold sortedBy
  split
  · rfl
  · simp [ordOf_size]

/-! ### the row behind the sort -/
section
variable {enc : Nat → Value}
theorem heap_sortedP {w : World} {g n : Nat} {os : Array Obj} {cur : Array Value} {e : TypeId} {fr : Nat × Nat} (d : Array Nat) (hb : w.heap[g]? = some (.cells cur e fr)) :
    (grow (putRow enc (Go.Sort.ahead w n) g 0 d) os).heap[g]? = some (.cells (putCells enc 0 d cur) e fr) := by
  have hg : g < w.heap.size := (Array.getElem?_eq_some_iff.1 hb).1
  rw [heap_grow_old _ _ (by simpa using hg)]
  simp [putRow, mapBlock, Go.Sort.ahead, Array.getElem?_modify, hb, onCells]
theorem grownBy_sortedP {w : World} {g n : Nat} {os : Array Obj} (d : Array Nat) : w.grownBy (grow (putRow enc (Go.Sort.ahead w n) g 0 d) os) (some g) := by
  refine ⟨rfl, rfl, rfl, by simp, fun k hk hne => ?_⟩
  rw [heap_grow_old _ _ (by simpa using hk)]
  have : g ≠ k := fun e => hne (by rw [e])
  simp [putRow, mapBlock, Go.Sort.ahead, Array.getElem?_modify, this]
theorem take_putCellsP (cur : Array Value) (ts : List Nat) (h : ts.length ≤ cur.size) : (putCells enc 0 ts.toArray cur).toList.take ts.length = ts.map enc := by
  apply List.ext_getElem?
  intro j
  by_cases hj : j < ts.length
  · rw [List.getElem?_take_of_lt hj, Array.getElem?_toList]
    simp [putCells, hj, show j < cur.size by omega]
  · rw [List.getElem?_take_eq_none (by omega), List.getElem?_eq_none (by simp; omega)]
theorem ownsRow_sortedP {w : World} {base g cap n m : Nat} {e : TypeId} {os : Array Obj} {cur : Array Value} {ts : List Nat} (hl : ts.length = m) (hbase : base ≤ g) (hb : w.heap[g]? = some (.cells cur e (0, 0)))
    (h1 : m ≤ cap) (h2 : cap ≤ maxLen) (h3 : cur.size = cap * 1) :
    (grow (putRow enc (Go.Sort.ahead w n) g 0 ts.toArray) os).ownsRow base e 1 (.slice (some ⟨g, 0, none⟩) m cap) m (ts.map enc) :=
  ⟨by simp [hl], .inr ⟨g, cap, _, rfl, hbase, heap_sortedP _ hb, h1, h2, by simp [putCells, h3], by rw [Nat.mul_one, ← hl]; exact take_putCellsP cur ts (by omega)⟩⟩
end

theorem err_len_reached (p : Option Addr) (n c : Nat) : Reaches Try.prog 36 (.slice p n c) "Len" 26 := ⟨fun _ => by kernel_rfl, enters_of Try.func26 (by kernel_rfl) rfl⟩
theorem err_less_reached (p : Option Addr) (n c : Nat) : Reaches Try.prog 36 (.slice p n c) "Less" 24 := ⟨fun _ => by kernel_rfl, enters_of Try.func24 (by kernel_rfl) rfl⟩
theorem err_swap_reached (p : Option Addr) (n c : Nat) : Reaches Try.prog 36 (.slice p n c) "Swap" 23 := ⟨fun _ => by kernel_rfl, enters_of Try.func23 (by kernel_rfl) rfl⟩

theorem err_LenM (A : Option Addr) (n c : Nat) (w : World) : LenM Try.prog 26 (.slice A n c) n w := (len_any A n c w).mono fun e w' ⟨he, hw⟩ => ⟨he, 0, hw⟩

/-- What a list of errors says at place t, whatever t. -/
theorem EL.at_ {W : World} {base : Nat} {v : Value} {ps : List Nat} {l : List S26} (G : EL W base v ps l) (h : 0 < l.length) (t : Nat) :
    W.heap[pAt ps t]? = some (.cells (errCells (fAt l t)) 52 (0, 0)) := by
  have hm : t % l.length < l.length := Nat.mod_lt _ h
  have hp : t % l.length < ps.length := by rw [G.len]; exact hm
  unfold pAt fAt
  rw [G.len, rd26 hm]
  exact G.err (t % l.length) _ _ (by simp [hp]) (by simp [hm])

theorem EL.holds {W : World} {base b c : Nat} {ps : List Nat} {l : List S26} (G : EL W base (.slice (some ⟨b, 0, none⟩) l.length c) ps l) : Holds (encP ps) W b 0 (List.range l.length).toArray := by
  intro j hj
  have hj : j < l.length := by simpa using hj
  obtain ⟨b', cap, p, hv, _, hp, cp, fp, _⟩ := G.elem j hj
  have hbb : b = b' := by injection hv with h1; injection h1 with h1; injection h1
  subst hbb
  have hd : ((List.range l.length).toArray)[j]! = j := by simp [hj]
  rw [hd, Nat.zero_add]
  refine ⟨?_, fp⟩
  rw [cp]
  unfold encP pAt
  rw [G.len, Nat.mod_eq_of_lt hj, List.getD_eq_getElem?_getD, hp]
  rfl

theorem EL.block {W : World} {base b c : Nat} {ps : List Nat} {l : List S26} (G : EL W base (.slice (some ⟨b, 0, none⟩) l.length c) ps l) : ∃ cells, W.heap[b]? = some (.cells cells 49 (0, 0)) := own_typed G.own b rfl

theorem EL.ne {W : World} {base b c : Nat} {ps : List Nat} {l : List S26} (G : EL W base (.slice (some ⟨b, 0, none⟩) l.length c) ps l) (h : 0 < l.length) (t : Nat) : some (pAt ps t) ≠ some b := by
  intro e
  injection e with e
  obtain ⟨cells, hc⟩ := G.block
  have := G.at_ h t
  rw [e, hc] at this
  injection this with this
  injection this with _ this
  exact absurd this (by decide)

theorem err_LessM {W : World} {base b c : Nat} {ps : List Nat} {l : List S26} (G : EL W base (.slice (some ⟨b, 0, none⟩) l.length c) ps l) (h : 0 < l.length) (hn : l.length ≤ 1000000) :
    LessM Try.prog 24 (.slice (some ⟨b, 0, none⟩) l.length c) (encP ps) (ltOf l) b 0 (List.range l.length).toArray.size W := fun m os dk hs i j hi hj => by
  obtain ⟨cells, hc⟩ := G.block
  have hsz : (List.range l.length).toArray.size = l.length := by simp
  rw [hsz] at hi hj
  have hh := holds_sortWorld (encP ps) W b 0 m _ dk os (blk_lt hc) G.holds hs
  have hgr : W.grownBy (sortWorld (encP ps) W b 0 m dk os) (some b) := grownBy_sortedP dk
  have ci := (hh i (by rw [hs, hsz]; exact hi)).1
  have cj := (hh j (by rw [hs, hsz]; exact hj)).1
  rw [Nat.zero_add] at ci cj
  exact less_any b _ _ l.length c i j _ _ _ hi hj (by omega) ci cj (blk_grown (G.at_ h _) hgr (G.ne h _)) (blk_grown (G.at_ h _) hgr (G.ne h _))

theorem err_SwapM (b c size : Nat) (ps : List Nat) (hsz : size < 4611686018427387904) : SwapM Try.prog 23 (.slice (some ⟨b, 0, none⟩) size c) (encP ps) b 0 size := fun W dk hH hs i j hi hj =>
  swap_any b 0 c size W _ _ i j hi hj hsz (hH i (by omega)).1 (hH j (by omega)).1 (hH i (by omega)).2 (hH j (by omega)).2

set_option maxHeartbeats 1000000 in
theorem sort_many (base b c : Nat) (ps : List Nat) (l : List S26) (w : World) (G : EL w base (.slice (some ⟨b, 0, none⟩) l.length c) ps l) (h2 : 2 ≤ l.length) (hn : l.length ≤ 1000000) :
    Calls Try.prog 29 #[.slice (some ⟨b, 0, none⟩) l.length c] w fun e w' => e = .returned (.tuple #[]) ∧ ∃ n os, w' = grow (putRow (encP ps) (Go.Sort.ahead w n) b 0 (ordOf l)) os := by
  have hsz : (List.range l.length).toArray.size = l.length := by simp
  obtain ⟨cells, hc⟩ := G.block
  have hS := Any.sort_Sort_eq Try.sl11 36 (.slice (some ⟨b, 0, none⟩) l.length c) 26 24 23 (err_len_reached _ _ _) (err_less_reached _ _ _) (err_swap_reached _ _ _) (encP ps) (ltOf l) (swo_ltOf l) b 0 (List.range l.length).toArray (by rw [hsz]; exact h2) (by rw [hsz]; omega) w
    (by rw [hsz]; exact err_LenM _ _ _ _) (err_LessM G (by omega) hn) (by rw [hsz]; exact err_SwapM _ _ _ _ (by omega)) G.holds (blk_lt hc)
  change Calls Try.prog 33 _ _ _ at hS
  rw [hsz] at hS
  clear G hc
  go_enter Try.func29, Try.ntmps29
  go_wp2_with (go_at_call 33; refine hS.mono ?_; rintro e w' ⟨rfl, n, os, rfl⟩)
  go_end0
  exact ⟨rfl, n, os, by unfold ordOf; rw [List.toArray_range]⟩

theorem sort_few (A : Option Addr) (n c : Nat) (w : World) (h : n ≤ 1) :
    Calls Try.prog 29 #[.slice A n c] w fun e w' => e = .returned (.tuple #[]) ∧ ∃ q, w' = w.drewN q := by
  have hS := Any.sort_Sort_tiny Try.sl11 36 (.slice A n c) 26 (err_len_reached _ _ _) n h w (err_LenM _ _ _ _)
  change Calls Try.prog 33 _ _ _ at hS
  go_enter Try.func29, Try.ntmps29
  go_wp2_with (go_at_call 33; refine hS.mono ?_; rintro e w' ⟨rfl, q, rfl⟩)
  go_end0
  exact ⟨rfl, q, rfl⟩

/-- The list behind the sort. -/
theorem EL.sorted {W : World} {base b c : Nat} {ps : List Nat} {l : List S26} (G : EL W base (.slice (some ⟨b, 0, none⟩) l.length c) ps l) (h : 2 ≤ l.length) (n : Nat) (os : Array Obj) :
    EL (grow (putRow (encP ps) (Go.Sort.ahead W n) b 0 (ordOf l)) os) base (.slice (some ⟨b, 0, none⟩) l.length c) ((ordOf l).toList.map (pAt ps)) (sortedBy l) := by
  have hs : sortedBy l = (ordOf l).toList.map (fAt l) := by unfold sortedBy; rw [if_neg (by omega)]
  have hgr : W.grownBy (grow (putRow (encP ps) (Go.Sort.ahead W n) b 0 (ordOf l)) os) (some b) := grownBy_sortedP _
  refine ⟨?_, by rw [hs]; simp, ?_⟩
  · rw [sortedBy_length]
    rcases G.own.2 with ⟨h1, _⟩ | ⟨g, cap, cur, h1, hg, hh, r1, r2, r3, _⟩
    · cases h1
    · injection h1 with h1 _ h3
      injection h1 with h1
      injection h1 with h1 _ _
      subst h1
      subst h3
      have := ownsRow_sortedP (enc := encP ps) (n := n) (os := os) (ts := (ordOf l).toList) (m := l.length) (by simp [ordOf_size]) hg hh r1 r2 r3
      rw [List.map_map]
      exact this
  · intro i p x hi hx
    rw [hs] at hx
    rw [List.getElem?_map] at hi hx
    cases ht : (ordOf l).toList[i]? with
    | none => rw [ht] at hi; cases hi
    | some t =>
      rw [ht] at hi hx
      cases hi
      cases hx
      exact blk_grown (G.at_ (by omega) t) hgr (G.ne (by omega) t)

theorem sort_any (base : Nat) (v : Value) (ps : List Nat) (l : List S26) (w : World) (G : EL w base v ps l) (hn : l.length ≤ 1000000) :
    Calls Try.prog 29 #[v] w fun e w' => e = .returned (.tuple #[]) ∧ (∃ ps', EL w' base v ps' (sortedBy l)) ∧ Below base w w' := by
  by_cases h : l.length ≤ 1
  · obtain ⟨A, c, rfl⟩ := G.slice
    have hs : sortedBy l = l := by unfold sortedBy; rw [if_pos h]
    rw [hs]
    exact (sort_few A l.length c w h).mono fun e w' ⟨he, q, hw⟩ => ⟨he, by subst hw; exact ⟨⟨ps, G.below (pw_below_drewN (Below.refl _ _) _)⟩, pw_below_drewN (Below.refl _ _) _⟩⟩
  · obtain ⟨b, cap, p, hv, hb, _⟩ := G.elem 0 (by omega)
    subst hv
    obtain ⟨cells, hc⟩ := G.block
    refine (sort_many base b cap ps l w G (by omega) hn).mono fun e w' ⟨he, n, os, hw⟩ => ⟨he, ?_, ?_⟩
    · subst hw
      exact ⟨_, G.sorted (by omega) n os⟩
    · subst hw
      have := blk_lt hc
      exact (Below.refl base w).grown (grownBy_sortedP _) (by omega) (fun k hk => by injection hk with hk; omega)

/-- impl.Sorted at a list of few errors. -/
def impl_Sorted.f (l0 : List S26) : Option (List S26) := if l0.length ≤ 50 then some (sortedBy l0) else none

set_option maxHeartbeats 1000000 in
theorem impl_Sorted.calls (A0 : Option Addr) (c0 : Nat) (l0 : List S26) (r : List S26) (w : World) (hr0 : Kd.C k26 w A0 l0.length l0) (hc0 : l0.length ≤ c0) (h : impl_Sorted.f l0 = some r) :
    Calls Try.prog 16 #[.slice A0 l0.length c0] w fun e w' => ∃ v0_ : Value, e = .returned v0_ ∧ Kd.R k26 26 w' w.heap.size (fun _ => True) v0_ r ∧ Below w.heap.size w w' := by
  unfold impl_Sorted.f at h
  split at h
  next hb =>
    have h := Option.some.inj h
    subst h
    have HL := listOf_any A0 c0 l0 w hr0 hc0 (by omega)
    clear hr0
    go_enter Try.func16, Try.ntmps16
    go_wp2_with fail
    refine HL.mono ?_
    rintro e w1 ⟨v, ps, rfl, G, hB⟩
    obtain ⟨A, c, rfl⟩ := G.slice
    have HS := sort_any _ _ ps l0 w1 G (by omega)
    have HB := Aside0.mk hB
    clear G hB HL
    go_wp2_with fail
    refine HS.mono ?_
    rintro e w2 ⟨rfl, ⟨ps', G2⟩, hB2⟩
    have HF := faultsOf_any _ _ ps' _ w2 G2 (by rw [sortedBy_length]; omega)
    have HB2 := Aside0.mk (HB.out.trans hB2)
    clear G2 hB2 HS
    go_wp2_with fail
    refine HF.mono ?_
    rintro e w3 ⟨v', rfl, F, hB3⟩
    have HB3 := Aside0.mk hB3
    have HF2 := Aside0.mk F
    clear HF F hB3
    go_wp2_with fail
    go_ret
    exact ⟨_, rfl, (HF2.out.lower HB2.out.size).row, HB2.out.trans (HB3.out.mono HB2.out.size)⟩
  next => cases h
end Go.Proofs.Ytdmeackaiamkcaa.A
