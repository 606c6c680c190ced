import Derived.Test.YtdmeackaiamkcaaGSie
namespace Go.Proofs.Ytdmeackaiamkcaa.A
set_option linter.unusedVariables false
set_option linter.unusedSimpArgs false
open Go.RowKit Go.Lib Go.Sort Go.Proofs.YtdmeackaiamkcaaW.PrintWords Go.Proofs.YtdmeackaiamkcaaW.PrintLast Go.Proofs.YtdmeackaiamkcaaW.PrintMore
section
variable {enc : Nat → Value} {lt : Nat → Nat → Bool} {W0 W : World} {sv : Value} {b q n : Nat} {d : Array Nat}

theorem Row.alloc (S : Row enc W0 b n d W) (o : Obj) : Row enc W0 b n d (W.alloc o) := ⟨S.sw.alloc o, S.size⟩
theorem Row.setNew (S : Row enc W0 b n d W) (p o : Nat) (v : Value) (h : W0.heap.size ≤ p) : Row enc W0 b n d (W.setCell ⟨p, o, none⟩ v) := ⟨S.sw.setCell_new p o v h, S.size⟩
theorem Row.le (S : Row enc W0 b n d W) : W0.heap.size ≤ W.heap.size := S.sw.le
/-- 'Less' leaves every block as it is; 'Swap' all but the row's. -/
theorem Row.lessH (C : PS enc lt W0 sv b q n) (S : Row enc W0 b n d W) (i j : Nat) {v : Bool} (hv : lt d[i]! d[j]! = v) (x y : Int) (hx : x = i) (hy : y = j) (hi : i < n) (hj : j < n) :
    Calls Try.prog 24 #[sv, .int .i64 x, .int .i64 y] W fun e w' => e = .returned (.bool v) ∧ Row enc W0 b n d w' ∧ w'.heap = W.heap := by
  rw [hx, hy, ← hv]
  exact (S.sw.lessM C.less S.size i j hi hj).mono fun e w' ⟨he, k, hw⟩ => ⟨he, by rw [hw]; exact S.drewN k, by rw [hw]; rfl⟩
theorem Row.swapH (C : PS enc lt W0 sv b q n) (S : Row enc W0 b n d W) (i j : Nat) (x y : Int) (hx : x = i) (hy : y = j) (hi : i < n) (hj : j < n) :
    Calls Try.prog 23 #[sv, .int .i64 x, .int .i64 y] W fun e w' => e = .returned (.tuple #[]) ∧ Row enc W0 b n (swp d i j) w' ∧ ∀ p, p ≠ b → w'.heap[p]? = W.heap[p]? := by
  rw [hx, hy]
  refine (C.swap W d (S.holds C) S.size i j hi hj).mono fun e w' ⟨he, k, hw⟩ => ⟨he, ?_, fun p hp => ?_⟩
  · rw [hw]
    exact Row.drewN ⟨S.sw.swap C.blk i j (by rw [S.size]; exact hi) (by rw [S.size]; exact hj), by rw [size_swp]; exact S.size⟩ k
  · rw [hw]
    show ((W.setCell _ _).setCell _ _).heap[p]? = _
    simp only [setCell_eq, mapBlock, Array.getElem?_modify]
    simp [Ne.symm hp]

set_option maxHeartbeats 1000000 in
set_option maxRecDepth 100000 in
theorem ptr_order2 (C : PS enc lt W0 sv b q n) (x y cb s : Nat) (S : Row enc W0 b n d W) (hx : x < n) (hy : y < n) (hcb : W0.heap.size ≤ cb) (hc : W.heap[cb]? = some (.cells #[.int .i64 s] 3 (0, 0))) (hs : s < 1000000) :
    Calls Try.prog 51 #[.iface 53 (.pointer (some ⟨q, 0, none⟩)), .int .i64 x, .int .i64 y, .pointer (some ⟨cb, 0, none⟩)] W fun e w' =>
      e = .returned (.tuple #[.int .i64 (order2 lt d x y s).1, .int .i64 (order2 lt d x y s).2.1]) ∧ Row enc W0 b n d w' ∧ w'.heap[cb]? = some (.cells #[.int .i64 (order2 lt d x y s).2.2] 3 (0, 0)) := by
  have hn := C.few
  have CC := Aside0.mk C
  clear C
  have mL := S.mL CC.out
  go_enter Try.func51, Try.ntmps51
  cases hlv : lt d[y]! d[x]! with
  | true =>
    have e2 : order2 lt d x y s = (y, x, s + 1) := by simp [order2, hlv]
    go_wp2_with (go_at_call 24; refine (S.lessH CC.out y x hlv _ _ (by omega) (by omega) (by omega) (by omega)).mono ?_; rintro e w1 ⟨rfl, hR1, hH1⟩; have hc1 : w1.heap[cb]? = _ := hH1 ▸ hc; have cc1 : w1.cell? ⟨cb, 0, none⟩ = some (.int .i64 s) := blk_cell hc1 0; have cf1 : w1.frozen? ⟨cb, 0, none⟩ = false := blk_frozen hc1 0; have HC1 := Aside0.mk hc1; clear hc1)
    go_ret2
    rw [e2]
    exact ⟨rfl, hR1.setNew _ _ _ hcb, by simpa using blk_set HC1.out 0 _⟩
  | false =>
    have e2 : order2 lt d x y s = (x, y, s) := by simp [order2, hlv]
    go_wp2_with (go_at_call 24; refine (S.lessH CC.out y x hlv _ _ (by omega) (by omega) (by omega) (by omega)).mono ?_; rintro e w1 ⟨rfl, hR1, hH1⟩; have hc1 : w1.heap[cb]? = _ := hH1 ▸ hc)
    go_ret2
    rw [e2]
    exact ⟨rfl, hR1, hc1⟩

set_option maxHeartbeats 1000000 in
set_option maxRecDepth 100000 in
theorem ptr_median (C : PS enc lt W0 sv b q n) (x y z cb s : Nat) (S : Row enc W0 b n d W) (hx : x < n) (hy : y < n) (hz : z < n) (hcb : W0.heap.size ≤ cb) (hc : W.heap[cb]? = some (.cells #[.int .i64 s] 3 (0, 0))) (hs : s + 3 < 1000000) :
    Calls Try.prog 50 #[.iface 53 (.pointer (some ⟨q, 0, none⟩)), .int .i64 x, .int .i64 y, .int .i64 z, .pointer (some ⟨cb, 0, none⟩)] W fun e w' =>
      e = .returned (.int .i64 (median lt d x y z s).1) ∧ Row enc W0 b n d w' ∧ w'.heap[cb]? = some (.cells #[.int .i64 (median lt d x y z s).2] 3 (0, 0)) := by
  have l1 := order2_lt' lt d s hx hy
  have s1 := order2_swaps' lt d x y s
  have c1 := ptr_order2 C x y cb s S hx hy hcb hc (by omega)
  obtain ⟨x1, y1, k1, e1⟩ : ∃ x1 y1 k1, order2 lt d x y s = (x1, y1, k1) := ⟨_, _, _, rfl⟩
  rw [e1] at l1 s1 c1
  have l2 := order2_lt' lt d k1 l1.2 hz
  have s2 := order2_swaps' lt d y1 z k1
  have c2 := fun (W1 : World) (S1 : Row enc W0 b n d W1) (h1 : W1.heap[cb]? = some (.cells #[.int .i64 k1] 3 (0, 0))) => ptr_order2 C y1 z cb k1 S1 l1.2 hz hcb h1 (by have : k1 ≤ s + 1 := s1; omega)
  obtain ⟨y2, z2, k2, e2⟩ : ∃ y2 z2 k2, order2 lt d y1 z k1 = (y2, z2, k2) := ⟨_, _, _, rfl⟩
  rw [e2] at l2 s2
  simp only [e2] at c2
  have c3 := fun (W1 : World) (S1 : Row enc W0 b n d W1) (h1 : W1.heap[cb]? = some (.cells #[.int .i64 k2] 3 (0, 0))) => ptr_order2 C x1 y2 cb k2 S1 l1.1 l2.1 hcb h1 (by have : k1 ≤ s + 1 := s1; have : k2 ≤ k1 + 1 := s2; omega)
  obtain ⟨x3, y3, k3, e3⟩ : ∃ x3 y3 k3, order2 lt d x1 y2 k2 = (x3, y3, k3) := ⟨_, _, _, rfl⟩
  simp only [e3] at c3
  have em : median lt d x y z s = (y3, k3) := by simp only [median, e1, e2, e3]
  rw [em]
  clear C e1 e2 e3 em l1 l2 s1 s2 hc S
  go_enter Try.func50, Try.ntmps50
  go_wp2_with (first
    | (go_at_call 51; refine c1.mono ?_; clear c1; rintro e w1 ⟨rfl, hR1, hc1⟩)
    | (go_at_call 51; refine (c2 _ hR1 hc1).mono ?_; clear c2; rintro e w2 ⟨rfl, hR2, hc2⟩)
    | (go_at_call 51; refine (c3 _ hR2 hc2).mono ?_; rintro e w3 ⟨rfl, hR3, hc3⟩))
  go_ret
  exact ⟨rfl, hR3, hc3⟩

set_option maxHeartbeats 1000000 in
set_option maxRecDepth 100000 in
theorem ptr_medianAdjacent (C : PS enc lt W0 sv b q n) (x cb s : Nat) (S : Row enc W0 b n d W) (h1 : 1 ≤ x) (h2 : x + 1 < n) (hcb : W0.heap.size ≤ cb) (hc : W.heap[cb]? = some (.cells #[.int .i64 s] 3 (0, 0))) (hs : s + 3 < 1000000) :
    Calls Try.prog 49 #[.iface 53 (.pointer (some ⟨q, 0, none⟩)), .int .i64 x, .pointer (some ⟨cb, 0, none⟩)] W fun e w' =>
      e = .returned (.int .i64 (medianAdjacent lt d x s).1) ∧ Row enc W0 b n d w' ∧ w'.heap[cb]? = some (.cells #[.int .i64 (medianAdjacent lt d x s).2] 3 (0, 0)) := by
  have hn := C.few
  have hm := ptr_median C (x - 1) x (x + 1) cb s S (by omega) (by omega) h2 hcb hc hs
  rw [show ((x - 1 : Nat) : Int) = (x : Int) - 1 by omega, show ((x + 1 : Nat) : Int) = (x : Int) + 1 by omega] at hm
  clear C S hc
  go_enter Try.func49, Try.ntmps49
  go_wp2_with (go_at_call 50; refine hm.mono ?_; rintro e w1 ⟨rfl, hR1, hc1⟩)
  go_ret
  exact ⟨rfl, hR1, hc1⟩
end
end Go.Proofs.Ytdmeackaiamkcaa.A
