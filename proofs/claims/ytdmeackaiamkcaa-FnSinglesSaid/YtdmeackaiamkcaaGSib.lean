import Derived.Test.YtdmeackaiamkcaaGSort
namespace Go.Proofs.Ytdmeackaiamkcaa.A
set_option linter.unusedVariables false
set_option linter.unusedSimpArgs false
open Go.RowKit Go.Lib Go.Sort Go.Proofs.YtdmeackaiamkcaaW.PrintWords Go.Proofs.YtdmeackaiamkcaaW.PrintLast Go.Proofs.YtdmeackaiamkcaaW.PrintMore

/-! ### The list's methods, found through a pointer to it -/
theorem row53_less : (Try.t53.methods.find? (fun x => x.name == "Less")).map (fun m => (m.path, m.func)) = some (#[], some (24, false)) := by kernel_rfl
theorem row53_swap : (Try.t53.methods.find? (fun x => x.name == "Swap")).map (fun m => (m.path, m.func)) = some (#[], some (23, false)) := by kernel_rfl
theorem row53_len : (Try.t53.methods.find? (fun x => x.name == "Len")).map (fun m => (m.path, m.func)) = some (#[], some (26, false)) := by kernel_rfl
theorem wrap_some (a : Array TypeId) (t : TypeId) (p : Addr) (x y : String) : Builtin.ssaWrapNilChk_ a t #[.pointer (some p), strVal x, strVal y] = pure (.pointer (some p)) := rfl
theorem ptr_meth {name : String} {f : Nat} (e : (Try.t53.methods.find? (fun x => x.name == name)).map (fun m => (m.path, m.func)) = some (#[], some (f, false)))
    (q : Nat) (v : Value) (W : World) (h : W.cell? ⟨q, 0, none⟩ = some v) :
    Sem.run Try.prog (method 197 53 (.pointer (some ⟨q, 0, none⟩)) name) W = .ok (f, v) W := by
  cases hf : Try.t53.methods.find? (fun x => x.name == name) with
  | none => rw [hf] at e; cases e
  | some m =>
    rw [hf] at e
    simp only [Option.map_some, Option.some.injEq, Prod.mk.injEq] at e
    obtain ⟨e1, e2⟩ := e
    unfold method
    simp [go_sem, h, hf, e1, e2, follow, receiverAt, wrap_some, Place.get, loadVar, asAddr]

/-! ### What the sort asks: a row of n pointers in the block b, behind a cell q that holds the list -/
structure PS (enc : Nat → Value) (lt : Nat → Nat → Bool) (W0 : World) (sv : Value) (b q n : Nat) : Prop where
  less : LessM Try.prog 24 sv enc lt b 0 n W0
  swap : SwapM Try.prog 23 sv enc b 0 n
  start : ∃ d0 : Array Nat, d0.size = n ∧ Holds enc W0 b 0 d0
  blk : b < W0.heap.size
  hdr : W0.heap[q]? = some (.cells #[sv] 36 (0, 0))
  ne : q ≠ b
  few : n ≤ 1000000

/-- The row holds d; all else is as it was at the first. -/
structure Row (enc : Nat → Value) (W0 : World) (b n : Nat) (d : Array Nat) (W : World) : Prop where
  sw : SW enc W0 b 0 d W
  size : d.size = n

section
variable {enc : Nat → Value} {lt : Nat → Nat → Bool} {W0 W : World} {sv : Value} {b q n : Nat} {d : Array Nat}

theorem Row.drewN (S : Row enc W0 b n d W) (k : Nat) : Row enc W0 b n d (W.drewN k) := ⟨S.sw.drewN k, S.size⟩
theorem Row.holds (C : PS enc lt W0 sv b q n) (S : Row enc W0 b n d W) : Holds enc W b 0 d := by
  obtain ⟨d0, h1, h2⟩ := C.start
  exact S.sw.holds C.blk h2 (S.size.trans h1.symm)
theorem Row.hdr (C : PS enc lt W0 sv b q n) (S : Row enc W0 b n d W) : W.heap[q]? = some (.cells #[sv] 36 (0, 0)) := by
  obtain ⟨k, os, rfl⟩ := S.sw
  exact blk_grown C.hdr (grownBy_sortedP (enc := enc) d) (fun e => C.ne (by injection e))
theorem Row.cell (C : PS enc lt W0 sv b q n) (S : Row enc W0 b n d W) : W.cell? ⟨q, 0, none⟩ = some sv := blk_cell (S.hdr C) 0
theorem Row.mL (C : PS enc lt W0 sv b q n) (S : Row enc W0 b n d W) : Sem.run Try.prog (method 197 53 (.pointer (some ⟨q, 0, none⟩)) "Less") W = .ok (24, sv) W := ptr_meth row53_less q sv W (S.cell C)
theorem Row.mS (C : PS enc lt W0 sv b q n) (S : Row enc W0 b n d W) : Sem.run Try.prog (method 197 53 (.pointer (some ⟨q, 0, none⟩)) "Swap") W = .ok (23, sv) W := ptr_meth row53_swap q sv W (S.cell C)
theorem Row.mN (C : PS enc lt W0 sv b q n) (S : Row enc W0 b n d W) : Sem.run Try.prog (method 197 53 (.pointer (some ⟨q, 0, none⟩)) "Len") W = .ok (26, sv) W := ptr_meth row53_len q sv W (S.cell C)
theorem Row.less (C : PS enc lt W0 sv b q n) (S : Row enc W0 b n d W) (i j : Nat) (hi : i < n) (hj : j < n) :
    Calls Try.prog 24 #[sv, .int .i64 i, .int .i64 j] W fun e w' => e = .returned (.bool (lt d[i]! d[j]!)) ∧ Row enc W0 b n d w' :=
  (S.sw.lessM C.less S.size i j hi hj).mono fun e w' ⟨he, k, hw⟩ => ⟨he, by rw [hw]; exact S.drewN k⟩
theorem Row.swap (C : PS enc lt W0 sv b q n) (S : Row enc W0 b n d W) (i j : Nat) (hi : i < n) (hj : j < n) :
    Calls Try.prog 23 #[sv, .int .i64 i, .int .i64 j] W fun e w' => e = .returned (.tuple #[]) ∧ Row enc W0 b n (swp d i j) w' :=
  (C.swap W d (S.holds C) S.size i j hi hj).mono fun e w' ⟨he, k, hw⟩ => ⟨he, by
    rw [hw]
    exact Row.drewN ⟨S.sw.swap C.blk i j (by rw [S.size]; exact hi) (by rw [S.size]; exact hj), by rw [size_swp]; exact S.size⟩ k⟩

set_option maxHeartbeats 2000000 in
set_option maxRecDepth 100000 in
theorem ptr_insertionSort (C : PS enc lt W0 sv b q n) (a z : Nat) (S : Row enc W0 b n d W) (haz : a ≤ z) (hz : z ≤ n) :
    Calls Try.prog 38 #[.iface 53 (.pointer (some ⟨q, 0, none⟩)), .int .i64 a, .int .i64 z] W fun e w' => e = .returned (.tuple #[]) ∧ Row enc W0 b n (Sort.insertionSort lt d a z) w' := by
  have hn := C.few
  have CC := Aside0.mk C
  clear C
  go_enter Try.func38, Try.ntmps38
  go_wp2
  go_loopw [6] (fun vi wr => ∃ (i : Nat) (dk : Array Nat), vi = .int .i64 i ∧ a < i ∧ i ≤ z + 1 ∧ Row enc W0 b n dk wr ∧
      Hid (insOuter lt a z i dk = insOuter lt a z (a + 1) d)) (fun vi _ => z + 1 - (intOf vi).toNat)
  case atStart => exact ⟨a + 1, d, by go_num, by omega, by omega, S, rfl⟩
  case round =>
    obtain ⟨i, dk, rfl, hai, hiz, hR, HO⟩ := hrel
    go_wp2
    · go_loopw [7] (fun vj wr2 => ∃ (j : Nat) (dj : Array Nat), vj = .int .i64 j ∧ a ≤ j ∧ j ≤ i ∧ Row enc W0 b n dj wr2 ∧
          Hid (insInner lt a j dj = insInner lt a i dk)) (fun vj _ => (intOf vj).toNat)
      case atStart => exact ⟨i, dk, rfl, by omega, Nat.le_refl _, hR, rfl⟩
      case round =>
        obtain ⟨j, dj, rfl, haj, hji, hJ, HI⟩ := hrel
        have hlt : i < z := by assumption
        have hgo : (j ≤ a ∨ lt dj[j]! dj[j - 1]! = false) → insOuter lt a z (i + 1) dj = insOuter lt a z (a + 1) d := fun hs => by
          rw [← HO.out, insOuter_go _ _ _ _ _ hlt, ← HI.out, insInner_stop _ _ _ _ hs]
        have HGO : Hid _ := hgo
        clear hgo
        by_cases hja : a < j
        · have hl := hJ.less CC.out j (j - 1) (by omega) (by omega)
          rw [show (((j - 1 : Nat) : Int)) = (j : Int) - 1 by omega] at hl
          have mL := hJ.mL CC.out
          cases hlv : lt dj[j]! dj[j - 1]! with
          | true =>
            rw [hlv] at hl
            go_wp2_with (first
              | (go_at_call 24; refine hl.mono ?_; rintro e w1 ⟨rfl, hJ1⟩; have mS := hJ1.mS CC.out)
              | (go_at_call 23; rw [show (j : Int) - 1 = ((j - 1 : Nat) : Int) by omega]; refine (hJ1.swap CC.out j (j - 1) (by omega) (by omega)).mono ?_; rintro e w2 ⟨rfl, hJ2⟩))
            go_roundw
            case rel =>
              (repeat apply Exists.intro)
              refine ⟨⟨j - 1, swp dj j (j - 1), by congr 1 <;> omega, by omega, by omega, hJ2, ?_⟩, by rw [decide_eq_true hlt, show ((j - 1 : Nat) : Int) = (j : Int) - 1 by omega]⟩
              show _ = _
              rw [← HI.out, insInner_go lt a j dj hja hlv]
            case measure => simp [intOf]; omega
          | false =>
            rw [hlv] at hl
            go_wp2_with (go_at_call 24; refine hl.mono ?_; rintro e w1 ⟨rfl, hJ1⟩)
            go_roundw
            case rel => exact ⟨i + 1, dj, by go_num, by omega, by omega, hJ1, HGO.out (Or.inr hlv)⟩
            case measure => simp [intOf]; omega
        · go_wp2
          go_roundw
          case rel => exact ⟨i + 1, dj, by go_num, by omega, by omega, hJ, HGO.out (Or.inl (by omega))⟩
          case measure => simp [intOf]; omega
    · have hge : ¬ i < z := by assumption
      go_end0
      refine ⟨rfl, ?_⟩
      have := HO.out
      rw [insOuter_stop _ _ _ _ _ hge] at this
      unfold Sort.insertionSort
      rw [← this]
      exact hR
end
end Go.Proofs.Ytdmeackaiamkcaa.A
