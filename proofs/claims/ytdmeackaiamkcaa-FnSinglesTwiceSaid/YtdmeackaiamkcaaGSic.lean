import Derived.Test.YtdmeackaiamkcaaGSib
namespace Go.Proofs.Ytdmeackaiamkcaa.A
set_option linter.unusedVariables false
set_option linter.unusedSimpArgs false
open Go.RowKit Go.Lib Go.Sort Go.Proofs.YtdmeackaiamkcaaW.PrintWords Go.Proofs.YtdmeackaiamkcaaW.PrintLast Go.Proofs.YtdmeackaiamkcaaW.PrintMore
section
variable {enc : Nat → Value} {lt : Nat → Nat → Bool} {W0 W : World} {sv : Value} {b q n : Nat} {d : Array Nat}

/-- The two methods at whatever numbers stand for two places. -/
theorem Row.lessZ (C : PS enc lt W0 sv b q n) (S : Row enc W0 b n d W) (i j : Nat) {v : Bool} (hv : lt d[i]! d[j]! = v) (x y : Int) (hx : x = i) (hy : y = j) (hi : i < n) (hj : j < n) :
    Calls Try.prog 24 #[sv, .int .i64 x, .int .i64 y] W fun e w' => e = .returned (.bool v) ∧ Row enc W0 b n d w' := by
  rw [hx, hy, ← hv]
  exact S.less C i j hi hj
theorem Row.swapZ (C : PS enc lt W0 sv b q n) (S : Row enc W0 b n d W) (i j : Nat) (x y : Int) (hx : x = i) (hy : y = j) (hi : i < n) (hj : j < n) :
    Calls Try.prog 23 #[sv, .int .i64 x, .int .i64 y] W fun e w' => e = .returned (.tuple #[]) ∧ Row enc W0 b n (swp d i j) w' := by
  rw [hx, hy]
  exact S.swap C i j hi hj

set_option maxHeartbeats 2000000 in
set_option maxRecDepth 100000 in
theorem ptr_siftDown (C : PS enc lt W0 sv b q n) (lo hi first : Nat) (S : Row enc W0 b n d W) (hlo : lo ≤ hi) (hb : first + hi ≤ n) :
    Calls Try.prog 46 #[.iface 53 (.pointer (some ⟨q, 0, none⟩)), .int .i64 lo, .int .i64 hi, .int .i64 first] W fun e w' => e = .returned (.tuple #[]) ∧ Row enc W0 b n (siftDown lt hi first lo d) w' := by
  have hn := C.few
  have CC := Aside0.mk C
  clear C
  go_enter Try.func46, Try.ntmps46
  go_wp2
  go_loopg [8] (hi - lo) (fun kx s8 wr => ∃ (root : Nat) (dk : Array Nat), s8 = .int .i64 root ∧ root ≤ hi ∧ hi - root ≤ kx ∧ Row enc W0 b n dk wr ∧ Hid (siftDown lt hi first root dk = siftDown lt hi first lo d))
  case atStart => exact ⟨lo, d, rfl, hlo, Nat.le_refl _, S, rfl⟩
  case round =>
    obtain ⟨root, dk, rfl, hr, hkx, hR, HE⟩ := hrel
    clear S
    have mL := hR.mL CC.out
    by_cases h0 : hi ≤ 2 * root + 1
    · have h0z : (hi : Int) ≤ 2 * (root : Int) + 1 := by omega
      go_wp2
      go_end0
      refine ⟨rfl, ?_⟩
      rw [← HE.out, sd_end lt dk h0]
      exact hR
    · have h0z : ¬ ((hi : Int) ≤ 2 * (root : Int) + 1) := by omega
      by_cases h1 : 2 * root + 2 < hi
      · have h1z : 2 * (root : Int) + 1 + 1 < (hi : Int) := by omega
        cases hL : lt dk[first + (2 * root + 1)]! dk[first + (2 * root + 2)]! with
        | true =>
          cases hG : lt dk[first + root]! dk[first + (2 * root + 2)]! with
          | true =>
            go_wp2_with (first
              | (go_at_call 24; refine (hR.lessZ CC.out (first + (2 * root + 1)) (first + (2 * root + 2)) hL _ _ (by omega) (by omega) (by omega) (by omega)).mono ?_; rintro e w1 ⟨rfl, hR1⟩; have mL1 := hR1.mL CC.out)
              | (go_at_call 24; refine (hR1.lessZ CC.out (first + root) (first + (2 * root + 2)) hG _ _ (by omega) (by omega) (by omega) (by omega)).mono ?_; rintro e w2 ⟨rfl, hR2⟩; have mS2 := hR2.mS CC.out)
              | (go_at_call 23; refine (hR2.swapZ CC.out (first + root) (first + (2 * root + 2)) _ _ (by omega) (by omega) (by omega) (by omega)).mono ?_; rintro e w3 ⟨rfl, hR3⟩))
            go_roundg (hi - (2 * root + 2))
            case measure => omega
            case rel => exact ⟨2 * root + 2, swp dk (first + root) (first + (2 * root + 2)), by go_num, by omega, Nat.le_refl _, hR3, (show Hid _ from by rw [← HE.out, sd_right_go lt dk h1 hL hG]; exact rfl)⟩
          | false =>
            go_wp2_with (first
              | (go_at_call 24; refine (hR.lessZ CC.out (first + (2 * root + 1)) (first + (2 * root + 2)) hL _ _ (by omega) (by omega) (by omega) (by omega)).mono ?_; rintro e w1 ⟨rfl, hR1⟩; have mL1 := hR1.mL CC.out)
              | (go_at_call 24; refine (hR1.lessZ CC.out (first + root) (first + (2 * root + 2)) hG _ _ (by omega) (by omega) (by omega) (by omega)).mono ?_; rintro e w2 ⟨rfl, hR2⟩))
            (try simp only [Exit.inBlock, Exit.then]); refine bodyPost_ret (results_none rfl _ _ _) rfl ?_
            refine ⟨rfl, ?_⟩
            rw [← HE.out, sd_right_stop lt dk h1 hL hG]
            exact hR2
        | false =>
          cases hG : lt dk[first + root]! dk[first + (2 * root + 1)]! with
          | true =>
            go_wp2_with (first
              | (go_at_call 24; refine (hR.lessZ CC.out (first + (2 * root + 1)) (first + (2 * root + 2)) hL _ _ (by omega) (by omega) (by omega) (by omega)).mono ?_; rintro e w1 ⟨rfl, hR1⟩; have mL1 := hR1.mL CC.out)
              | (go_at_call 24; refine (hR1.lessZ CC.out (first + root) (first + (2 * root + 1)) hG _ _ (by omega) (by omega) (by omega) (by omega)).mono ?_; rintro e w2 ⟨rfl, hR2⟩; have mS2 := hR2.mS CC.out)
              | (go_at_call 23; refine (hR2.swapZ CC.out (first + root) (first + (2 * root + 1)) _ _ (by omega) (by omega) (by omega) (by omega)).mono ?_; rintro e w3 ⟨rfl, hR3⟩))
            go_roundg (hi - (2 * root + 1))
            case measure => omega
            case rel => exact ⟨2 * root + 1, swp dk (first + root) (first + (2 * root + 1)), by go_num, by omega, Nat.le_refl _, hR3, (show Hid _ from by rw [← HE.out, sd_left_go lt dk (by omega) (fun _ => hL) hG]; exact rfl)⟩
          | false =>
            go_wp2_with (first
              | (go_at_call 24; refine (hR.lessZ CC.out (first + (2 * root + 1)) (first + (2 * root + 2)) hL _ _ (by omega) (by omega) (by omega) (by omega)).mono ?_; rintro e w1 ⟨rfl, hR1⟩; have mL1 := hR1.mL CC.out)
              | (go_at_call 24; refine (hR1.lessZ CC.out (first + root) (first + (2 * root + 1)) hG _ _ (by omega) (by omega) (by omega) (by omega)).mono ?_; rintro e w2 ⟨rfl, hR2⟩))
            (try simp only [Exit.inBlock, Exit.then]); refine bodyPost_ret (results_none rfl _ _ _) rfl ?_
            refine ⟨rfl, ?_⟩
            rw [← HE.out, sd_left_stop lt dk (by omega) (fun _ => hL) hG]
            exact hR2
      · have h1z : ¬ (2 * (root : Int) + 1 + 1 < (hi : Int)) := by omega
        cases hG : lt dk[first + root]! dk[first + (2 * root + 1)]! with
        | true =>
          go_wp2_with (first
            | (go_at_call 24; refine (hR.lessZ CC.out (first + root) (first + (2 * root + 1)) hG _ _ (by omega) (by omega) (by omega) (by omega)).mono ?_; rintro e w2 ⟨rfl, hR2⟩; have mS2 := hR2.mS CC.out)
            | (go_at_call 23; refine (hR2.swapZ CC.out (first + root) (first + (2 * root + 1)) _ _ (by omega) (by omega) (by omega) (by omega)).mono ?_; rintro e w3 ⟨rfl, hR3⟩))
          go_roundg (hi - (2 * root + 1))
          case measure => omega
          case rel => exact ⟨2 * root + 1, swp dk (first + root) (first + (2 * root + 1)), by go_num, by omega, Nat.le_refl _, hR3, (show Hid _ from by rw [← HE.out, sd_left_go lt dk (by omega) (fun h => absurd h h1) hG]; exact rfl)⟩
        | false =>
          go_wp2_with (go_at_call 24; refine (hR.lessZ CC.out (first + root) (first + (2 * root + 1)) hG _ _ (by omega) (by omega) (by omega) (by omega)).mono ?_; rintro e w2 ⟨rfl, hR2⟩)
          (try simp only [Exit.inBlock, Exit.then]); refine bodyPost_ret (results_none rfl _ _ _) rfl ?_
          refine ⟨rfl, ?_⟩
          rw [← HE.out, sd_left_stop lt dk (by omega) (fun h => absurd h h1) hG]
          exact hR2

set_option maxHeartbeats 2000000 in
set_option maxRecDepth 100000 in
theorem ptr_heapSort (C : PS enc lt W0 sv b q n) (a z : Nat) (S : Row enc W0 b n d W) (haz : a ≤ z) (hz : z ≤ n) :
    Calls Try.prog 39 #[.iface 53 (.pointer (some ⟨q, 0, none⟩)), .int .i64 a, .int .i64 z] W fun e w' => e = .returned (.tuple #[]) ∧ Row enc W0 b n (heapSort lt d a z) w' := by
  have hn := C.few
  have CC := Aside0.mk C
  clear C
  have ecast : ((z - a : Nat) : Int) = (z : Int) - (a : Int) := by omega
  go_enter Try.func39, Try.ntmps39
  go_wp2
  go_loopg [9] ((z - a - 1) / 2 + 1) (fun kx s9 wr => s9 = .int .i64 ((kx : Int) - 1) ∧ kx ≤ (z - a - 1) / 2 + 1 ∧ ∃ (dk : Array Nat), Row enc W0 b n dk wr ∧
    Hid (heapBuild lt (z - a) a kx dk = heapBuild lt (z - a) a ((z - a - 1) / 2 + 1) d))
  case atStart => exact ⟨by rw [half_start haz], Nat.le_refl _, d, S, rfl⟩
  case round =>
    clear S
    obtain ⟨rfl, hkk, dk, hR, HE⟩ := hrel
    cases gk with
    | zero =>
      have hB : dk = heapBuild lt (z - a) a ((z - a - 1) / 2 + 1) d := HE.out
      clear HE hkk
      go_wp2
      go_loopg [10] (z - a) (fun kx s10 wr2 => s10 = .int .i64 ((kx : Int) - 1) ∧ kx ≤ z - a ∧ ∃ (dj : Array Nat), Row enc W0 b n dj wr2 ∧ Hid (heapPop lt a kx dj = heapPop lt a (z - a) dk))
      case atStart => exact ⟨by rw [ecast], Nat.le_refl _, dk, hR, rfl⟩
      case round =>
        clear hR
        obtain ⟨rfl, hkk, dj, hR, HE2⟩ := hrel
        cases gk with
        | zero =>
          go_wp2
          go_end0
          have e : dj = heapSort lt d a z := by rw [heapSort, ← hB, ← HE2.out]; rfl
          rw [← e]
          exact ⟨rfl, hR⟩
        | succ kx =>
          have mS := hR.mS CC.out
          go_wp2_with (first
            | (go_at_call 23; refine (hR.swapZ CC.out a (a + kx) _ _ (by omega) (by omega) (by omega) (by omega)).mono ?_; rintro e w1 ⟨rfl, hR1⟩; have hR1' := Aside0.mk hR1; clear hR1)
            | (go_at_call 46; refine (ptr_siftDown CC.out 0 kx a hR1'.out (Nat.zero_le _) (by omega)).mono ?_; rintro e w2 ⟨rfl, hR2⟩))
          go_roundg kx
          case measure => omega
          case rel => exact ⟨by simp, by omega, _, hR2, HE2⟩
    | succ kx =>
      have hcall := ptr_siftDown CC.out kx (z - a) a hR (by omega) (by omega)
      rw [ecast] at hcall
      go_wp2_with (go_at_call 46; refine hcall.mono ?_; rintro e w1 ⟨rfl, hR1⟩)
      go_roundg kx
      case measure => omega
      case rel => exact ⟨by simp, by omega, _, hR1, HE⟩

set_option maxHeartbeats 2000000 in
set_option maxRecDepth 100000 in
theorem ptr_reverseRange (C : PS enc lt W0 sv b q n) (a z : Nat) (S : Row enc W0 b n d W) (haz : a ≤ z) (hz : z ≤ n) :
    Calls Try.prog 42 #[.iface 53 (.pointer (some ⟨q, 0, none⟩)), .int .i64 a, .int .i64 z] W fun e w' => e = .returned (.tuple #[]) ∧ Row enc W0 b n (reverseRange d a z) w' := by
  have hn := C.few
  have CC := Aside0.mk C
  clear C
  go_enter Try.func42, Try.ntmps42
  go_wp2
  go_loopg [6, 7] (z - a) (fun k s6 s7 wr => ∃ (i jn : Nat) (jz : Int) (dk : Array Nat), s6 = .int .i64 i ∧ s7 = .int .i64 jz ∧ ((i : Int) < jz → jz = jn ∧ jn < n) ∧ (¬ (i : Int) < jz → ¬ i < jn) ∧ jn - i ≤ k ∧
    Row enc W0 b n dk wr ∧ Hid (reverseLoop i jn dk = reverseLoop a (z - 1) d))
  case atStart => exact ⟨a, z - 1, (z : Int) - 1, d, rfl, rfl, fun h => ⟨by omega, by omega⟩, fun h => by omega, by omega, S, rfl⟩
  case round =>
    clear S
    obtain ⟨i, jn, jz, dk, rfl, rfl, h1, h2, hk, hR, HE⟩ := hrel
    by_cases hlt : (i : Int) < jz
    · obtain ⟨rfl, hjn⟩ := h1 hlt
      have hij : i < jn := by omega
      have mS := hR.mS CC.out
      clear h1 h2
      go_wp2_with (go_at_call 23; refine (hR.swapZ CC.out i jn _ _ (by omega) (by omega) (by omega) (by omega)).mono ?_; rintro e w1 ⟨rfl, hR1⟩)
      go_roundg (jn - 1 - (i + 1))
      case measure => omega
      case rel =>
        have heq := HE.out
        rw [reverseLoop, if_pos hij] at heq
        exact ⟨i + 1, jn - 1, (jn : Int) - 1, swp dk i jn, by simp, rfl, fun h => ⟨by omega, by omega⟩, fun h => by omega, Nat.le_refl _, hR1, heq⟩
    · have hnot := h2 hlt
      clear h1 h2
      go_wp2
      go_end0
      refine ⟨rfl, ?_⟩
      have heq := HE.out
      rw [reverseLoop, if_neg hnot] at heq
      rw [reverseRange, ← heq]
      exact hR
end
end Go.Proofs.Ytdmeackaiamkcaa.A
