import Derived.Test.YtdmeackaiamkcaaGSif
namespace Go.Proofs.Ytdmeackaiamkcaa.A
set_option linter.unusedVariables false
set_option linter.unusedSimpArgs false
open Go.RowKit Go.Lib Go.Sort Go.Proofs.YtdmeackaiamkcaaW.PrintWords Go.Proofs.YtdmeackaiamkcaaW.PrintLast Go.Proofs.YtdmeackaiamkcaaW.PrintMore
section
variable {enc : Nat → Value} {lt : Nat → Nat → Bool} {W0 W : World} {sv : Value} {b q n : Nat} {d : Array Nat}

set_option maxHeartbeats 2000000 in
set_option maxRecDepth 100000 in
theorem ptr_choosePivot (C : PS enc lt W0 sv b q n) (a z : Nat) (S : Row enc W0 b n d W) (haz : a < z) (hz : z ≤ n) :
    Calls Try.prog 41 #[.iface 53 (.pointer (some ⟨q, 0, none⟩)), .int .i64 a, .int .i64 z] W fun e w' =>
      e = .returned (.tuple #[.int .i64 (choosePivot lt d a z).1, .int .i64 (hintCode (choosePivot lt d a z).2)]) ∧ Row enc W0 b n d w' := by
  have hn := C.few
  rw [choosePivot_eq]
  obtain ⟨I, hI⟩ : ∃ I : Nat, I = a + (z - a) / 4 * 1 := ⟨_, rfl⟩
  obtain ⟨J, hJ⟩ : ∃ J : Nat, J = a + (z - a) / 4 * 2 := ⟨_, rfl⟩
  obtain ⟨K, hK⟩ : ∃ K : Nat, K = a + (z - a) / 4 * 3 := ⟨_, rfl⟩
  have eI : ((a : Int) + ((z : Int) - (a : Int)) / 4) = (I : Int) := by omega
  have eJ : ((a : Int) + ((z : Int) - (a : Int)) / 4 * 2) = (J : Int) := by omega
  have eK : ((a : Int) + ((z : Int) - (a : Int)) / 4 * 3) = (K : Int) := by omega
  obtain ⟨cb, hcb⟩ : ∃ cb, cb = W.heap.size := ⟨_, rfl⟩
  have hle : W0.heap.size ≤ cb := by rw [hcb]; exact S.le
  have S0 := S.alloc (.cells #[.int .i64 ((0 : Nat) : Int)] 3)
  have hc0 : (W.alloc (.cells #[.int .i64 ((0 : Nat) : Int)] 3)).heap[cb]? = some (.cells #[.int .i64 ((0 : Nat) : Int)] 3 (0, 0)) := by rw [hcb]; exact heap_alloc_new W _
  -- the test at the end: the counter's number tells the hint
  have fin : ∀ (p s : Nat), rawPivot lt d a z = (p, s) → ((rawPivot lt d a z).1, hintOf (rawPivot lt d a z).2) = (p, hintOf s) := fun p s h => by rw [h]
  by_cases h8 : z - a ≥ 8
  · by_cases h50 : z - a ≥ 50
    · obtain ⟨i1, s1, h1⟩ : ∃ i1 s1, medianAdjacent lt d I 0 = (i1, s1) := ⟨_, _, rfl⟩
      obtain ⟨j1, s2, h2⟩ : ∃ j1 s2, medianAdjacent lt d J s1 = (j1, s2) := ⟨_, _, rfl⟩
      obtain ⟨k1, s3, h3⟩ : ∃ k1 s3, medianAdjacent lt d K s2 = (k1, s3) := ⟨_, _, rfl⟩
      obtain ⟨p, s, h4⟩ : ∃ p s, median lt d i1 j1 k1 s3 = (p, s) := ⟨_, _, rfl⟩
      have hraw : rawPivot lt d a z = (p, s) := by simp only [rawPivot, if_pos h8, if_pos h50, ← hI, ← hJ, ← hK, h1, h2, h3, h4]
      have m1 := medianAdjacent_mem lt d I 0; rw [h1] at m1
      have m2 := medianAdjacent_mem lt d J s1; rw [h2] at m2
      have m3 := medianAdjacent_mem lt d K s2; rw [h3] at m3
      have n1 := medianAdjacent_count lt d I 0; rw [h1] at n1
      have n2 := medianAdjacent_count lt d J s1; rw [h2] at n2
      have n3 := medianAdjacent_count lt d K s2; rw [h3] at n3
      simp only [] at m1 m2 m3 n1 n2 n3
      have c1 := ptr_medianAdjacent C I cb 0 S0 (by omega) (by omega) hle hc0 (by omega)
      rw [h1] at c1
      have c2 := fun (W1 : World) (S1 : Row enc W0 b n d W1) (g : W1.heap[cb]? = some (.cells #[.int .i64 s1] 3 (0, 0))) => ptr_medianAdjacent C J cb s1 S1 (by omega) (by omega) hle g (by omega)
      simp only [h2] at c2
      have c3 := fun (W1 : World) (S1 : Row enc W0 b n d W1) (g : W1.heap[cb]? = some (.cells #[.int .i64 s2] 3 (0, 0))) => ptr_medianAdjacent C K cb s2 S1 (by omega) (by omega) hle g (by omega)
      simp only [h3] at c3
      have c4 := fun (W1 : World) (S1 : Row enc W0 b n d W1) (g : W1.heap[cb]? = some (.cells #[.int .i64 s3] 3 (0, 0))) => ptr_median C i1 j1 k1 cb s3 S1 (by omega) (by omega) (by omega) hle g (by omega)
      simp only [h4] at c4
      rw [fin p s hraw]
      obtain ⟨Hc, hHc⟩ : ∃ Hc : Int, Hc = hintCode (hintOf s) := ⟨_, rfl⟩
      have hh0 : s = 0 → Hc = 1 := fun h => by rw [hHc, h]; rfl
      have hh12 : s = 12 → Hc = 2 := fun h => by rw [hHc, h]; rfl
      have hhx : s ≠ 0 → s ≠ 12 → Hc = 0 := fun h1 h2 => by rw [hHc]; unfold hintOf; rw [if_neg h1, if_neg h2]; rfl
      show Calls Try.prog 41 _ W fun e w' => e = .returned (.tuple #[.int .i64 (p : Int), .int .i64 (hintCode (hintOf s))]) ∧ Row enc W0 b n d w'
      rw [← hHc]
      subst hcb
      replace c1 : Calls Try.prog 49 #[.iface 53 (.pointer (some ⟨q, 0, none⟩)), .int .i64 (I : Int), .pointer (some ⟨W.heap.size, 0, none⟩)] (W.alloc (.cells #[.int .i64 0] 3)) _ := c1
      clear hHc hraw fin h1 h2 h3 h4 hI hJ hK m1 m2 m3 n1 n2 n3 C S S0 hc0
      go_enter Try.func41, Try.ntmps41
      go_wp2_with (first
        | (go_at_call 49; refine c1.mono ?_; clear c1; rintro e w1 ⟨rfl, hR1, hc1⟩)
        | (go_at_call 49; refine (c2 _ hR1 hc1).mono ?_; clear c2; rintro e w2 ⟨rfl, hR2, hc2⟩)
        | (go_at_call 49; refine (c3 _ hR2 hc2).mono ?_; clear c3; rintro e w3 ⟨rfl, hR3, hc3⟩)
        | (go_at_call 50; refine (c4 _ hR3 hc3).mono ?_; clear c4; rintro e w4 ⟨rfl, hR4, hc4⟩; have cc4 : w4.cell? ⟨W.heap.size, 0, none⟩ = some (.int .i64 s) := blk_cell hc4 0))
      all_goals
        go_ret2
        refine ⟨?_, hR4⟩
        first
          | (have e0 : (s : Int) = 0 := of_beq_int (by assumption)
             rw [hh0 (by omega)]; rfl)
          | (have e1 : (s : Int) = 12 := of_beq_int (by assumption)
             rw [hh12 (by omega)]; rfl)
          | (have e0 : (s : Int) ≠ 0 := of_bne_int (by assumption)
             have e1 : (s : Int) ≠ 12 := of_bne_int (by assumption)
             rw [hhx (by omega) (by omega)]; rfl)
    · obtain ⟨p, s, h4⟩ : ∃ p s, median lt d I J K 0 = (p, s) := ⟨_, _, rfl⟩
      have hraw : rawPivot lt d a z = (p, s) := by simp only [rawPivot, if_pos h8, if_neg h50, ← hI, ← hJ, ← hK, h4]
      have c4 := ptr_median C I J K cb 0 S0 (by omega) (by omega) (by omega) hle hc0 (by omega)
      rw [h4] at c4
      rw [fin p s hraw]
      obtain ⟨Hc, hHc⟩ : ∃ Hc : Int, Hc = hintCode (hintOf s) := ⟨_, rfl⟩
      have hh0 : s = 0 → Hc = 1 := fun h => by rw [hHc, h]; rfl
      have hh12 : s = 12 → Hc = 2 := fun h => by rw [hHc, h]; rfl
      have hhx : s ≠ 0 → s ≠ 12 → Hc = 0 := fun h1 h2 => by rw [hHc]; unfold hintOf; rw [if_neg h1, if_neg h2]; rfl
      show Calls Try.prog 41 _ W fun e w' => e = .returned (.tuple #[.int .i64 (p : Int), .int .i64 (hintCode (hintOf s))]) ∧ Row enc W0 b n d w'
      rw [← hHc]
      subst hcb
      replace c4 : Calls Try.prog 50 #[.iface 53 (.pointer (some ⟨q, 0, none⟩)), .int .i64 (I : Int), .int .i64 (J : Int), .int .i64 (K : Int), .pointer (some ⟨W.heap.size, 0, none⟩)] (W.alloc (.cells #[.int .i64 0] 3)) _ := c4
      clear hHc hraw fin h4 hI hJ hK C S S0 hc0
      go_enter Try.func41, Try.ntmps41
      go_wp2_with (go_at_call 50; refine c4.mono ?_; clear c4; rintro e w4 ⟨rfl, hR4, hc4⟩; have cc4 : w4.cell? ⟨W.heap.size, 0, none⟩ = some (.int .i64 s) := blk_cell hc4 0)
      all_goals
        go_ret2
        refine ⟨?_, hR4⟩
        first
          | (have e0 : (s : Int) = 0 := of_beq_int (by assumption)
             rw [hh0 (by omega)]; rfl)
          | (have e1 : (s : Int) = 12 := of_beq_int (by assumption)
             rw [hh12 (by omega)]; rfl)
          | (have e0 : (s : Int) ≠ 0 := of_bne_int (by assumption)
             have e1 : (s : Int) ≠ 12 := of_bne_int (by assumption)
             rw [hhx (by omega) (by omega)]; rfl)
  · have hraw : rawPivot lt d a z = (J, 0) := by simp only [rawPivot, if_neg h8, ← hJ]
    rw [fin J 0 hraw]
    show Calls Try.prog 41 _ W fun e w' => e = .returned (.tuple #[.int .i64 (J : Int), .int .i64 1]) ∧ Row enc W0 b n d w'
    subst hcb
    have S1 : Row enc W0 b n d (W.alloc (.cells #[.int .i64 0] 3)) := S0
    clear hraw fin hI hJ hK C S S0 hc0
    go_enter Try.func41, Try.ntmps41
    go_wp2
    go_ret2
    exact ⟨rfl, S1⟩
end
end Go.Proofs.Ytdmeackaiamkcaa.A
