import Derived.Test.YtdmeackaiamkcaaGSii
namespace Go.Proofs.Ytdmeackaiamkcaa.A
set_option linter.unusedVariables false
set_option linter.unusedSimpArgs false
open Go.RowKit Go.Lib Go.Sort Go.Proofs.YtdmeackaiamkcaaW.PrintWords Go.Proofs.YtdmeackaiamkcaaW.PrintLast Go.Proofs.YtdmeackaiamkcaaW.PrintMore

theorem bitsLen_any (n : Nat) (hn : n ≤ 1000000) (w : World) : Calls Try.prog 34 #[.int .u64 (n : Int)] w fun e w' => e = .returned (.int .i64 (Lib.bitLen n : Nat)) ∧ w' = w := by
  have L : LaysGt.n17 Try.prog _ := { Try.sl11 with }
  have h := Any.bits_Len (LaysGg.n13.bits L.elder) (n : Int) w (by omega) (by omega)
  rw [Int.toNat_natCast] at h
  exact h

set_option maxHeartbeats 1000000 in
set_option maxRecDepth 100000 in
theorem ptr_Sort_tiny (A : Option Addr) (n c q : Nat) (W : World) (hn : n ≤ 1) (hq : W.heap[q]? = some (.cells #[.slice A n c] 36 (0, 0))) :
    Calls Try.prog 33 #[.iface 53 (.pointer (some ⟨q, 0, none⟩))] W fun e w' => e = .returned (.tuple #[]) ∧ ∃ k, w' = W.drewN k := by
  have mN := ptr_meth row53_len q _ W (blk_cell hq 0)
  have hl := err_LenM A n c W
  unfold LenM at hl
  clear hq
  go_enter Try.func33, Try.ntmps33
  go_wp2_with (go_at_call 26; refine hl.mono ?_; clear hl; rintro e w' ⟨rfl, k, rfl⟩)
  all_goals first | (exfalso; omega) | ((try simp only [Exit.inBlock, Exit.then]); refine bodyPost_ret (results_none rfl _ _ _) rfl ?_; exact ⟨rfl, k, rfl⟩)

section
variable {enc : Nat → Value} {lt : Nat → Nat → Bool} {W0 W : World} {b q n : Nat} {d : Array Nat}
set_option maxHeartbeats 1000000 in
set_option maxRecDepth 100000 in
theorem ptr_Sort_many (A : Option Addr) (c : Nat) (C : PS enc lt W0 (.slice A n c) b q n) (hO : SWO lt) (S : Row enc W0 b n d W) (h2 : 2 ≤ n) :
    Calls Try.prog 33 #[.iface 53 (.pointer (some ⟨q, 0, none⟩))] W fun e w' => e = .returned (.tuple #[]) ∧ Row enc W0 b n (pdq lt d 0 n (Lib.bitLen n) true true) w' := by
  have hn := C.few
  have mN := S.mN C
  have hl := err_LenM A n c W
  unfold LenM at hl
  have wr : IntKind.u64.wrap (n : Int) = n := by simp [IntKind.wrap, IntKind.bits, IntKind.signed]; omega
  have hlim : Lib.bitLen n < 4611686018427387904 := Nat.lt_of_le_of_lt (Lib.bitLen_le n 62 (by omega) (by omega)) (by omega)
  have hb := fun w => bitsLen_any n (by omega) w
  have hp := fun k => ptr_pdqsort C hO (n + 1) 0 n (Lib.bitLen n) d (W.drewN k) (by omega) (S.drewN k) (Nat.zero_le _) (Nat.le_refl _) hlim (Or.inl rfl)
  clear C S
  go_enter Try.func33, Try.ntmps33
  go_wp2_with (first
    | (go_at_call 26; refine hl.mono ?_; clear hl; rintro e w' ⟨rfl, k, rfl⟩)
    | (go_at_call 34; refine (hb _).mono ?_; rintro e w' ⟨rfl, rfl⟩)
    | (go_at_call 35; refine (hp _).mono ?_; rintro e w' ⟨rfl, hR⟩))
  all_goals first
    | (exfalso; omega)
    | (go_end0; exact ⟨rfl, hR⟩)
end
end Go.Proofs.Ytdmeackaiamkcaa.A
