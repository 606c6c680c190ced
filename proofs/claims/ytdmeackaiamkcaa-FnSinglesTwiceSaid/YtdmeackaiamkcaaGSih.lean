import Derived.Test.YtdmeackaiamkcaaGSig
namespace Go.Proofs.Ytdmeackaiamkcaa.A
set_option linter.unusedVariables false
set_option linter.unusedSimpArgs false
open Go.RowKit Go.Lib Go.Sort Go.Proofs.YtdmeackaiamkcaaW.PrintWords Go.Proofs.YtdmeackaiamkcaaW.PrintLast Go.Proofs.YtdmeackaiamkcaaW.PrintMore
section
variable {enc : Nat → Value} {lt : Nat → Nat → Bool} {W0 W : World} {sv : Value} {b q n : Nat} {d : Array Nat}

theorem next_any (rb R : Nat) (hR : R < 18446744073709551616) (w : World) (hc : w.cell? ⟨rb, 0, none⟩ = some (.int .u64 R)) (hf : w.frozen? ⟨rb, 0, none⟩ = false) :
    Calls Try.prog 48 #[.pointer (some ⟨rb, 0, none⟩)] w fun e w' => e = .returned (.int .u64 (xorNextN R : Nat)) ∧ w' = (w.setCell ⟨rb, 0, none⟩ (.int .u64 (xorNextN R : Nat))).drewN 3 := by
  have L : LaysGt.n45 Try.prog _ := { Try.sl11 with }
  exact Any.xorshift_Next (LaysGt.n45.elder L) rb 0 R hR w hc hf

theorem power_any (L : Nat) (hL : L ≤ 1000000) (w : World) : Calls Try.prog 47 #[.int .i64 (L : Int)] w fun e w' => e = .returned (.int .u64 ((1 <<< bitsLen L : Nat) : Int)) ∧ w' = w := by
  have L' : LaysGt.n44 Try.prog _ := { Try.sl11 with }
  exact Any.nextPowerOfTwo (LaysGt.n44.elder L') L (by omega) w

theorem cell_blk {w w' : World} {p : Nat} (h : w'.heap[p]? = w.heap[p]?) (o : Nat) : w'.cell? ⟨p, o, none⟩ = w.cell? ⟨p, o, none⟩ := World.cell?_of_block (w := w) h
theorem fz_blk {w w' : World} {p : Nat} (h : w'.heap[p]? = w.heap[p]?) (o : Nat) : w'.frozen? ⟨p, o, none⟩ = w.frozen? ⟨p, o, none⟩ := World.frozen?_of_block (w := w) h

set_option maxHeartbeats 4000000 in
set_option maxRecDepth 100000 in
theorem ptr_breakPatterns_go (C : PS enc lt W0 sv b q n) (a L : Nat) (S : Row enc W0 b n d W) (hz : a + L ≤ n) (h8 : 8 ≤ L) :
    Calls Try.prog 40 #[.iface 53 (.pointer (some ⟨q, 0, none⟩)), .int .i64 a, .int .i64 ((a + L : Nat) : Int)] W fun e w' => e = .returned (.tuple #[]) ∧ Row enc W0 b n (breakPatterns d a (a + L)) w' := by
  have hn := C.few
  have CC := Aside0.mk C
  have hbB : W.heap.size ≠ b := by have := S.le; have := C.blk; omega
  have hle : W0.heap.size ≤ W.heap.size := S.le
  clear C
  rw [breakPatterns_eq d a L h8]
  obtain ⟨M, hM⟩ : ∃ M : Nat, M = 1 <<< bitsLen L := ⟨_, rfl⟩
  have hM1 : 1 ≤ M := by rw [hM, Nat.one_shiftLeft]; exact Nat.two_pow_pos _
  have hM2 : M ≤ 2 * L := by rw [hM, Nat.one_shiftLeft]; exact two_pow_bitsLen_le (by omega)
  have hNP := fun w => power_any L (by omega) w
  rw [← hM] at hNP ⊢
  clear hM
  have hLz : ((a : Int) + (L : Int) - (a : Int)) = (L : Int) := by omega
  have h8z : (8 : Int) ≤ (L : Int) := by omega
  go_enter Try.func40, Try.ntmps40
  go_wp2_with (go_at_call 47; refine (hNP _).mono ?_; rintro e w' ⟨rfl, rfl⟩)
  go_loopg [9] 3 (fun g1 vi wr => ∃ (t : Nat) (r : UInt64) (dk : Array Nat), vi = .int .i64 ((a : Int) + (L : Int) / 4 * 2 - 1 + (t : Int)) ∧ t ≤ 3 ∧ 3 - t ≤ g1 ∧ Aside0 (Row enc W0 b n dk wr) ∧
      wr.cell? ⟨W.heap.size, 0, none⟩ = some (.int .u64 (r.toNat : Int)) ∧ wr.frozen? ⟨W.heap.size, 0, none⟩ = false ∧
      Hid (bpRest a L M (a + L / 4 * 2 - 1) (3 - t) t (r, dk) = bpRest a L M (a + L / 4 * 2 - 1) 3 0 (UInt64.ofNat L, d)))
  case atStart =>
    refine ⟨0, UInt64.ofNat L, d, by simp, by omega, by omega, ⟨S.alloc _⟩, ?_, by simp, rfl⟩
    rw [show (UInt64.ofNat L).toNat = L from by simp; omega]
    simp
  case round =>
    clear S
    obtain ⟨t, r, dk, rfl, ht, hg1, hR, cR, fR, HR⟩ := hrel
    by_cases ht3 : t < 3
    · have hle2 : (a : Int) + (L : Int) / 4 * 2 - 1 + (t : Int) ≤ (a : Int) + (L : Int) / 4 * 2 + 1 := by omega
      obtain ⟨R, hRr⟩ : ∃ R : Nat, R = r.toNat := ⟨_, rfl⟩
      have lR : R < 18446744073709551616 := by rw [hRr]; exact r.toNat_lt
      obtain ⟨R', hR'⟩ : ∃ R' : Nat, R' = xorNextN R := ⟨_, rfl⟩
      have lR' : R' < 18446744073709551616 := by rw [hR']; exact xorNextN_lt R lR
      obtain ⟨O, hO⟩ : ∃ O : Nat, O = R' &&& (M - 1) := ⟨_, rfl⟩
      have lO : O ≤ M - 1 := by rw [hO]; exact Nat.and_le_right
      have eAnd : bits .and .u64 (R' : Int) ((M : Int) - 1) = (O : Int) := by
        rw [show ((M : Int) - 1) = ((M - 1 : Nat) : Int) by omega, bits_and_u64_nat _ _ lR' (by omega), hO]
      rw [← hRr] at cR
      have hNext := next_any W.heap.size R lR wr cR fR
      rw [← hR'] at hNext
      have HN : Hid (R' = (xorNext r).toNat ∧ O = (xorNext r).toNat &&& (M - 1)) := by
        have e : R' = (xorNext r).toNat := by rw [hR', hRr, xorNext_toNat]
        exact ⟨e, by rw [hO, e]⟩
      clear hRr hR' hO
      have S2 := Aside0.mk ((hR.out.setNew W.heap.size 0 (.int .u64 (R' : Int)) hle).drewN 3)
      have mS := S2.out.mS CC.out
      have cR' : ((wr.setCell ⟨W.heap.size, 0, none⟩ (.int .u64 (R' : Int))).drewN 3).cell? ⟨W.heap.size, 0, none⟩ = some (.int .u64 (R' : Int)) := by
        rw [World.cell?_drewN]; exact World.cell?_setCell_same _ _ _ cR
      have fR' : ((wr.setCell ⟨W.heap.size, 0, none⟩ (.int .u64 (R' : Int))).drewN 3).frozen? ⟨W.heap.size, 0, none⟩ = false := by
        rw [World.frozen?_drewN]; simpa using fR
      generalize (wr.setCell ⟨W.heap.size, 0, none⟩ (.int .u64 (R' : Int))).drewN 3 = w2 at hNext S2 cR' fR' mS
      have CR' := Aside0.mk cR'
      have FR' := Aside0.mk fR'
      clear cR fR cR' fR'
      by_cases hLO : L ≤ O
      · have hLOz : (L : Int) ≤ (O : Int) := by omega
        go_wp2_with (first
          | (go_at_call 48; refine hNext.mono ?_; clear hNext; rintro e w' ⟨rfl, rfl⟩)
          | (go_at_call 23; refine (S2.out.swapH CC.out (a + L / 4 * 2 - 1 + t) (a + (O - L)) _ _ (by omega) (by omega) (by omega) (by omega)).mono ?_; rintro e w3 ⟨rfl, hR3, hK3⟩))
        go_roundg (3 - (t + 1))
        case measure => omega
        case rel => exact ⟨t + 1, xorNext r, swp dk (a + L / 4 * 2 - 1 + t) (a + (O - L)), by congr 1; push_cast; omega, by omega, Nat.le_refl _, ⟨hR3⟩, by rw [← HN.out.1, cell_blk (hK3 _ hbB) 0]; exact CR'.out, by rw [fz_blk (hK3 _ hbB) 0]; exact FR'.out,
          (show Hid _ from by rw [← HR.out, bp_step a L M _ t r dk (O - L) ht3 (by rw [← HN.out.2, if_pos (by omega)])]; exact rfl)⟩
      · have hLOz : ¬ (L : Int) ≤ (O : Int) := by omega
        go_wp2_with (first
          | (go_at_call 48; refine hNext.mono ?_; clear hNext; rintro e w' ⟨rfl, rfl⟩)
          | (go_at_call 23; refine (S2.out.swapH CC.out (a + L / 4 * 2 - 1 + t) (a + O) _ _ (by omega) (by omega) (by omega) (by omega)).mono ?_; rintro e w3 ⟨rfl, hR3, hK3⟩))
        go_roundg (3 - (t + 1))
        case measure => omega
        case rel => exact ⟨t + 1, xorNext r, swp dk (a + L / 4 * 2 - 1 + t) (a + O), by congr 1; push_cast; omega, by omega, Nat.le_refl _, ⟨hR3⟩, by rw [← HN.out.1, cell_blk (hK3 _ hbB) 0]; exact CR'.out, by rw [fz_blk (hK3 _ hbB) 0]; exact FR'.out,
          (show Hid _ from by rw [← HR.out, bp_step a L M _ t r dk O ht3 (by rw [← HN.out.2, if_neg (by omega)])]; exact rfl)⟩
    · obtain rfl : t = 3 := by omega
      have hle2 : ¬ ((a : Int) + (L : Int) / 4 * 2 - 1 + ((3 : Nat) : Int) ≤ (a : Int) + (L : Int) / 4 * 2 + 1) := by omega
      go_wp2
      go_end0
      refine ⟨rfl, ?_⟩
      rw [← HR.out]
      exact hR.out

theorem ptr_breakPatterns (C : PS enc lt W0 sv b q n) (a z : Nat) (S : Row enc W0 b n d W) (haz : a ≤ z) (hz : z ≤ n) :
    Calls Try.prog 40 #[.iface 53 (.pointer (some ⟨q, 0, none⟩)), .int .i64 a, .int .i64 z] W fun e w' => e = .returned (.tuple #[]) ∧ Row enc W0 b n (breakPatterns d a z) w' := by
  have hn := C.few
  obtain ⟨L, rfl⟩ : ∃ L, z = a + L := ⟨z - a, by omega⟩
  by_cases h8 : 8 ≤ L
  · exact ptr_breakPatterns_go C a L S hz h8
  · have hv : breakPatterns d a (a + L) = d := by unfold breakPatterns; simp only [Nat.add_sub_cancel_left]; rw [if_neg h8]
    rw [hv]
    have hLz : ((a : Int) + (L : Int) - (a : Int)) = (L : Int) := by omega
    have h8z : ¬ (8 : Int) ≤ (L : Int) := by omega
    have S0 := Aside0.mk S
    clear S C
    go_enter Try.func40, Try.ntmps40
    go_wp2
    go_end0
    exact ⟨rfl, S0.out⟩
end
end Go.Proofs.Ytdmeackaiamkcaa.A
