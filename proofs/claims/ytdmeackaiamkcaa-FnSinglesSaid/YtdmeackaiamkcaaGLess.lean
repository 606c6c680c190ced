import Derived.Test.YtdmeackaiamkcaaGList
import Derived.WalkLawsBesides
import Derived.Deep.QuietTactic
import Derived.BigQuiet
import Derived.BigRegion
namespace Go.Proofs.Ytdmeackaiamkcaa.A
set_option linter.unusedVariables false
set_option linter.unusedSimpArgs false
open Go.RowKit Go.Proofs.YtdmeackaiamkcaaW.PrintWords Go.Proofs.YtdmeackaiamkcaaW.PrintLast Go.Proofs.YtdmeackaiamkcaaW.PrintMore

/-- The order of errors: by the file's name, the line, the column, the message. -/
def lessB (x y : S26) : Bool :=
  if x.f0.toList = y.f0.toList then
    if x.f1 = y.f1 then
      if x.f2 = y.f2 then Op.bytesLess x.f3.toList y.f3.toList else decide (x.f2 < y.f2)
    else decide (x.f1 < y.f1)
  else Op.bytesLess x.f0.toList y.f0.toList

theorem ret_bool {a b : Bool} (h : a = b) : Ending.returned (.bool a) = .returned (.bool b) := by rw [h]

set_option maxHeartbeats 4000000 in
set_option maxRecDepth 100000 in
theorem less_any (b p q n c i j : Nat) (x y : S26) (W : World) (hi : i < n) (hj : j < n) (hn : n ≤ 9223372036854775807) (ci : W.cell? ⟨b, i, none⟩ = some (.pointer (some ⟨p, 0, none⟩))) (cj : W.cell? ⟨b, j, none⟩ = some (.pointer (some ⟨q, 0, none⟩)))
    (hx : W.heap[p]? = some (.cells (errCells x) 52 (0, 0))) (hy : W.heap[q]? = some (.cells (errCells y) 52 (0, 0))) :
    Calls Try.prog 24 #[.slice (some ⟨b, 0, none⟩) n c, .int .i64 i, .int .i64 j] W fun e w' => e = .returned (.bool (lessB x y)) ∧ ∃ k, w' = W.drewN k := by
  have x0 : W.cell? ⟨p, 0, none⟩ = some (.string x.f0) := blk_cell hx 0
  have x2 : W.cell? ⟨p, 2, none⟩ = some (.int .i64 x.f1) := blk_cell hx 2
  have x3 : W.cell? ⟨p, 3, none⟩ = some (.int .i64 x.f2) := blk_cell hx 3
  have x4 : W.cell? ⟨p, 4, none⟩ = some (.string x.f3) := blk_cell hx 4
  have y0 : W.cell? ⟨q, 0, none⟩ = some (.string y.f0) := blk_cell hy 0
  have y2 : W.cell? ⟨q, 2, none⟩ = some (.int .i64 y.f1) := blk_cell hy 2
  have y3 : W.cell? ⟨q, 3, none⟩ = some (.int .i64 y.f2) := blk_cell hy 3
  have y4 : W.cell? ⟨q, 4, none⟩ = some (.string y.f3) := blk_cell hy 4
  clear hx hy
  have bi0 : (0 : Int) ≤ (i : Int) := by omega
  have bi1 : (i : Int) < (n : Int) := by omega
  have bj0 : (0 : Int) ≤ (j : Int) := by omega
  have bj1 : (j : Int) < (n : Int) := by omega
  obtain ⟨xf0, xf1, xf2, xf3⟩ := x
  obtain ⟨yf0, yf1, yf2, yf3⟩ := y
  dsimp only at x0 x2 x3 x4 y0 y2 y3 y4
  by_cases h0 : xf0.toList = yf0.toList
  · by_cases h1 : xf1 = yf1
    · by_cases h2 : xf2 = yf2
      · have HL : Hid (lessB ⟨xf0, xf1, xf2, xf3⟩ ⟨yf0, yf1, yf2, yf3⟩ = Op.bytesLess xf3.toList yf3.toList) := by show _ = _; unfold lessB; rw [if_pos h0, if_pos h1, if_pos h2]
        have e0 : (xf0.toList == yf0.toList) = true := by simpa using h0
        have e1 : (xf1 == yf1) = true := by simpa using h1
        have e2 : (xf2 == yf2) = true := by simpa using h2
        clear h0 h1 h2
        go_enter Try.func24, Try.ntmps24
        go_wp2
        go_quiet (fail)
        go_wp2
        go_quiet (fail)
        go_wp2
        go_quiet (fail)
        go_wp2
        go_quiet (fail)
        go_wp2
        go_ret
        exact ⟨ret_bool (by rw [HL.out]), by simp only [World.drewN_drewN]; exact ⟨_, rfl⟩⟩
      · have HL : Hid (lessB ⟨xf0, xf1, xf2, xf3⟩ ⟨yf0, yf1, yf2, yf3⟩ = decide (xf2 < yf2)) := by show _ = _; unfold lessB; rw [if_pos h0, if_pos h1, if_neg h2]
        have e0 : (xf0.toList == yf0.toList) = true := by simpa using h0
        have e1 : (xf1 == yf1) = true := by simpa using h1
        have e2 : (xf2 == yf2) = false := by simpa using h2
        clear h0 h1 h2
        go_enter Try.func24, Try.ntmps24
        go_wp2
        go_quiet (fail)
        go_wp2
        go_quiet (fail)
        go_wp2
        go_quiet (fail)
        go_wp2
        go_quiet (fail)
        go_wp2
        go_ret
        exact ⟨ret_bool (by rw [HL.out]), by simp only [World.drewN_drewN]; exact ⟨_, rfl⟩⟩
    · have HL : Hid (lessB ⟨xf0, xf1, xf2, xf3⟩ ⟨yf0, yf1, yf2, yf3⟩ = decide (xf1 < yf1)) := by show _ = _; unfold lessB; rw [if_pos h0, if_neg h1]
      have e0 : (xf0.toList == yf0.toList) = true := by simpa using h0
      have e1 : (xf1 == yf1) = false := by simpa using h1
      clear h0 h1
      go_enter Try.func24, Try.ntmps24
      go_wp2
      go_quiet (fail)
      go_wp2
      go_quiet (fail)
      go_wp2
      go_quiet (fail)
      go_wp2
      go_ret
      exact ⟨ret_bool (by rw [HL.out]), by simp only [World.drewN_drewN]; exact ⟨_, rfl⟩⟩
  · have HL : Hid (lessB ⟨xf0, xf1, xf2, xf3⟩ ⟨yf0, yf1, yf2, yf3⟩ = Op.bytesLess xf0.toList yf0.toList) := by show _ = _; unfold lessB; rw [if_neg h0]
    have e0 : (xf0.toList == yf0.toList) = false := by simpa using h0
    clear h0
    go_enter Try.func24, Try.ntmps24
    go_wp2
    go_quiet (fail)
    go_wp2
    go_quiet (fail)
    go_wp2
    go_ret
    exact ⟨ret_bool (by rw [HL.out]), by simp only [World.drewN_drewN]; exact ⟨_, rfl⟩⟩

set_option maxHeartbeats 2000000 in
theorem swap_any (blk off c size : Nat) (W : World) (x y : Option Addr) (i j : Nat) (hi : i < size) (hj : j < size) (_hsz : size < 4611686018427387904)
    (ci : W.cell? ⟨blk, off + i, none⟩ = some (.pointer x)) (cj : W.cell? ⟨blk, off + j, none⟩ = some (.pointer y)) (fi : W.frozen? ⟨blk, off + i, none⟩ = false) (fj : W.frozen? ⟨blk, off + j, none⟩ = false) :
    Calls Try.prog 23 #[.slice (some ⟨blk, off, none⟩) size c, .int .i64 i, .int .i64 j] W fun e w' => e = .returned (.tuple #[]) ∧ ∃ q, w' = ((W.setCell ⟨blk, off + i, none⟩ (.pointer y)).setCell ⟨blk, off + j, none⟩ (.pointer x)).drewN q := by
  obtain ⟨v', hy'⟩ := cell?_setCell_some (w := W) (p := ⟨blk, off + i, none⟩) (x := .pointer y) (q := ⟨blk, off + j, none⟩) cj
  go_enter Try.func23, Try.ntmps23
  go_wp2
  go_region
  all_goals (try go_wp2)
  all_goals go_end0
  all_goals exact ⟨rfl, 1, rfl⟩

/-- Error number i of a list. -/
theorem EL.elem {W : World} {base : Nat} {v : Value} {ps : List Nat} {l : List S26} (G : EL W base v ps l) (i : Nat) (hi : i < l.length) :
    ∃ b cap p, v = .slice (some ⟨b, 0, none⟩) l.length cap ∧ base ≤ b ∧ ps[i]? = some p ∧ W.cell? ⟨b, i, none⟩ = some (.pointer (some ⟨p, 0, none⟩)) ∧ W.frozen? ⟨b, i, none⟩ = false ∧ W.heap[p]? = some (.cells (errCells (rd_T26 l (i : Int))) 52 (0, 0)) := by
  obtain ⟨b, cap, hv, hb, _⟩ := G.own.form (by omega)
  have hip : i < ps.length := by rw [G.len]; exact hi
  refine ⟨b, cap, ps[i], hv, hb, by simp [hip], ?_, ?_, ?_⟩
  · have := G.own.cells (g := b) (by rw [hv]; rfl) i (.pointer (some ⟨ps[i], 0, none⟩)) (by simp [hip])
    rwa [add_plain] at this
  · obtain ⟨cells, hc⟩ := own_typed G.own b (by rw [hv]; rfl)
    exact blk_frozen hc i
  · rw [rd26 hi]
    exact G.err i ps[i] l[i] (by simp [hip]) (by simp [hi])

/-- impl.IsLess at a list of few errors. -/
def impl_IsLess.f (l0 : List S26) (a1 a2 : Int) (a3 : Bool) : Option Bool :=
  if l0.length ≤ 50 ∧ 0 ≤ a1 ∧ a1 < l0.length ∧ 0 ≤ a2 ∧ a2 < l0.length then
    some (if a3 = true then lessB (rd_T26 l0 a2) (rd_T26 l0 a1) else lessB (rd_T26 l0 a1) (rd_T26 l0 a2))
  else none

set_option maxHeartbeats 2000000 in
theorem impl_IsLess.calls (A0 : Option Addr) (c0 : Nat) (l0 : List S26) (a1 a2 : Int) (a3 : Bool) (r : Bool) (w : World) (hr0 : Kd.C k26 w A0 l0.length l0) (hc0 : l0.length ≤ c0) (h : impl_IsLess.f l0 a1 a2 a3 = some r) :
    Calls Try.prog 11 #[.slice A0 l0.length c0, .int .i64 a1, .int .i64 a2, .bool a3] w fun e w' => e = .returned (.bool r) ∧ Below w.heap.size w w' := by
  unfold impl_IsLess.f at h
  split at h
  next hb =>
    obtain ⟨h50, h1, h2, h3, h4⟩ := hb
    obtain ⟨i, rfl⟩ := Int.eq_ofNat_of_zero_le h1
    obtain ⟨j, rfl⟩ := Int.eq_ofNat_of_zero_le h3
    have hi : i < l0.length := by omega
    have hj : j < l0.length := by omega
    have HR := Aside0.mk (Option.some.inj h)
    clear h h1 h2 h3 h4
    have HL := listOf_any A0 c0 l0 w hr0 hc0 (by omega)
    clear hr0
    cases a3 with
    | false =>
      go_enter Try.func11, Try.ntmps11
      go_wp2_with fail
      refine HL.mono ?_
      rintro e w1 ⟨v, ps, rfl, G, hB⟩
      obtain ⟨b, cap, p, hv, hb, hp, cp, fp, xp⟩ := G.elem i hi
      obtain ⟨b', cap', q, hv', _, hq, cq, fq, xq⟩ := G.elem j hj
      have hbb : b = b' := by rw [hv] at hv'; injection hv' with h1; injection h1 with h1; injection h1
      subst hbb
      subst hv
      have HB := Aside0.mk hB
      have C := less_any b p q l0.length cap i j _ _ w1 hi hj (by omega) cp cq xp xq
      clear G hv' hp hq cp cq fp fq xp xq hB HL
      go_wp2_with fail
      refine C.mono ?_
      rintro e w2 ⟨rfl, k, rfl⟩
      go_wp2_with fail
      go_ret
      exact ⟨ret_bool HR.out, pw_below_drewN HB.out _⟩
    | true =>
      go_enter Try.func11, Try.ntmps11
      go_wp2_with fail
      refine HL.mono ?_
      rintro e w1 ⟨v, ps, rfl, G, hB⟩
      obtain ⟨b, cap, p, hv, hb, hp, cp, fp, xp⟩ := G.elem i hi
      obtain ⟨b', cap', q, hv', _, hq, cq, fq, xq⟩ := G.elem j hj
      have hbb : b = b' := by rw [hv] at hv'; injection hv' with h1; injection h1 with h1; injection h1
      subst hbb
      subst hv
      have HB := Aside0.mk hB
      have S := swap_any b 0 cap l0.length w1 (some ⟨p, 0, none⟩) (some ⟨q, 0, none⟩) i j hi hj (by omega) (by simpa using cp) (by simpa using cq) (by simpa using fp) (by simpa using fq)
      simp only [Nat.zero_add] at S
      have hbe := Aside0.mk hb
      have c1 : ((w1.setCell ⟨b, i, none⟩ (.pointer (some ⟨q, 0, none⟩))).setCell ⟨b, j, none⟩ (.pointer (some ⟨p, 0, none⟩))).cell? ⟨b, j, none⟩ = some (.pointer (some ⟨p, 0, none⟩)) := by
        obtain ⟨v', hv'⟩ := cell?_setCell_some (w := w1) (p := ⟨b, i, none⟩) (x := .pointer (some ⟨q, 0, none⟩)) cq
        exact World.cell?_setCell_same _ _ _ hv'
      have c2 : ((w1.setCell ⟨b, i, none⟩ (.pointer (some ⟨q, 0, none⟩))).setCell ⟨b, j, none⟩ (.pointer (some ⟨p, 0, none⟩))).cell? ⟨b, i, none⟩ = some (.pointer (some ⟨q, 0, none⟩)) := by
        by_cases hij : i = j
        · subst hij
          rw [c1]
          rw [cp] at cq
          exact cq
        · refine (World.cell?_setCell_other _ _ _ _ (by intro h; injection h with _ h; exact hij h.symm)).trans ?_
          exact World.cell?_setCell_same _ _ _ cp
      have bp : some b ≠ some p := by
        intro h
        injection h with h
        obtain ⟨cells, hc⟩ := own_typed G.own b rfl
        rw [h, xp] at hc
        injection hc with hc
        injection hc with _ hc
        exact absurd hc (by decide)
      have bq : some b ≠ some q := by
        intro h
        injection h with h
        obtain ⟨cells, hc⟩ := own_typed G.own b rfl
        rw [h, xq] at hc
        injection hc with hc
        injection hc with _ hc
        exact absurd hc (by decide)
      have xp2 := blk_far (blk_far xp (p := ⟨b, i, none⟩) (fun h => bp (by rw [h])) (.pointer (some ⟨q, 0, none⟩))) (p := ⟨b, j, none⟩) (fun h => bp (by rw [h])) (.pointer (some ⟨p, 0, none⟩))
      have xq2 := blk_far (blk_far xq (p := ⟨b, i, none⟩) (fun h => bq (by rw [h])) (.pointer (some ⟨q, 0, none⟩))) (p := ⟨b, j, none⟩) (fun h => bq (by rw [h])) (.pointer (some ⟨p, 0, none⟩))
      have C := fun m => less_any b q p l0.length cap i j _ _ (((w1.setCell ⟨b, i, none⟩ (.pointer (some ⟨q, 0, none⟩))).setCell ⟨b, j, none⟩ (.pointer (some ⟨p, 0, none⟩))).drewN m) hi hj (by omega) c2 c1 xq2 xp2
      clear G hv' hp hq cp cq fp fq xp xq hB HL c1 c2 xp2 xq2 bp bq hb
      go_wp2_with fail
      refine S.mono ?_
      rintro e w2 ⟨rfl, k, rfl⟩
      go_wp2_with fail
      refine (C _).mono ?_
      rintro e w2 ⟨rfl, k2, rfl⟩
      go_wp2_with fail
      go_ret
      exact ⟨ret_bool HR.out, pw_below_drewN (Below.setCell (p := ⟨b, j, none⟩) (Below.setCell (p := ⟨b, i, none⟩) HB.out hbe.out _) hbe.out _) _⟩
  next => cases h
end Go.Proofs.Ytdmeackaiamkcaa.A
