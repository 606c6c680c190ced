import Derived.Test.YtdmeackaiamkcaaGLess
import Derived.Deep.RegionHeld3
namespace Go.Proofs.Ytdmeackaiamkcaa.A
set_option linter.unusedVariables false
set_option linter.unusedSimpArgs false
open Go.RowKit Go.Proofs.YtdmeackaiamkcaaW.PrintWords Go.Proofs.YtdmeackaiamkcaaW.PrintLast Go.Proofs.YtdmeackaiamkcaaW.PrintMore
attribute [local go_sem ↓] Go.wp_at_zero Go.wp_at_succ

theorem info26 : (Try.prog.info? 26).map (fun i => (i.zero, i.size, i.bytes)) = some (some (.agg #[.string ⟨#[]⟩, .int .i64 0, .int .i64 0, .string ⟨#[]⟩]), 4, 48) := by kernel_rfl

/-- A fault's cells. -/
def cells26 (x : S26) : List Value := [.string x.f0, .int .i64 x.f1, .int .i64 x.f2, .string x.f3]

/-- A list of faults in memory, of the call's own. -/
def FR (W : World) (base : Nat) (v : Value) (l : List S26) : Prop := W.ownsRow base 26 4 v l.length (l.flatMap cells26)

set_option maxHeartbeats 4000000 in
set_option maxRecDepth 100000 in
theorem faultsOf_any (base0 : Nat) (v : Value) (ps : List Nat) (l : List S26) (w : World) (G : EL w base0 v ps l) (hlen : l.length ≤ 1000000) :
    Calls Try.prog 25 #[v] w fun e w' => ∃ v', e = .returned v' ∧ FR w' w.heap.size v' l ∧ Below w.heap.size w w' := by
  obtain ⟨i0, hi0, hz0, hz1, hz2⟩ := info_parts info26
  obtain ⟨A, c, rfl⟩ := own_slice G.own
  have HG := Aside0.mk G
  clear G
  go_enter Try.func25, Try.ntmps25
  go_wp2
  go_loopg [3, 9] l.length (fun kq v3 v9 w' => ∃ k : Nat, v9 = .int .i64 k ∧ k ≤ l.length ∧ Hid (kq = l.length - k) ∧ Aside0 (FR w' w.heap.size v3 (l.take k)) ∧ Aside0 (Below w.heap.size w w'))
  case atStart =>
    refine ⟨0, by simp, Nat.zero_le _, rfl, ⟨?_⟩, ⟨below_alloc (Below.refl _ _) _⟩⟩
    exact World.ownsRow_made w #[] 0 (Nat.le_refl _) (by unfold maxLen; omega) rfl
  case round =>
    obtain ⟨k, rfl, hk, HM, HF, HB⟩ := hrel
    by_cases hlt : k < l.length
    · obtain ⟨b, cap, p, hv, _, _, cp, _, xp⟩ := (HG.out.below HB.out).elem k hlt
      injection hv with hA _ hcap
      subst hA
      subst hcap
      have HT := Aside0.mk (take26 hlt)
      obtain ⟨x, hx⟩ : ∃ x, rd_T26 l (k : Int) = x := ⟨_, rfl⟩
      rw [hx] at xp HT
      clear hx
      have x0 : wr.cell? ⟨p, 0, none⟩ = some (.string x.f0) := blk_cell xp 0
      have x2 : wr.cell? ⟨p, 2, none⟩ = some (.int .i64 x.f1) := blk_cell xp 2
      have x3 : wr.cell? ⟨p, 3, none⟩ = some (.int .i64 x.f2) := blk_cell xp 3
      have x4 : wr.cell? ⟨p, 4, none⟩ = some (.string x.f3) := blk_cell xp 4
      have p0 : (0 : Int) ≤ (k : Int) := by omega
      have p1 : (k : Int) < (l.length : Int) := by omega
      have hlk : (l.take k).length = k := by simp; omega
      have hnew : Hid (∀ (j : Nat) (u : Value), (cells26 x)[j]? = some u → ((wr.alloc (.cells #[.string x.f0, .int .i64 x.f1, .int .i64 x.f2, .string x.f3] 26)).drew).cell? ((⟨wr.heap.size, 0, none⟩ : Addr).add j) = some u) := by
        intro j u hj
        have := World.news_of_block (cs := #[.string x.f0, .int .i64 x.f1, .int .i64 x.f2, .string x.f3]) (t := 26) (fr := (0, 0)) (heap_alloc_new wr _) j u hj
        simpa using this
      have hone : Hid (∀ u ∈ cells26 x, u.oneCell' = true) := by
        intro u hu
        simp [cells26] at hu
        rcases hu with rfl | rfl | rfl | rfl <;> rfl
      have ne1 : Hid (some p ≠ u3.ownBlock) := own_ne HF.out xp (by decide)
      have hsz : w.heap.size ≤ wr.heap.size := HB.out.size
      clear xp
      go_wp2
      go_region_held3 (fun W => W.cell? ⟨p, 0, none⟩ = some (.string x.f0) ∧ W.cell? ⟨p, 2, none⟩ = some (.int .i64 x.f1) ∧ W.cell? ⟨p, 3, none⟩ = some (.int .i64 x.f2) ∧ W.cell? ⟨p, 4, none⟩ = some (.string x.f3)) (go_keep)
        ((refine step_append_lies _ (by rfl) _ _ _ (by rfl) w.heap.size 26 i0 _ 4 48 Try.underlying22 hi0 hz0 hz1 hz2 rfl (by omega) _ (l.take k).length _ (by rfl) ((HF.out.alloc _).drew)
            ⟨wr.heap.size, 0, none⟩ 1 1 (cells26 x) (by rfl) (by rfl) (hnew.out) (hone.out)
            (by omega) (by unfold maxLen; omega) (by omega) (by simp; omega) (wr.heap.size + 1) (by simp) ?_; intro gg cap1 w1 hown1 hgrow hat hltb; have y0 : w1.cell? ⟨p, 0, none⟩ = some (.string x.f0) := hgrow.cell (cell_dr (cell_al x0 _)) ne1.out; have y2 : w1.cell? ⟨p, 2, none⟩ = some (.int .i64 x.f1) := hgrow.cell (cell_dr (cell_al x2 _)) ne1.out; have y3 : w1.cell? ⟨p, 3, none⟩ = some (.int .i64 x.f2) := hgrow.cell (cell_dr (cell_al x3 _)) ne1.out; have y4 : w1.cell? ⟨p, 4, none⟩ = some (.string x.f3) := hgrow.cell (cell_dr (cell_al x4 _)) ne1.out))
      all_goals
        go_wp2
        go_roundg (gk - 1)
        case measure => have := HM.out; omega
        case rel =>
          refine ⟨k + 1, by go_num, by omega, by have := HM.out; show _ = _; omega, ⟨?_⟩, ⟨?_⟩⟩
          · rw [HT.out]
            unfold FR
            rw [List.length_append, List.flatMap_append]
            rw [hlk] at hown1 ⊢
            simpa using hown1
          · exact HB.out.trans (((below_drew (below_alloc (Below.refl _ _) _)).mono hsz).grown hgrow (by simp; omega) (fun k hk => own_base HF.out k hk))
    · have p1 : ¬ ((k : Int) < (l.length : Int)) := by omega
      go_wp2
      go_ret
      have h := HF.out
      rw [List.take_of_length_le (by omega)] at h
      exact ⟨_, rfl, h, HB.out⟩

theorem reps26 (w : World) (base : Nat) (ok : Nat → Prop) : ∀ l : List S26, Reps (k26.M w base ok) 4 l (l.flatMap cells26) := by
  intro l
  induction l with
  | nil => exact Reps.none _ _
  | cons x l ih =>
    have h1 : Reps (k26.M w base ok) 4 ([] ++ [x]) ([] ++ cells26 x) := Reps.snoc (Reps.none _ _) (k26_mkM w base ok x) rfl
    have := Kd.reps_append h1 ih
    simpa using this

theorem FR.row {W : World} {base : Nat} {v : Value} {l : List S26} (h : FR W base v l) : Kd.R k26 26 W base (fun _ => True) v l :=
  ⟨fun _ _ => trivial, _, h, reps26 _ _ _ l⟩

theorem FR.lower {W : World} {base base' : Nat} {v : Value} {l : List S26} (h : FR W base v l) (hb : base' ≤ base) : FR W base' v l := own_weaken h hb

theorem FR.below {W W1 : World} {base : Nat} {v : Value} {l : List S26} (h : FR W base v l) (hb : Below W.heap.size W W1) : FR W1 base v l := pw_own_below h hb

theorem EL.lower {W : World} {base base' : Nat} {v : Value} {ps : List Nat} {l : List S26} (G : EL W base v ps l) (hb : base' ≤ base) : EL W base' v ps l := ⟨own_weaken G.own hb, G.len, G.err⟩

theorem EL.slice {W : World} {base : Nat} {v : Value} {ps : List Nat} {l : List S26} (G : EL W base v ps l) : ∃ A c, v = .slice A l.length c := own_slice G.own

theorem len_any (A : Option Addr) (n c : Nat) (w : World) : Calls Try.prog 26 #[.slice A n c] w fun e w' => e = .returned (.int .i64 n) ∧ w' = w := by
  go_enter Try.func26, Try.ntmps26
  go_wp2
  go_ret
  exact ⟨rfl, rfl⟩

theorem err_any (A : Option Addr) (n c : Nat) (w : World) : Calls Try.prog 28 #[.slice A n c] w fun e w' => e = .returned (if n = 0 then .nilIface else .iface 36 (.slice A n c)) ∧ w' = w := by
  by_cases h : n = 0
  · subst h
    go_enter Try.func28, Try.ntmps28
    go_wp2
    go_ret
    exact ⟨rfl, rfl⟩
  · have hn : ((n : Int) == 0) = false := by simp; omega
    have hn2 : ¬ ((n : Int) = 0) := by omega
    rw [if_neg h]
    go_enter Try.func28, Try.ntmps28
    go_wp2
    go_ret
    exact ⟨rfl, rfl⟩

set_option maxHeartbeats 1000000 in
theorem reset_any (q base : Nat) (v : Value) (ps : List Nat) (l : List S26) (w : World) (hq : w.heap[q]? = some (.cells #[v] 36 (0, 0))) (hbq : base ≤ q) (G : EL w base v ps l) :
    Calls Try.prog 27 #[.pointer (some ⟨q, 0, none⟩)] w fun e w' => ∃ v', e = .returned (.tuple #[]) ∧ w'.heap[q]? = some (.cells #[v'] 36 (0, 0)) ∧ EL w' base v' [] [] ∧ Below base w w' := by
  obtain ⟨A, c, rfl⟩ := G.slice
  have hv : w.cell? ⟨q, 0, none⟩ = some (.slice A l.length c) := blk_cell hq 0
  have hgf : w.frozen? ⟨q, 0, none⟩ = false := blk_frozen hq 0
  have HG := Aside0.mk G
  have HQ := Aside0.mk hq
  have hle : l.length ≤ c := own_le G.own
  clear G hq
  go_enter Try.func27, Try.ntmps27
  go_wp2
  go_end0
  have G1 : EL w base (.slice A 0 c) [] [] := ⟨by simpa using own_take HG.out.own (Nat.zero_le _), rfl, fun i p x h => by simp at h⟩
  refine ⟨.slice A 0 c, rfl, by simpa using blk_set HQ.out 0 _, G1.set HQ.out (by decide) (by decide) 0 _, (Below.refl _ _).setCell hbq _⟩

/-- impl.Added, impl.Cleared and impl.HasError at a list of few errors. -/
def impl_Added.f (l0 : List S26) : Option (List S26 × Int) := if l0.length ≤ 50 then some (l0, (l0.length : Int)) else none
def impl_Cleared.f (l0 : List S26) : Option (List S26 × Int) := if l0.length ≤ 50 then some ([], 0) else none
def impl_HasError.f (l0 : List S26) : Option Bool := if l0.length ≤ 50 then some (decide (0 < l0.length)) else none

set_option maxHeartbeats 1000000 in
theorem impl_Added.calls (A0 : Option Addr) (c0 : Nat) (l0 : List S26) (r1 : List S26) (r2 : Int) (w : World) (hr0 : Kd.C k26 w A0 l0.length l0) (hc0 : l0.length ≤ c0) (h : impl_Added.f l0 = some (r1, r2)) :
    Calls Try.prog 12 #[.slice A0 l0.length c0] w fun e w' => ∃ v0_ : Value, e = .returned (.tuple #[v0_, .int .i64 r2]) ∧ Kd.R k26 26 w' w.heap.size (fun _ => True) v0_ r1 ∧ Below w.heap.size w w' := by
  unfold impl_Added.f at h
  split at h
  next hb =>
    have h := Option.some.inj h
    injection h with h1 h2
    subst h1
    subst h2
    have HL := listOf_any A0 c0 l0 w hr0 hc0 (by omega)
    clear hr0
    go_enter Try.func12, Try.ntmps12
    go_wp2_with fail
    refine HL.mono ?_
    rintro e w1 ⟨v, ps, rfl, G, hB⟩
    obtain ⟨A, c, rfl⟩ := G.slice
    have HF := faultsOf_any _ _ ps l0 w1 G (by omega)
    have HB := Aside0.mk hB
    clear G hB HL
    go_wp2_with fail
    refine HF.mono ?_
    rintro e w2 ⟨v', rfl, F, hB2⟩
    have HN := len_any A l0.length c w2
    have HB2 := Aside0.mk hB2
    have HF2 := Aside0.mk F
    clear HF F hB2
    go_wp2_with fail
    refine HN.mono ?_
    rintro e w3 ⟨rfl, rfl⟩
    go_wp2_with fail
    go_ret2
    exact ⟨_, rfl, (HF2.out.lower HB.out.size).row, HB.out.trans (HB2.out.mono HB.out.size)⟩
  next => cases h

set_option maxHeartbeats 2000000 in
theorem impl_Cleared.calls (A0 : Option Addr) (c0 : Nat) (l0 : List S26) (r1 : List S26) (r2 : Int) (w : World) (hr0 : Kd.C k26 w A0 l0.length l0) (hc0 : l0.length ≤ c0) (h : impl_Cleared.f l0 = some (r1, r2)) :
    Calls Try.prog 13 #[.slice A0 l0.length c0] w fun e w' => ∃ v0_ : Value, e = .returned (.tuple #[v0_, .int .i64 r2]) ∧ Kd.R k26 26 w' w.heap.size (fun _ => True) v0_ r1 ∧ Below w.heap.size w w' := by
  unfold impl_Cleared.f at h
  split at h
  next hb =>
    have h := Option.some.inj h
    injection h with h1 h2
    subst h1
    subst h2
    have HL := listOf_any A0 c0 l0 w hr0 hc0 (by omega)
    clear hr0
    go_enter Try.func13, Try.ntmps13
    go_wp2_with fail
    refine HL.mono ?_
    rintro e w1 ⟨v, ps, rfl, G, hB⟩
    obtain ⟨A, c, rfl⟩ := G.slice
    have HB := Aside0.mk hB
    have HG := Aside0.mk G
    clear G hB HL
    go_wp2_with fail
    refine (reset_any w1.heap.size w.heap.size _ ps l0 _ (heap_alloc_new w1 _) HB.out.size (HG.out.below (below_alloc (Below.refl _ _) _))).mono ?_
    rintro e w2 ⟨v', rfl, hq2, G2, hB2⟩
    obtain ⟨A2, c2, hv2⟩ := G2.slice
    have hv2 : v' = .slice A2 0 c2 := hv2
    subst hv2
    have hcell : w2.cell? ⟨w1.heap.size, 0, none⟩ = some (.slice A2 0 c2) := blk_cell hq2 0
    have HB2 := Aside0.mk hB2
    have HG2 := Aside0.mk G2
    have hlt2 := Aside0.mk (World.block_lt_of_cell? w2 _ hcell)
    have HB1 := Aside0.mk ((HB.out.trans ((below_alloc (Below.refl _ _) (.cells #[.slice A l0.length c] 36)).mono HB.out.size)).trans hB2)
    clear hq2 G2 hB2 HG HB HB2
    go_wp2_with fail
    go_region_with (first
      | (go_at_call 25; refine (faultsOf_any _ _ [] [] _ (HG2.out.below (below_drew (Below.refl _ _))) (by decide)).mono ?_; rintro e w3 ⟨v', rfl, F, hB3⟩; have HB3 := Aside0.mk hB3; have HF := Aside0.mk F; have hcell3 : w3.cell? ⟨w1.heap.size, 0, none⟩ = some (.slice A2 0 c2) := (hB3.cell hlt2.out).trans hcell; clear F hB3)
      | (go_at_call 26; refine (len_any A2 0 c2 _).mono ?_; rintro e w4 ⟨rfl, rfl⟩))
    all_goals
      go_wp2_with fail
      go_ret2
      exact ⟨_, rfl, (HF.out.lower HB1.out.size).row, HB1.out.trans ((below_drew (Below.refl w2.heap.size w2)).mono HB1.out.size |>.trans (HB3.out.mono HB1.out.size))⟩
  next => cases h

set_option maxHeartbeats 1000000 in
theorem impl_HasError.calls (A0 : Option Addr) (c0 : Nat) (l0 : List S26) (r : Bool) (w : World) (hr0 : Kd.C k26 w A0 l0.length l0) (hc0 : l0.length ≤ c0) (h : impl_HasError.f l0 = some r) :
    Calls Try.prog 15 #[.slice A0 l0.length c0] w fun e w' => e = .returned (.bool r) ∧ Below w.heap.size w w' := by
  unfold impl_HasError.f at h
  split at h
  next hb =>
    have HR := Aside0.mk (Option.some.inj h)
    clear h
    have HL := listOf_any A0 c0 l0 w hr0 hc0 (by omega)
    clear hr0
    go_enter Try.func15, Try.ntmps15
    go_wp2_with fail
    refine HL.mono ?_
    rintro e w1 ⟨v, ps, rfl, G, hB⟩
    obtain ⟨A, c, rfl⟩ := G.slice
    have HE := err_any A l0.length c w1
    have HB := Aside0.mk hB
    clear G hB HL
    go_wp2_with fail
    refine HE.mono ?_
    rintro e w2 ⟨rfl, rfl⟩
    clear HE
    by_cases hn : l0.length = 0
    · simp only [hn, if_true]
      go_wp2_with fail
      go_ret
      exact ⟨ret_bool (by rw [← HR.out]; simp [hn]), HB.out⟩
    · simp only [hn, if_false]
      go_wp2_with fail
      go_ret
      exact ⟨ret_bool (by rw [← HR.out]; simp; omega), HB.out⟩
  next => cases h
end Go.Proofs.Ytdmeackaiamkcaa.A
