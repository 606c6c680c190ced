import Derived.Test.YteaelkeiocogfaaGGroup
import Derived.Deep.DrawnRows
namespace Go.Proofs.Yteaelkeiocogfaa.A
set_option linter.unusedVariables false
set_option linter.unusedSimpArgs false
open Go.RowKit Go.Proofs.YteaelkeiocogfaaW.PrintWords Go.Proofs.YteaelkeiocogfaaW.PrintLast Go.Proofs.YteaelkeiocogfaaW.PrintMore

theorem group_pos (g b p : Nat) (n c : Nat) (x : Int) (w : World) (hg : w.cell? ⟨g, 0, none⟩ = some (.slice (some ⟨b, 0, none⟩) n c)) (hn : 0 < n)
    (he : w.cell? ⟨b, 0, none⟩ = some (.pointer (some ⟨p, 0, none⟩))) (hp : w.cell? ⟨p, 0, none⟩ = some (.int .i64 x)) :
    Calls Try.prog 22 #[.pointer (some ⟨g, 0, none⟩)] w fun e' w' => e' = .returned (.int .i64 x) ∧ w = w' := by
  go_enter Try.func22, Try.ntmps22
  go_wp2
  go_ret
  exact ⟨rfl, rfl⟩

theorem comment_end (p : Nat) (x : Int) (s : ByteArray) (w : World) (h0 : w.cell? ⟨p, 0, none⟩ = some (.int .i64 x)) (h1 : w.cell? ⟨p, 1, none⟩ = some (.string s))
    (hx : 0 ≤ x) (hx2 : x ≤ 1000000) (hs : s.size ≤ 1000) :
    Calls Try.prog 36 #[.pointer (some ⟨p, 0, none⟩)] w fun e' w' => e' = .returned (.int .i64 (x + s.size)) ∧ ∃ q, w' = w.drewN q := by
  go_enter Try.func36, Try.ntmps36
  go_wp2
  go_quiet (fail)
  go_wp2
  go_ret
  exact ⟨by go_num, nq, rfl⟩

theorem group_end (g b p : Nat) (n c : Nat) (x : Int) (s : ByteArray) (w : World) (hg : w.cell? ⟨g, 0, none⟩ = some (.slice (some ⟨b, 0, none⟩) n c)) (hn : 0 < n) (hn2 : n ≤ 1000)
    (he : w.cell? ⟨b, n - 1, none⟩ = some (.pointer (some ⟨p, 0, none⟩))) (h0 : w.cell? ⟨p, 0, none⟩ = some (.int .i64 x)) (h1 : w.cell? ⟨p, 1, none⟩ = some (.string s))
    (hx : 0 ≤ x) (hx2 : x ≤ 1000000) (hs : s.size ≤ 1000) :
    Calls Try.prog 23 #[.pointer (some ⟨g, 0, none⟩)] w fun e' w' => e' = .returned (.int .i64 (x + s.size)) ∧ ∃ q, w' = w.drewN q := by
  obtain ⟨m, rfl⟩ : ∃ m, n = m + 1 := ⟨n - 1, by omega⟩
  rw [Nat.add_sub_cancel] at he
  have w1 : IntKind.i64.wrap (((m + 1 : Nat) : Int) - 1) = (m : Int) := by rw [IntWalk.i64_in _ (by omega)]; omega
  have b0 : (0 : Int) ≤ (m : Int) := by omega
  have b1 : (m : Int) < ((m + 1 : Nat) : Int) := by omega
  have c := fun q => comment_end p x s (w.drewN q) h0 h1 hx hx2 hs
  go_enter Try.func23, Try.ntmps23
  go_wp2_with fail
  go_quiet ((go_at_call 36; exact Calls.quiet_of (c _)))
  go_wp2
  go_ret
  exact ⟨by go_num, nq, rfl⟩


/-- impl.CommentSpan of few comments at places within bounds. -/
def impl_CommentSpan.f (l0 : List S25) : Option (Int × Int) :=
  if 0 < l0.length ∧ l0.length ≤ 50 ∧ (∀ x ∈ l0, 1 ≤ x.f0 ∧ x.f0 ≤ 1000000 ∧ x.f1.size ≤ 1000) then
    some ((rd_T25 l0 0).f0, (rd_T25 l0 ((l0.length - 1 : Nat) : Int)).f0 + (rd_T25 l0 ((l0.length - 1 : Nat) : Int)).f1.size)
  else none

set_option maxHeartbeats 1000000 in
theorem impl_CommentSpan.calls (A0 : Option Addr) (c0 : Nat) (l0 : List S25) (r1 r2 : Int) (w : World) (hr0 : Kd.C k25 w A0 l0.length l0) (hc0 : l0.length ≤ c0) (h : impl_CommentSpan.f l0 = some (r1, r2)) :
    Calls Try.prog 10 #[.slice A0 l0.length c0] w fun e w' => e = .returned (.tuple #[.int .i64 r1, .int .i64 r2]) ∧ Below w.heap.size w w' := by
  unfold impl_CommentSpan.f at h
  split at h
  next hb =>
    obtain ⟨h0, h50, hall⟩ := hb
    have hlast := hall (rd_T25 l0 ((l0.length - 1 : Nat) : Int)) (by rw [rd25 (by omega)]; exact List.getElem_mem _)
    obtain ⟨hl1, hl2, hl3⟩ := hlast
    have h := Option.some.inj h
    have e1 := congrArg Prod.fst h
    have e2 := congrArg Prod.snd h
    dsimp only at e1 e2
    subst e1
    subst e2
    clear h hall
    have HG := groupOf_any A0 c0 l0 w hr0 hc0 (by omega)
    clear hr0
    go_enter Try.func10, Try.ntmps10
    go_wp2_with fail
    refine HG.mono ?_
    rintro e w1 ⟨g, v, ps, rfl, G, hB⟩
    obtain ⟨b, cap, p, hv, hcap, he0, hp0, hp1⟩ := G.elem 0 h0
    obtain ⟨b', cap', q, hv', _, heq, hq0, hq1⟩ := G.elem (l0.length - 1) (by omega)
    have hgc : w1.cell? ⟨g, 0, none⟩ = some (.slice (some ⟨b, 0, none⟩) l0.length cap) := by have := blk_cell G.blk 0; rw [hv] at this; exact this.trans rfl
    have hbb : b = b' := by rw [hv] at hv'; injection hv' with h1; injection h1 with h1; injection h1
    subst hbb
    have HP := group_pos g b p l0.length cap _ w1 hgc h0 he0 hp0
    have HE := group_end g b q l0.length cap _ _ w1 hgc h0 (by omega) heq hq0 hq1 (by omega) hl2 hl3
    clear G hv hv' he0 hp0 hp1 heq hq0 hq1 hgc HG
    go_wp2_with fail
    refine HP.mono ?_
    rintro e w2 ⟨rfl, rfl⟩
    go_wp2_with fail
    refine HE.mono ?_
    rintro e w2 ⟨rfl, q, rfl⟩
    go_wp2_with fail
    go_ret2
    exact ⟨rfl, pw_below_drewN hB _⟩
  next => cases h
end Go.Proofs.Yteaelkeiocogfaa.A
