/- impl.CommentText of at most 1000000 comments is textF of them. -/
import Derived.Test.YtcjiafjahfmdoaaDoorGText
namespace Go.Proofs.YtcjiafjahfmdoaaDoor.A
set_option linter.unusedVariables false
set_option linter.unusedSimpArgs false
open Go.RowKit Go.Proofs.YtcjiafjahfmdoaaDoorW.PrintWords Go.Proofs.YtcjiafjahfmdoaaDoorW.PrintLast Go.Proofs.YtcjiafjahfmdoaaDoorW.PrintMore
attribute [local go_sem ↓] Go.wp_at_zero Go.wp_at_succ
theorem info25 : (Tryd.prog.info? 44).map (fun i => (i.zero, i.size, i.bytes)) = some (some (.agg #[(.int .i64 0), (.string ⟨#[]⟩)]), 2, 24) := by kernel_rfl
def ownTexts.l0 : Nat → List (S25) → List ByteArray → Int → Int → Option ((List (S25)))
  | 0, _, _, _, _ => none
  | k + 1, x3, x7, x8, x9 => if x9 < x8 then (if 0 ≤ x9 then (if x9 < (x7.length : Int) then (if x3.length < 5864062014805 then (ownTexts.l0 k (x3 ++ [(⟨0, rdOf ByteArray.empty x7 x9⟩ : S25)]) x7 x8 (wrap64 (x9 + 1))) else (none)) else (none)) else (none)) else (some x3)
def ownTexts.f (k : Nat) (l0 : List ByteArray) : Option ((List (S25))) := ownTexts.l0 k (([] : List (S25))) l0 (l0.length : Int) 0
theorem ownTexts.mono_l : ∀ k, (∀ y0 y1 y2 y3, LeO (ownTexts.l0 k y0 y1 y2 y3) (ownTexts.l0 (k + 1) y0 y1 y2 y3))
  | 0 => fun _ _ _ _ r h => by simp [ownTexts.l0] at h
  | k + 1 => by
    have ih0 := ownTexts.mono_l k
    · intro y0 y1 y2 y3
      unfold ownTexts.l0
      repeat' first
      | (with_reducible exact ih0 _ _ _ _)
      | (with_reducible exact LeO.refl _)
      | (with_reducible exact LeO.none _)
      | (with_reducible refine LeO.ite ?_ ?_)
      | (with_reducible refine LeO.bind ?_ (fun _ => ?_))
      | exact ih0 _ _ _ _
      | exact LeO.none _
      | refine LeO.ite ?_ ?_
      | refine LeO.bind ?_ (fun _ => ?_)
theorem ownTexts.mono : ∀ a0 k, LeO (ownTexts.f k a0) (ownTexts.f (k + 1) a0) := by
  intro a0 k
  have ih0 := ownTexts.mono_l k
  unfold ownTexts.f
  repeat' first
      | (with_reducible exact ih0 _ _ _ _)
      | (with_reducible exact LeO.refl _)
      | (with_reducible exact LeO.none _)
      | (with_reducible refine LeO.ite ?_ ?_)
      | (with_reducible refine LeO.bind ?_ (fun _ => ?_))
      | exact ih0 _ _ _ _
      | exact LeO.none _
      | refine LeO.ite ?_ ?_
      | refine LeO.bind ?_ (fun _ => ?_)

set_option maxHeartbeats 8000000 in
set_option maxRecDepth 100000 in
theorem commentText_any (K k : Nat) (A0 : Option Addr) (c0 : Nat) (l0 : List ByteArray) (r : List (S25)) (s : ByteArray) (w : World) (hr0 : Kd.C Kd.string w A0 l0.length l0) (hc0 : l0.length ≤ c0) (h : ownTexts.f k l0 = some r) (hlen : r.length ≤ 1000000) (hs : textF K (r.map (·.f1)) = some s) :
    Calls Tryd.prog 9 #[.slice A0 l0.length c0] w fun e w' => e = .returned (.string s) ∧ Below w.heap.size w w' := by
  have HLEN := Aside0.mk hlen
  have HS := Aside0.mk hs
  clear hlen hs
  have hu25 := Tryd.underlying44
  have HR0 := Aside0.mk hr0
  have HC0 := Aside0.mk hc0
  clear hr0 hc0
  have HB := Aside0.mk (Below.refl w.heap.size w)
  have H : (ownTexts.l0 k (([] : List (S25))) l0 (l0.length : Int) 0) = some r := h
  clear h
  obtain ⟨y181, hy181⟩ : ∃ y_ : List (S25), y_ = (([] : List (S25))) := ⟨_, rfl⟩
  replace H : (ownTexts.l0 k y181 l0 (l0.length : Int) 0) = some r := by first | (rw [hy181]; with_reducible exact H) | (have H2_ := (Option.bind_some _ _).symm.trans H; rw [hy181]; with_reducible exact H2_) | (have H2_ := (Option.bind_some _ _).symm.trans H; with_reducible exact H2_) | with_reducible exact H | (rw [hy181]; exact H) | exact H
  have Ny181 := Aside0.mk hy181
  clear hy181
  have H' := Aside0.mk H
  clear H
  go_enter Tryd.func9, Tryd.ntmps9
  go_wp2_with (first | ((with_reducible refine gate_dst (N := 6) rfl ?_); refine Kd.R_lit k25 _ 44 ?hg (N := 6) ?hd (xs := ([] : List (S25))) (inner := []) (ok := fun _ => True) (okp := fun _ => True) ?hr ?hp (fun _ hk => hk) trivial (Below.refl _ _) (Nat.le_refl _) (by simp) ?_; (case hd => rfl); (case hg => rfl); (case hr => first | (go_simp; done) | (go_simp; rfl)); (case hp => exact (Reps.none _ _)); intro v182 w2 ho3 hb hg_ hnew_; clear hg_ hnew_; (first | rw [← Ny181.out] at ho3 | (simp only [Int.reduceToNat] at ho3; rw [← Ny181.out] at ho3)); have n0_ := Aside0.mk (Kd.R_lower ho3 (below_size (by repeat (first | (with_reducible first | exact HB.out | apply below_alloc | apply pw_below_drewN | apply below_drew1) | exact HB.out)))); have n1_ := Aside0.mk (below_step (by repeat (first | (with_reducible first | exact HB.out | apply below_alloc | apply pw_below_drewN | apply below_drew1) | exact HB.out)) hb); clear HB; have HO183 := n0_; have HB := n1_; clear n0_ n1_; clear hb ho3))
  go_loopg [3, 9] k (fun kq v3 v9 w' => ∃ (x3_1 : List (S25)) (x9_1 : Int), v9 = .int .i64 x9_1 ∧ Aside0 (ownTexts.l0 kq x3_1 l0 (l0.length : Int) x9_1 = some r) ∧ Aside0 (kq ≤ k) ∧ Aside0 (Kd.R k25 44 w' w.heap.size (fun _ => True) v3 x3_1) ∧ Aside0 (Below w.heap.size w w'))
  case atStart => exact ⟨(y181), (0), (by first | rfl | (simp; done) | (simp [*]; done)), H', ⟨Nat.le_refl _⟩, ⟨by (with_reducible repeat (first | apply Kd.R_alloc | apply Kd.R_drewN | apply Kd.R_drew)); exact HO183.out⟩, ⟨by repeat (first | (with_reducible first | exact HB.out | apply below_alloc | apply pw_below_drewN | apply below_drew1) | exact HB.out)⟩⟩
  case round =>
    clear H'
    try clear c1
    try clear p2
    obtain ⟨x3_1, x9_1, rfl, HA, HK1, HO_3, HB⟩ := hrel
    cases gk with
    | zero => exact absurd HA.out (by simp [ownTexts.l0])
    | succ k1 =>
      have H := HA.out
      clear HA
      simp only [ownTexts.l0] at H
      by_cases c4 : x9_1 < (l0.length : Int)
      · rw [if_pos c4] at H
        have c4b0 : decide (x9_1 < (l0.length : Int)) = true := decide_eq_true c4
        clear c4
        by_cases c5 : 0 ≤ x9_1
        · rw [if_pos c5] at H
          have c5b0 : decide (0 ≤ x9_1) = true := decide_eq_true c5
          clear c5
          by_cases c6 : x9_1 < (l0.length : Int)
          · rw [if_pos c6] at H
            have c6b0 : decide (x9_1 < (l0.length : Int)) = true := decide_eq_true c6
            clear c6
            by_cases c7 : x3_1.length < 5864062014805
            · rw [if_pos c7] at H
              have LMc7 := Aside0.mk c7
              clear c7
              obtain ⟨y185, hy185⟩ : ∃ y_ : List (S25), y_ = (x3_1 ++ [(⟨0, rdOf ByteArray.empty l0 x9_1⟩ : S25)]) := ⟨_, rfl⟩
              replace H : (ownTexts.l0 k1 y185 l0 (l0.length : Int) (wrap64 (x9_1 + 1))) = some r := by first | (rw [hy185]; with_reducible exact H) | (have H2_ := (Option.bind_some _ _).symm.trans H; rw [hy185]; with_reducible exact H2_) | (have H2_ := (Option.bind_some _ _).symm.trans H; with_reducible exact H2_) | with_reducible exact H | (rw [hy185]; exact H) | exact H
              have Ny185 := Aside0.mk hy185
              clear hy185
              have H' := Aside0.mk H
              clear H
              have p184 : 0 ≤ (x9_1 : Int) := of_decide_eq_true (by first | (with_reducible assumption) | assumption)
              have q184 : x9_1 < (l0.length : Int) := of_decide_eq_true (by first | (with_reducible assumption) | assumption)
              obtain ⟨ad184, e184, hx184_0⟩ := Kd.at_string HR0.out x9_1 p184 q184
              cases e184
              replace hx184_0 := (HB.out.cell (World.block_lt_of_cell? w _ hx184_0)).trans hx184_0
              replace p184 := eq_true p184
              replace q184 := eq_true q184
              go_wp2_with (first | ((with_reducible refine gate_builtin (b := .append) (xs := #[.tmp 13, .tmp 16]) rfl ?_); at_builtin; refine Kd.R_append k25 (w0 := w) w.heap.size rfl (.tmp 13) (.tmp 16) 42 44 (.agg #[(.int .i64 0), (.string ⟨#[]⟩)]) 24 rfl Tryd.underlying42 info25 rfl (by decide) (by omega) u3 x3_1 (⟨0, rdOf ByteArray.empty l0 x9_1⟩ : S25) [.int .i64 0, .string (rdOf ByteArray.empty l0 x9_1)] (fun _ => True) (fun _ => False) rfl rfl ?aP (fun _ hk => hk.elim) ?aF ?aO ?aB ?aS ?aL ?_; (case aP => exact k25_mkM _ _ _ (⟨0, rdOf ByteArray.empty l0 x9_1⟩ : S25)); (case aB => exact (by repeat (first | (with_reducible first | exact HB.out | apply below_alloc | apply pw_below_drewN | apply below_drew1) | exact HB.out))); (case aF => exact (fun _ _ => trivial)); (case aO => exact (by (with_reducible repeat (first | apply Kd.R_alloc | apply Kd.R_drewN | apply Kd.R_drew)); exact HO_3.out)); (case aS => exact (below_size (by repeat (first | (with_reducible first | exact HB.out | apply below_alloc | apply pw_below_drewN | apply below_drew1) | exact HB.out)))); (case aL => have := LMc7.out; omega); intro v186 w8 ho hb hg hat; rw [← Ny185.out] at ho; have n0_ := Aside0.mk (hb); have n1_ := Aside0.mk (ho); clear HB; clear HO_3; have HB := n0_; have HO187 := n1_; clear n0_ n1_; clear ho hb hg hat))
              go_roundg k1
              case measure => have := HK1.out; omega
              case rel => exact ⟨(y185), (wrap64 (x9_1 + 1)), (by first | rfl | (simp; done) | (simp [*]; done)), H', ⟨by have := HK1.out; omega⟩, ⟨by (with_reducible repeat (first | apply Kd.R_alloc | apply Kd.R_drewN | apply Kd.R_drew)); exact HO187.out⟩, ⟨by repeat (first | (with_reducible first | exact HB.out | apply below_alloc | apply pw_below_drewN | apply below_drew1) | exact HB.out)⟩⟩
            · rw [if_neg c7] at H
              exact absurd H (by simp)
          · rw [if_neg c6] at H
            exact absurd H (by simp)
        · rw [if_neg c5] at H
          exact absurd H (by simp)
      · rw [if_neg c4] at H
        have c4b0 : decide (x9_1 < (l0.length : Int)) = false := decide_eq_false c4
        clear c4
        obtain rfl := Option.some.inj H
        obtain ⟨Ao, co, eo⟩ := Kd.R_slice HO_3.out
        subst eo
        have HRR := Aside0.mk (Kd.R_reads' HO_3.out)
        go_wp2_with (first
          | (go_at_call 18; refine (groupOf_any Ao co x3_1 _ HRR.out.2.2 HRR.out.2.1 HLEN.out).mono ?_; rintro e w1 ⟨g, v1, ps1, rfl, G1, hb1⟩; have HG1 := Aside0.mk G1; have HB1 := Aside0.mk hb1; clear G1 hb1)
          | (go_at_call 19; refine (groupText_any g _ v1 ps1 x3_1 K s _ HG1.out HLEN.out HS.out).mono ?_; rintro e w2 ⟨rfl, hb2⟩))
        go_ret
        have h1 := HB.out.trans (HB1.out.mono HB.out.size)
        exact ⟨rfl, h1.trans (hb2.mono h1.size)⟩

/-- The comments are those of the texts, at place 0. -/
theorem ownTexts_from (l : List ByteArray) (hl : l.length ≤ 1000000) (d : Nat) : ∀ (i : Nat) (x : List S25) (k : Nat), l.length - i = d → i ≤ l.length → x.length = i → d < k →
    ownTexts.l0 k x l (l.length : Int) (i : Int) = some (x ++ (l.drop i).map (fun s => (⟨0, s⟩ : S25))) := by
  induction d with
  | zero =>
    intro i x k hd hi hx hk
    obtain ⟨k, rfl⟩ : ∃ m, k = m + 1 := ⟨k - 1, by omega⟩
    simp only [ownTexts.l0]
    rw [if_neg (by omega), List.drop_eq_nil_of_le (by omega)]
    simp
  | succ d ih =>
    intro i x k hd hi hx hk
    obtain ⟨k, rfl⟩ : ∃ m, k = m + 1 := ⟨k - 1, by omega⟩
    have hlt : i < l.length := by omega
    simp only [ownTexts.l0]
    rw [if_pos (by omega), if_pos (by omega), if_pos (by omega), if_pos (by omega)]
    have hw : wrap64 ((i : Int) + 1) = ((i + 1 : Nat) : Int) := by unfold wrap64; omega
    have hr : rdOf ByteArray.empty l (i : Int) = l[i] := by simp [rdOf, hlt]
    rw [hw, ih (i + 1) _ k (by omega) (by omega) (by simp [hx]) (by omega), List.drop_eq_getElem_cons hlt, hr, List.map_cons, List.append_assoc]
    rfl
theorem ownTexts_all (l : List ByteArray) (hl : l.length ≤ 1000000) : ownTexts.f (l.length + 1) l = some (l.map (fun s => (⟨0, s⟩ : S25))) := by
  unfold ownTexts.f
  exact ownTexts_from l hl l.length 0 [] (l.length + 1) rfl (Nat.zero_le _) rfl (by omega)

/-- impl.CommentText of not too many comments. -/
def impl_CommentText.f (l0 : List ByteArray) : Option ByteArray := if l0.length ≤ 1000000 then textF 1000000000000000 l0 else none
theorem impl_CommentText.calls (A0 : Option Addr) (c0 : Nat) (l0 : List ByteArray) (r : ByteArray) (w : World) (hr0 : Kd.C Kd.string w A0 l0.length l0) (hc0 : l0.length ≤ c0) (h : impl_CommentText.f l0 = some r) :
    Calls Tryd.prog 9 #[.slice A0 l0.length c0] w fun e w' => e = .returned (.string r) ∧ Below w.heap.size w w' := by
  unfold impl_CommentText.f at h
  split at h
  next hb =>
    refine commentText_any 1000000000000000 _ A0 c0 l0 _ r w hr0 hc0 (ownTexts_all l0 hb) (by simpa using hb) ?_
    rw [List.map_map]
    simpa [Function.comp_def] using h
  next => cases h
end Go.Proofs.YtcjiafjahfmdoaaDoor.A
