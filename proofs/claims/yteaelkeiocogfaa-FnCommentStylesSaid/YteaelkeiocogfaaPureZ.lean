/- The text of comments of at most 1000 bytes: the package's and the reference's are the same. -/
import Derived.Test.YteaelkeiocogfaaPureY
import Derived.Test.YteaelkeiocogfaaA7
namespace Go.Proofs.Yteaelkeiocogfaa.A
open Go.RowKit Go.Proofs.YteaelkeiocogfaaW.PrintWords Go.Proofs.YteaelkeiocogfaaW.PrintLast Go.Proofs.YteaelkeiocogfaaW.PrintMore
set_option linter.unusedVariables false
set_option linter.unusedSimpArgs false

theorem not_begins {s p : ByteArray} (hs : s.size ≤ 1000000) (h : ¬ ∃ r, bs s = bs p ++ r) : spec_begins.f s p = some false := by
  obtain ⟨b, hb⟩ := begins_any s p hs
  cases b with
  | false => exact hb
  | true => exact absurd ((begins_bs hb).1 rfl) h
theorem is_begins {s p : ByteArray} (hs : s.size ≤ 1000000) (h : ∃ r, bs s = bs p ++ r) : spec_begins.f s p = some true := by
  obtain ⟨b, hb⟩ := begins_any s p hs
  rw [hb, (begins_bs hb).2 h]

theorem dir_none (k : Nat) (hk : 0 < k) : spec_isDirective.f k (⟨#[]⟩ : ByteArray) = some false := by
  obtain ⟨k, rfl⟩ : ∃ m, k = m + 1 := ⟨k - 1, by omega⟩
  have e : bs (⟨#[]⟩ : ByteArray) = [] := rfl
  have n : ∀ p : ByteArray, bs p ≠ [] → spec_begins.f (⟨#[]⟩ : ByteArray) p = some false := by
    intro p hp
    refine not_begins (by decide) fun ⟨r, hr⟩ => ?_
    rw [e] at hr
    have := List.append_eq_nil_iff.1 hr.symm
    exact hp this.1
  unfold spec_isDirective.f
  rw [n _ (by simp [bs])]
  simp only [Option.bind_some]
  rw [if_neg (by decide), n _ (by simp [bs])]
  simp only [Option.bind_some]
  rw [if_neg (by decide), n _ (by simp [bs])]
  simp only [Option.bind_some]
  rw [if_neg (by decide)]
  unfold spec_colonOf.f
  simp only [spec_colonOf.l0]
  rw [if_neg (by decide)]
  rfl

/-- The lines of a comment, on both sides. -/
structure Both (c : ByteArray) (Ls : List Bs) : Prop where
  impl : ImplC c Ls
  spec : ∀ k, 600000 < k → spec_commentLines.f k c = some (Ls.map mkB)
  len : Ls.length ≤ 1001
  wt : (flat Ls).length ≤ 1001
  each : ∀ x ∈ Ls, x.length ≤ 1000 ∧ 10 ∉ x ∧ ∀ d ∈ x, d ∈ bs c

theorem both_split {c : ByteArray} {m : Bs} (hc : c.size ≤ 1000) (hm : m.length ≤ 1000) (hsub : ∀ d ∈ m, d ∈ bs c) : (splitNL m).length ≤ 1001 ∧ (flat (splitNL m)).length ≤ 1001 ∧ ∀ x ∈ splitNL m, x.length ≤ 1000 ∧ 10 ∉ x ∧ ∀ d ∈ x, d ∈ bs c := by
  refine ⟨by have := splitNL_len m; omega, by rw [flat_split]; simp; omega, fun x hx => ⟨?_, splitNL_no m x hx, fun d hd => hsub d (splitNL_sub m x hx d hd)⟩⟩
  have hz : (mkB m).size ≤ 200000 := by rw [mk_size]; omega
  obtain ⟨L, hL, hLs⟩ := splitb_l1 (mkB m).size 1000000 (mkB m) [] (Nat.le_refl _) hz (by simp; omega) (by omega)
  have e := lines_split hLs
  rw [bs_mk] at e
  rw [← e] at hx
  obtain ⟨y, hy, rfl⟩ := List.mem_map.1 hx
  have := lines_size hLs y hy
  rw [mk_size] at this
  rw [bs_len]
  omega

theorem comment_both (c : ByteArray) (hs : c.size ≤ 1000) (h : IsC c) : ∃ Ls, Both c Ls := by
  rcases h.1 with ⟨m, a, b, hb⟩ | ⟨r, hr, h10⟩
  · have hz : c.size = m.length + 4 := by rw [← bs_len, hb]; simp
    obtain ⟨hl, hw0, he⟩ := both_split (c := c) (m := m) hs (by omega) (fun d hd => by rw [hb]; simp [hd])
    refine ⟨splitNL m, implC_block hb (by omega), fun k hk => ?_, hl, hw0, he⟩
    have hw : wrap64 ((c.size : Int) - 2) = ((m.length + 2 : Nat) : Int) := by unfold wrap64; omega
    have et : ((m.length + 2 : Nat) : Int).toNat = m.length + 2 := by omega
    have hx : bs (c.extract 2 (m.length + 2)) = m := by
      rw [bs_ext, hb]
      show ((m ++ [a, b])).take (m.length + 2 - 2) = m
      rw [Nat.add_sub_cancel]
      exact List.take_left
    have hxz : (c.extract 2 (m.length + 2)).size = m.length := by rw [← bs_len, hx]
    unfold spec_commentLines.f
    rw [is_begins (by omega) ⟨m ++ [a, b], by rw [hb]; rfl⟩]
    simp only [Option.bind_some]
    rw [if_pos trivial, hw, if_pos (by omega), if_pos (by omega), et, lines_big _ (by rw [hxz]; omega) k (by omega), hx]
    rfl
  · have hz : c.size = r.length + 2 := by rw [← bs_len, hr]; simp
    have nb : spec_begins.f c ⟨#[47, 42]⟩ = some false := not_begins (by omega) fun ⟨q, hq⟩ => by
      rw [hr] at hq
      have e : bs (⟨#[47, 42]⟩ : ByteArray) = [47, 42] := rfl
      rw [e] at hq
      have := (List.cons.inj (List.cons.inj hq).2).1
      cases this
    obtain ⟨rs, hrs⟩ : ∃ rs, c.extract 2 c.size = rs := ⟨_, rfl⟩
    have hrb : bs rs = r := by rw [← hrs, ext_all, hr]; rfl
    have hrz : rs.size = r.length := by rw [← bs_len, hrb]
    have hnil : (rs.toList = ([] : List UInt8)) ↔ r = [] := by rw [bs_list, hrb]
    have start : ∀ k, spec_commentLines.f k c = if rs.toList = ([] : List UInt8) then spec_commentLines.j0 k rs false else if 0 < (rs.size : Int) then spec_commentLines.j0 k rs (bt rs 0 == 32) else none := by
      intro k
      unfold spec_commentLines.f
      rw [nb]
      simp only [Option.bind_some]
      rw [if_neg (by decide), if_pos (by omega), hrs]
    have sub : ∀ d ∈ r, d ∈ bs c := fun d hd => by rw [hr]; simp [hd]
    cases r with
    | nil =>
      refine ⟨[[]], implC_empty hr, fun k hk => ?_, by simp, by simp [flat], fun x hx => by rw [List.mem_singleton.1 hx]; simp⟩
      have hrse : rs = ⟨#[]⟩ := bs_inj (by rw [hrb]; rfl)
      rw [start, if_pos (hnil.2 rfl)]
      obtain ⟨k, rfl⟩ : ∃ m, k = m + 1 := ⟨k - 1, by omega⟩
      simp only [spec_commentLines.j0]
      rw [if_neg (by decide), hrse, dir_none k (by omega)]
      rfl
    | cons x r =>
      have hpos : (0 : Int) < (rs.size : Int) := by rw [hrz, List.length_cons]; omega
      have b0 : bt rs 0 = (x.toNat : Int) := bt_get (i := 0) (x := x) (by rw [hrb]; rfl)
      by_cases hx : x = 32
      · subst hx
        have h10' : 10 ∉ r := fun e => h10 (List.mem_cons_of_mem _ e)
        have hsp := splitNL_none r h10'
        refine ⟨splitNL r, implC_blank hr (by omega), fun k hk => ?_, by rw [hsp]; simp, by rw [flat_split]; simp at hz ⊢; omega, fun y hy => ?_⟩
        · have hb : (bt rs 0 == 32) = true := by rw [b0]; rfl
          have h1z : (1 : Int) ≤ (rs.size : Int) := by omega
          have he : bs (rs.extract 1 rs.size) = r := by rw [ext_all, hrb]; rfl
          rw [start, if_neg (fun e => by have := hnil.1 e; cases this), if_pos hpos, hb]
          obtain ⟨k, rfl⟩ : ∃ m, k = m + 1 := ⟨k - 1, by omega⟩
          simp only [spec_commentLines.j0]
          rw [if_pos trivial, if_pos h1z, hsp, List.map_cons, List.map_nil, ← he, mk_bs]
        · rw [hsp] at hy
          rw [List.mem_singleton.1 hy]
          exact ⟨by simp at hz; omega, h10', fun d hd => sub d (List.mem_cons_of_mem _ hd)⟩
      · obtain ⟨b, hb1, hb2⟩ := dir_any rs (by omega)
        have hm : mkB (x :: r) = rs := by rw [← hrb, mk_bs]
        have hsp := splitNL_none (x :: r) h10
        have hfalse : (bt rs 0 == 32) = false := beq_eq_false_iff_ne.2 fun e => hx ((nat_byte (n := 32) (by decide)).1 (b0.symm.trans e))
        refine ⟨if b = true then [] else splitNL (x :: r), implC_line hr hx (Nat.le_trans hs (by decide)) (by rw [hm]; exact hb1), fun k hk => ?_, ?_, ?_, fun y hy => ?_⟩
        · clear hx
          rw [start, if_neg (fun e => by have := hnil.1 e; cases this), if_pos hpos, hfalse]
          obtain ⟨k, rfl⟩ : ∃ m, k = m + 1 := ⟨k - 1, by omega⟩
          simp only [spec_commentLines.j0]
          rw [if_neg (by decide), hb2 k (by omega)]
          simp only [Option.bind_some]
          cases b with
          | true => rfl
          | false =>
            rw [if_neg (by decide), if_neg (by decide), hsp, List.map_cons, List.map_nil, hm]
        · cases b with
          | true => simp
          | false => rw [if_neg (by decide), hsp]; simp
        · clear hx
          cases b with
          | true => simp [flat]
          | false => rw [if_neg (by decide), flat_split, List.length_append, List.length_singleton]; omega
        · cases b with
          | true => cases hy
          | false =>
            rw [if_neg (by decide), hsp] at hy
            rw [List.mem_singleton.1 hy]
            exact ⟨by clear hx; omega, h10, sub⟩

set_option maxRecDepth 100000
/-- The reference's loop over the lines of one comment. -/
theorem spec_l1_all (l : List ByteArray) (i K0 : Nat) (rest : List Bs) (hl : l.length ≤ 50) (hi : i < l.length) (Ls : List Bs) (hn : Ls.length ≤ 1001) (hsz : ∀ x ∈ Ls, x.length ≤ 1000)
    (ht : ∀ k, K0 ≤ k → ∀ (out : ByteArray) (e : Bool), out.size ≤ (i + 1) * 2000000 → spec_CommentText.l0 k out e l (l.length : Int) ((i + 1 : Nat) : Int) = some (mkB (specT (bs out) e rest))) (d : Nat) :
    ∀ (j k : Nat) (out : ByteArray) (e : Bool), Ls.length - j = d → j ≤ Ls.length → out.size ≤ i * 2000000 + j * 1002 → K0 + 200002 + d ≤ k →
    spec_CommentText.l1 k out e l (l.length : Int) (i : Int) (Ls.map mkB) ((Ls.map mkB).length : Int) (j : Int) = some (mkB (specT (bs out) e ((Ls.drop j).map (trimP isS) ++ rest))) := by
  induction d with
  | zero =>
    intro j k out e hd hj ho hk
    obtain ⟨k, rfl⟩ : ∃ m, k = m + 1 := ⟨k - 1, by omega⟩
    have hw : wrap64 ((i : Int) + 1) = ((i + 1 : Nat) : Int) := by unfold wrap64; omega
    simp only [spec_CommentText.l1]
    rw [List.length_map, if_neg (by omega), hw, ht k (by omega) out e (by omega), List.drop_eq_nil_of_le (by omega)]
    rfl
  | succ d ih =>
    intro j k out e hd hj ho hk
    obtain ⟨k, rfl⟩ : ∃ m, k = m + 1 := ⟨k - 1, by omega⟩
    have hlt : j < Ls.length := by omega
    have hw : wrap64 ((j : Int) + 1) = ((j + 1 : Nat) : Int) := by unfold wrap64; omega
    have hr : rdOf ByteArray.empty (Ls.map mkB) (j : Int) = mkB Ls[j] := by simp [rdOf, hlt]
    have hxl := hsz _ (List.getElem_mem hlt)
    obtain ⟨x, hx⟩ : ∃ x, trimP isS Ls[j] = x := ⟨_, rfl⟩
    have hxl2 : x.length ≤ 1000 := by rw [← hx]; exact Nat.le_trans (trimP_len _ _) hxl
    have hmz : (mkB x).size = x.length := mk_size x
    have ed : (Ls.drop j).map (trimP isS) ++ rest = x :: ((Ls.drop (j + 1)).map (trimP isS) ++ rest) := by
      rw [List.drop_eq_getElem_cons hlt, List.map_cons, hx]
      rfl
    have hnl : (⟨#[10]⟩ : ByteArray).size = 1 := rfl
    have go : ∀ (out' : ByteArray) (e' : Bool), out'.size ≤ i * 2000000 + (j + 1) * 1002 → spec_CommentText.l1 k out' e' l (l.length : Int) (i : Int) (Ls.map mkB) (Ls.length : Int) ((j + 1 : Nat) : Int) = some (mkB (specT (bs out') e' ((Ls.drop (j + 1)).map (trimP isS) ++ rest))) := by
      intro out' e' h
      have := ih (j + 1) k out' e' (by omega) (by omega) h (by omega)
      rw [List.length_map] at this
      exact this
    rw [ed]
    simp only [spec_CommentText.l1]
    rw [List.length_map, if_pos (by omega), if_pos (by omega), if_pos (by omega), hr, trim_any _ (mkB Ls[j]) rfl (by rw [mk_size]; omega) k (by rw [mk_size]; omega)]
    simp only [Option.bind_some]
    rw [bs_mk, hx, hw, bs_list, bs_mk, bs_list]
    by_cases hx0 : x = []
    · rw [if_pos hx0, specT, if_pos hx0]
      exact go out true (by omega)
    · rw [if_neg hx0, specT, if_neg hx0]
      have s1 : (out ++ mkB x).size = out.size + x.length := by rw [ByteArray.size_append, hmz]
      have s2 : (out ++ (⟨#[10]⟩ : ByteArray)).size = out.size + 1 := by rw [ByteArray.size_append, hnl]
      have s3 : ((out ++ (⟨#[10]⟩ : ByteArray)) ++ mkB x).size = out.size + 1 + x.length := by rw [ByteArray.size_append, s2, hmz]
      have s4 : ((out ++ mkB x) ++ (⟨#[10]⟩ : ByteArray)).size = out.size + x.length + 1 := by rw [ByteArray.size_append, s1, hnl]
      have s5 : (((out ++ (⟨#[10]⟩ : ByteArray)) ++ mkB x) ++ (⟨#[10]⟩ : ByteArray)).size = out.size + 1 + x.length + 1 := by rw [ByteArray.size_append, s3, hnl]
      have e1 : bs ((out ++ mkB x) ++ (⟨#[10]⟩ : ByteArray)) = bs out ++ x ++ [10] := by rw [bs_app, bs_app, bs_mk]; rfl
      have e2 : bs (((out ++ (⟨#[10]⟩ : ByteArray)) ++ mkB x) ++ (⟨#[10]⟩ : ByteArray)) = bs out ++ [10] ++ x ++ [10] := by rw [bs_app, bs_app, bs_app, bs_mk]; rfl
      have g1 := go ((out ++ mkB x) ++ (⟨#[10]⟩ : ByteArray)) false (by rw [s4]; omega)
      have g2 := go (((out ++ (⟨#[10]⟩ : ByteArray)) ++ mkB x) ++ (⟨#[10]⟩ : ByteArray)) false (by rw [s5]; omega)
      rw [e1] at g1
      rw [e2] at g2
      have q1 : out.size + (mkB x).size ≤ 9223372036854775807 := by rw [hmz]; omega
      have q2 : (out ++ mkB x).size + 1 ≤ 9223372036854775807 := by rw [s1]; omega
      have q3 : out.size + 1 ≤ 9223372036854775807 := by omega
      have q4 : (out ++ (⟨#[10]⟩ : ByteArray)).size + (mkB x).size ≤ 9223372036854775807 := by rw [s2, hmz]; omega
      have q5 : ((out ++ (⟨#[10]⟩ : ByteArray)) ++ mkB x).size + 1 ≤ 9223372036854775807 := by rw [s3]; omega
      cases e with
      | true =>
        rw [if_pos rfl]
        by_cases ho0 : bs out = []
        · rw [if_pos ho0, if_pos q1, if_pos q2, g1, if_neg (fun h => h.2 ho0)]
        · rw [if_neg ho0, if_pos q3, if_pos q4, if_pos q5, g2, if_pos ⟨rfl, ho0⟩]
      | false =>
        rw [if_neg (by decide), if_pos q1, if_pos q2, g1, if_neg (fun h => by have := h.1; cases this)]

theorem arZ0 {D k n c : Nat} (hc : c = 200002) (h : D + 1000000 ≤ k) (hn : n ≤ 1001) : D + 1 + c + n ≤ k := by omega
theorem arZ {d k n : Nat} (h : (d + 1) * 1000000 + 1 ≤ k + 1) (hn : n ≤ 1001) : d * 1000000 + 1 + 200002 + n ≤ k := by
  have h2 := Nat.le_of_succ_le_succ h
  rw [Nat.succ_mul] at h2
  exact arZ0 rfl h2 hn
theorem spec_l0_all (l : List ByteArray) (F : ByteArray → List Bs) (hl : l.length ≤ 50) (hF : ∀ c ∈ l, Both c (F c)) (d : Nat) : ∀ (i : Nat), l.length - i = d → i ≤ l.length →
    ∀ k, d * 1000000 + 1 ≤ k → ∀ (out : ByteArray) (e : Bool), out.size ≤ i * 2000000 → spec_CommentText.l0 k out e l (l.length : Int) (i : Int) = some (mkB (specT (bs out) e (((l.drop i).flatMap F).map (trimP isS)))) := by
  induction d with
  | zero =>
    intro i hd hi k hk out e ho
    obtain ⟨k, rfl⟩ : ∃ m, k = m + 1 := ⟨k - 1, by omega⟩
    simp only [spec_CommentText.l0]
    rw [if_neg (by omega), List.drop_eq_nil_of_le (by omega)]
    simp [specT, mk_bs]
  | succ d ih =>
    intro i hd hi k hk out e ho
    obtain ⟨k, rfl⟩ : ∃ m, k = m + 1 := ⟨k - 1, by omega⟩
    have hlt : i < l.length := by omega
    have hB := hF _ (List.getElem_mem hlt)
    have hr : rdOf ByteArray.empty l (i : Int) = l[i] := by simp [rdOf, hlt]
    have hlen := hB.len
    simp only [spec_CommentText.l0]
    rw [if_pos (by omega), if_pos (by omega), if_pos (by omega), hr, hB.spec k (by omega)]
    simp only [Option.bind_some]
    obtain ⟨n, hn⟩ : ∃ n, (F l[i]).length = n := ⟨_, rfl⟩
    rw [hn] at hlen
    have q1 : out.size ≤ i * 2000000 + 0 * 1002 := Nat.le_trans ho (Nat.le_add_right _ _)
    have q2 : d * 1000000 + 1 + 200002 + n ≤ k := arZ hk hlen
    have q3 : (F l[i]).length ≤ 1001 := by rw [hn]; exact hlen
    have := spec_l1_all l i (d * 1000000 + 1) (((l.drop (i + 1)).flatMap F).map (trimP isS)) hl hlt (F l[i]) q3 (fun x hx => (hB.each x hx).1) (fun k hk out e ho => ih (i + 1) (by omega) (by omega) k hk out e ho) n 0 k out e hn (Nat.zero_le _) q1 q2
    rw [show ((0 : Nat) : Int) = 0 from rfl] at this
    rw [this, List.drop_zero, List.drop_eq_getElem_cons hlt, List.flatMap_cons, List.map_append]
end Go.Proofs.Yteaelkeiocogfaa.A
