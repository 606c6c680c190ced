/- The law of quoted arguments: what its walk computes is true. -/
import Derived.Test.YtcjiafjahfmdoaaFmtPureF
import Derived.Test.YtcjiafjahfmdoaaFmtA22
import Derived.Test.YtcjiafjahfmdoaaFmtA23
import Derived.Test.YtcjiafjahfmdoaaFmtA17
namespace Go.Proofs.YtcjiafjahfmdoaaFmt.A
open Go.RowKit Go.Proofs.YtcjiafjahfmdoaaFmtW.PrintWords Go.Proofs.YtcjiafjahfmdoaaFmtW.PrintLast Go.Proofs.YtcjiafjahfmdoaaFmtW.PrintMore
set_option linter.unusedVariables false
set_option linter.unusedSimpArgs false

def esc1 (c : UInt8) : Bs := if c = 34 ∨ c = 92 then [92, c] else [c]
def escs : Bs → Bs
  | [] => []
  | c :: t => esc1 c ++ escs t
/-- A text as an argument, with the blank ahead of it. -/
def enc (raw : Bool) (s : Bs) : Bs := if raw = true then 32 :: 96 :: (s ++ [96]) else 32 :: 34 :: (escs s ++ [34])
def argsOf (raw : Bool) : List Bs → Bs
  | [] => []
  | s :: l => enc raw s ++ argsOf raw l
theorem esc1_len (c : UInt8) : (esc1 c).length ≤ 2 := by
  unfold esc1
  split
  · exact Nat.le_refl _
  · exact Nat.le_succ _
theorem escs_len : ∀ s : Bs, (escs s).length ≤ 2 * s.length
  | [] => Nat.le_refl _
  | c :: t => by
    have h1 := esc1_len c
    have h2 := escs_len t
    rw [escs, List.length_append, List.length_cons]
    omega
theorem enc_len (raw : Bool) (s : Bs) : (enc raw s).length ≤ 2 * s.length + 3 ∧ 3 ≤ (enc raw s).length := by
  unfold enc
  cases raw with
  | true =>
    rw [if_pos rfl, List.length_cons, List.length_cons, List.length_append]
    simp only [List.length_cons, List.length_nil]
    omega
  | false =>
    have := escs_len s
    rw [if_neg nft, List.length_cons, List.length_cons, List.length_append]
    simp only [List.length_cons, List.length_nil]
    omega
theorem uqs_esc (rest : Bs) : ∀ (s : Bs) (k : Nat), (escs s ++ 34 :: rest).length < k → uqs k (escs s ++ 34 :: rest) = some (s, rest)
  | [], k, h => by
    obtain ⟨k, rfl, _⟩ := ar34 h
    show uqs (k + 1) (34 :: rest) = _
    rw [uqs, if_pos rfl]
  | c :: t, k, h => by
    obtain ⟨k, rfl, hk⟩ := ar34 h
    rw [escs] at h hk ⊢
    unfold esc1 at h hk ⊢
    have e34 : escV 34 = some 34 := by decide
    have e92 : escV 92 = some 92 := by decide
    by_cases hc : c = 34 ∨ c = 92
    · rw [if_pos hc] at h ⊢
      have h' : (escs t ++ 34 :: rest).length < k := by
        simp only [List.cons_append, List.nil_append, List.length_cons] at h
        omega
      have ih := uqs_esc rest t k h'
      show uqs (k + 1) (92 :: c :: (escs t ++ 34 :: rest)) = _
      have hu : uq (92 :: c :: (escs t ++ 34 :: rest)) = some (c, escs t ++ 34 :: rest) := by
        rcases hc with rfl | rfl
        · simp only [uq, ↓reduceIte, e34]
        · simp only [uq, ↓reduceIte, e92]
      rw [uqs, if_neg (by decide), hu]
      simp only
      rw [ih]
    · rw [if_neg hc] at h ⊢
      have h' : (escs t ++ 34 :: rest).length < k := by
        simp only [List.cons_append, List.nil_append, List.length_cons] at h
        omega
      have ih := uqs_esc rest t k h'
      show uqs (k + 1) (c :: (escs t ++ 34 :: rest)) = _
      rw [uqs, if_neg (fun e => hc (Or.inl e)), uq_plain (fun e => hc (Or.inr e))]
      simp only
      rw [ih]
theorem rawq_flat (rest : Bs) : ∀ s : Bs, (96 : UInt8) ∉ s → rawq (s ++ 96 :: rest) = some (s, rest)
  | [], _ => by
    show rawq (96 :: rest) = _
    rw [rawq, if_pos rfl]
  | c :: t, h => by
    have ih := rawq_flat rest t fun x => h (List.mem_cons_of_mem _ x)
    show rawq (c :: (t ++ 96 :: rest)) = _
    have hc : c ≠ 96 := fun e => h (by rw [e]; exact List.mem_cons_self ..)
    rw [rawq, if_neg hc, ih]
theorem okz_args (raw : Bool) : ∀ l : List Bs, okz (argsOf raw l) = true
  | [] => rfl
  | s :: l => by cases raw <;> rfl
/-- A text that may stand among the arguments. -/
def GT (raw : Bool) (s : Bs) : Prop := PL s ∧ (raw = true → (96 : UInt8) ∉ s)
theorem pl_one {c : UInt8} (h : Plain (c.toNat : Int)) (h2 : c ≠ 10) {t : Bs} (ht : PL t) : PL (c :: t) := by
  intro d hd
  cases hd with
  | head => exact ⟨h, h2⟩
  | tail _ hd => exact ht d hd
theorem pl_app {a b : Bs} (ha : PL a) (hb : PL b) : PL (a ++ b) := by
  intro d hd
  rcases List.mem_append.1 hd with h | h
  · exact ha d h
  · exact hb d h
theorem pl_nil : PL [] := fun d hd => by cases hd
theorem plain32 : Plain ((32 : UInt8).toNat : Int) := Or.inr (Or.inr ⟨by decide, by decide⟩)
theorem plain34 : Plain ((34 : UInt8).toNat : Int) := Or.inr (Or.inr ⟨by decide, by decide⟩)
theorem plain92 : Plain ((92 : UInt8).toNat : Int) := Or.inr (Or.inr ⟨by decide, by decide⟩)
theorem plain96 : Plain ((96 : UInt8).toNat : Int) := Or.inr (Or.inr ⟨by decide, by decide⟩)
theorem pl_escs : ∀ s : Bs, PL s → PL (escs s)
  | [], _ => pl_nil
  | c :: t, h => by
    rw [escs]
    refine pl_app ?_ (pl_escs t h.tail)
    have hc := h c (List.mem_cons_self ..)
    unfold esc1
    split
    · exact pl_one plain92 (by decide) (pl_one hc.1 hc.2 pl_nil)
    · exact pl_one hc.1 hc.2 pl_nil
theorem pl_enc (raw : Bool) {s : Bs} (h : PL s) : PL (enc raw s) := by
  unfold enc
  cases raw with
  | true =>
    rw [if_pos rfl]
    exact pl_one plain32 (by decide) (pl_one plain96 (by decide) (pl_app h (pl_one plain96 (by decide) pl_nil)))
  | false =>
    rw [if_neg nft]
    exact pl_one plain32 (by decide) (pl_one plain34 (by decide) (pl_app (pl_escs s h) (pl_one plain34 (by decide) pl_nil)))
theorem pl_args (raw : Bool) : ∀ l : List Bs, (∀ s ∈ l, GT raw s) → PL (argsOf raw l)
  | [], _ => pl_nil
  | s :: l, h => pl_app (pl_enc raw (h s (List.mem_cons_self ..)).1) (pl_args raw l fun x hx => h x (List.mem_cons_of_mem _ hx))
theorem enc_shape (raw : Bool) (s rest : Bs) : ∃ c body, enc raw s ++ rest = 32 :: c :: (body ++ c :: rest) ∧ isQ c = true ∧ isS c = false ∧ ((raw = true → (96 : UInt8) ∉ s) → qp (c :: (body ++ c :: rest)) = some (s, rest)) := by
  cases raw with
  | true =>
    refine ⟨96, s, ?_, rfl, rfl, fun h => ?_⟩
    · unfold enc
      rw [if_pos rfl]
      simp only [List.cons_append, List.append_assoc, List.nil_append]
    · rw [qp96]
      exact rawq_flat rest s (h rfl)
  | false =>
    refine ⟨34, escs s, ?_, rfl, rfl, fun _ => ?_⟩
    · unfold enc
      rw [if_neg nft]
      simp only [List.cons_append, List.append_assoc, List.nil_append]
    · rw [qp34]
      exact uqs_esc rest s _ (Nat.lt_succ_self _)
theorem ar40 {b r n : Nat} (h : b + (r + 1) + 1 + 1 < n) : ∃ m, n = m + 2 ∧ r < m := ⟨n - 2, by omega, by omega⟩
theorem sc_args (raw : Bool) : ∀ (ls : List Bs) (n i : Nat), (argsOf raw ls).length < n → (∀ s ∈ ls, GT raw s) → ∃ l, sc n (argsOf raw ls) i = some (some l) ∧ l.map (fun a => a.1) = ls
  | [], n, i, h, _ => by
    obtain ⟨n, rfl, _⟩ := ar34 h
    exact ⟨[], rfl, rfl⟩
  | s :: ls, n, i, h, hg => by
    obtain ⟨c, body, he, hQ, hS, hq⟩ := enc_shape raw s (argsOf raw ls)
    have hs := hg s (List.mem_cons_self ..)
    rw [argsOf, he] at h ⊢
    rw [List.length_cons, List.length_cons, List.length_append, List.length_cons] at h
    obtain ⟨n, rfl, hr⟩ := ar40 h
    obtain ⟨l, hl, hm⟩ := sc_args raw ls n (i + 1 + ((body ++ c :: argsOf raw ls).length + 1 - (argsOf raw ls).length)) hr fun x hx => hg x (List.mem_cons_of_mem _ hx)
    refine ⟨(s, false, i + 1) :: l, ?_, by rw [List.map_cons, hm]⟩
    rw [sc, if_pos (by decide), sc, hS, if_neg nft, hQ, if_pos rfl, hq hs.2]
    simp only
    rw [if_pos (okz_args raw ls), hl]
    rfl

theorem ar41 {S o j t : Nat} (hs : S ≤ 1000) (h : S = j + 1 + t) (ho : o ≤ 2 * j + 1) : o + 1 ≤ 9223372036854775807 ∧ o + 1 + 1 ≤ 9223372036854775807 ∧ o + 1 + 1 ≤ 2 * (j + 1) + 1 ∧ o + 1 ≤ 2 * (j + 1) + 1 ∧ S ≤ 2147483647 := by omega
theorem one_size (c : UInt8) : (mkB [c]).size = 1 := rfl
theorem quoted_l0 (s : ByteArray) (hs : s.size ≤ 1000) : ∀ (n : Nat) (u : Bs) (j k : Nat) (out : ByteArray), (bs s).drop j = u → j ≤ s.size → u.length < n → out.size ≤ 2 * j + 1 → n ≤ k →
    laws_quoted9.l0 k s out (s.size : Int) (j : Int) = some (mkB (bs out ++ (escs u ++ [34])))
  | 0, _, _, _, _, _, _, h, _, _ => absurd h (Nat.not_lt_zero _)
  | n + 1, [], j, k, out, hu, hj, hl, ho, hk => by
    obtain ⟨k, rfl⟩ : ∃ m, k = m + 1 := ⟨k - 1, by omega⟩
    have hj' : s.size ≤ j := by rw [← bs_len]; exact List.drop_eq_nil_iff.1 hu
    have ho' : out.size + 1 ≤ 9223372036854775807 := by omega
    rw [laws_quoted9.l0, if_neg (ar7 hj'), if_pos ho']
    exact congrArg some (bs_inj (by rw [bs_app, bs_mk]; rfl))
  | n + 1, c :: t, j, k, out, hu, hj, hl, ho, hk => by
    obtain ⟨k, rfl⟩ : ∃ m, k = m + 1 := ⟨k - 1, by omega⟩
    have hk' : n ≤ k := by omega
    obtain ⟨hc, ht, hlen⟩ := drop_cons hu
    have hsz : s.size = j + 1 + t.length := by rw [← bs_len]; exact hlen
    obtain ⟨a1, a2, a3, a4, a5⟩ := ar41 hs hsz ho
    obtain ⟨hw1, g1, g2, g3, g5, g6, hj1, g7⟩ := ar1 hsz a5
    have hl' : t.length < n := Nat.lt_of_succ_lt_succ hl
    have hex : s.extract ((j : Int)).toNat (((j + 1 : Nat) : Int)).toNat = mkB [c] := by rw [Int.toNat_natCast, Int.toNat_natCast]; exact ext_one hu
    have e92 : (⟨#[92]⟩ : ByteArray) = mkB [92] := rfl
    have hz1 : (out ++ mkB [92]).size = out.size + 1 := by rw [← bs_len, bs_app, List.length_append, bs_mk, bs_len]; rfl
    have hz2 : ((out ++ mkB [92]) ++ mkB [c]).size = out.size + 1 + 1 := by rw [← bs_len, bs_app, List.length_append, bs_mk, bs_len, hz1]; rfl
    have hz3 : (out ++ mkB [c]).size = out.size + 1 := by rw [← bs_len, bs_app, List.length_append, bs_mk, bs_len]; rfl
    have nx2 : c = 34 ∨ c = 92 → laws_quoted9.l0 k s ((out ++ mkB [92]) ++ mkB [c]) (s.size : Int) ((j + 1 : Nat) : Int) = some (mkB (bs out ++ (escs (c :: t) ++ [34]))) := by
      intro h
      rw [quoted_l0 s hs n t (j + 1) k _ ht hj1 hl' (by rw [hz2]; exact a3) hk', bs_app, bs_app, bs_mk, bs_mk, escs, esc1, if_pos h]
      simp only [List.append_assoc, List.cons_append, List.nil_append]
    have nx1 : ¬ (c = 34 ∨ c = 92) → laws_quoted9.l0 k s (out ++ mkB [c]) (s.size : Int) ((j + 1 : Nat) : Int) = some (mkB (bs out ++ (escs (c :: t) ++ [34]))) := by
      intro h
      rw [quoted_l0 s hs n t (j + 1) k _ ht hj1 hl' (by rw [hz3]; exact a4) hk', bs_app, bs_mk, escs, esc1, if_neg h]
      simp only [List.append_assoc, List.cons_append, List.nil_append]
    have hbj := bt_get hc
    rw [laws_quoted9.l0, if_pos g1, if_pos g2, if_pos g1, hbj, hw1, hex, e92, hz1, one_size]
    by_cases c34 : c = 34
    · rw [if_pos (by rw [c34]; exact eq34), if_pos a1, if_pos g7, if_pos g6, if_pos a2, nx2 (Or.inl c34)]
    · rw [if_neg (ne34 c34)]
      by_cases c92 : c = 92
      · rw [if_pos (by rw [c92]; exact eq92), if_pos a1, if_pos g7, if_pos g6, if_pos a2, nx2 (Or.inr c92)]
      · rw [if_neg (ne92 c92), if_pos g7, if_pos g6, if_pos a1, nx1 (fun h => h.elim c34 c92)]
theorem quoted_any (s : ByteArray) (hs : s.size ≤ 1000) (k : Nat) (hk : 1001 ≤ k) : laws_quoted9.f k s = some (mkB (34 :: (escs (bs s) ++ [34]))) :=
  quoted_l0 s hs (s.size + 1) (bs s) 0 k _ rfl (Nat.zero_le _) (by rw [bs_len]; exact Nat.lt_succ_self _) (by decide) (by omega)

theorem rdB_at {l : List ByteArray} {i : Nat} {x : ByteArray} (h : l[i]? = some x) : rdOf ByteArray.empty l (i : Int) = x := by
  unfold rdOf
  rw [Int.toNat_natCast, List.getD_eq_getElem?_getD, h]
  rfl
theorem ar42 {L i d : Nat} (h : L = i + (d + 1)) (hL : L ≤ 2147483647) : wrap64 ((i : Int) + 1) = ((i + 1 : Nat) : Int) ∧ (i : Int) < (L : Int) ∧ 0 ≤ (i : Int) ∧ L = i + 1 + d ∧ i < L := by
  unfold wrap64
  omega
theorem zz_l0 (l : List ByteArray) (hL : l.length ≤ 2147483647) : ∀ (d i : Nat), l.length = i + d → ∃ b, ∀ k, d < k → laws_zzFits1.l0 k l (l.length : Int) (i : Int) = some b
  | 0, i, hd => by
    refine ⟨true, fun k hk => ?_⟩
    obtain ⟨k, rfl, _⟩ := ar34 hk
    obtain ⟨h1, h2⟩ := ar32 hd
    rw [laws_zzFits1.l0, if_neg h1]
  | d + 1, i, hd => by
    obtain ⟨hw, g1, g2, g3, g4⟩ := ar42 hd hL
    obtain ⟨b, hb⟩ := zz_l0 l hL d (i + 1) g3
    by_cases h : ((rdOf ByteArray.empty l (i : Int)).size : Int) > 2147483647
    · refine ⟨false, fun k hk => ?_⟩
      obtain ⟨k, rfl, hk2⟩ := ar34 hk
      rw [laws_zzFits1.l0, if_pos g1, if_pos g2, if_pos g1, if_pos h]
    · refine ⟨b, fun k hk => ?_⟩
      obtain ⟨k, rfl, hk2⟩ := ar34 hk
      rw [laws_zzFits1.l0, if_pos g1, if_pos g2, if_pos g1, if_neg h, hw, hb k (hk2 d rfl)]
theorem zz_any (l : List ByteArray) : ∃ b, (∀ k, l.length < k → laws_zzFits1.f k l = some b) ∧ (b = true → l.length ≤ 2147483647) := by
  by_cases h : (l.length : Int) > 2147483647
  · exact ⟨false, fun k _ => if_pos h, fun e => by cases e⟩
  · obtain ⟨b, hb⟩ := zz_l0 l (by omega) l.length 0 (by omega)
    exact ⟨b, fun k hk => (if_neg h).trans (hb k hk), fun _ => by omega⟩

theorem q_l1 (l : List ByteArray) (g : List S28) (hg : g.length = l.length) (hL : l.length ≤ 1000000000) (he : ∀ i : Nat, i < l.length → ∃ x y, g[i]? = some x ∧ l[i]? = some y ∧ x.f0 = y) : ∀ (d i k : Nat), l.length = i + d → d < k →
    laws_FnArgsQuoted.l1 k l g (l.length : Int) (i : Int) = some true
  | 0, i, k, hd, hk => by
    obtain ⟨k, rfl, _⟩ := ar34 hk
    obtain ⟨h1, h2⟩ := ar32 hd
    rw [laws_FnArgsQuoted.l1, if_neg h1]
  | d + 1, i, k, hd, hk => by
    obtain ⟨k, rfl, hk2⟩ := ar34 hk
    obtain ⟨hw, g1, g2, g3, g4⟩ := ar31 hd hL
    have ih := q_l1 l g hg hL he d (i + 1) k g3 (hk2 d rfl)
    obtain ⟨x, y, hx, hy, hxy⟩ := he i g4
    rw [laws_FnArgsQuoted.l1, hg, if_pos g1, if_pos g2, if_pos g1, if_pos g1, hw, rd28_at hx, rdB_at hy, hxy, if_pos rfl, ih]

theorem hasByte_any (s : ByteArray) (hs : s.size ≤ 1000) (k : Nat) (hk : 2000 ≤ k) : ∃ b, spec_HasByte.f k s 96 = some b ∧ (b = false → (96 : UInt8) ∉ bs s) := by
  obtain ⟨n, hn, h0⟩ := count_any s 96 (by omega) k (by omega)
  have hn' : spec_count.f k s 96 = some (n : Int) := hn
  unfold spec_HasByte.f
  rw [hn']
  refine ⟨decide ((n : Int) > 0), rfl, fun h => h0 ?_⟩
  have := of_decide_eq_false h
  omega
theorem take_snoc {α : Type} {l : List α} {i : Nat} (h : i < l.length) : l.take (i + 1) = l.take i ++ [l[i]] := by
  rw [List.take_add_one, List.getElem?_eq_getElem h]
  rfl
theorem args_snoc (raw : Bool) (s : Bs) : ∀ l : List Bs, argsOf raw (l ++ [s]) = argsOf raw l ++ enc raw s
  | [] => by
    show enc raw s ++ [] = _
    rw [List.append_nil]
    rfl
  | x :: l => by
    show enc raw x ++ argsOf raw (l ++ [s]) = (enc raw x ++ argsOf raw l) ++ enc raw s
    rw [args_snoc raw s l, List.append_assoc]
theorem ar43 {a i z L : Nat} (ha : a ≤ 3000 * i) (hi : i < L) (hL : L ≤ 2147483647) (hz : z ≤ 2003) : a + z ≤ 9223372036854775807 ∧ a + z ≤ 3000 * (i + 1) := by omega
theorem ar44 {d k : Nat} (h : 3 * (d + 1) + 400000 ≤ k) : ∃ m, k = m + 2 ∧ 3 * d + 400000 ≤ m ∧ 2000 ≤ m ∧ 2000 ≤ m + 1 := ⟨k - 2, by omega, by omega, by omega, by omega⟩
theorem ar45 {d k : Nat} (h : 3 * d + 400000 ≤ k) : ∃ m, k = m + 2 ∧ 300020 ≤ m ∧ 300020 ≤ m + 1 := ⟨k - 2, by omega, by omega, by omega⟩
theorem ar46 {a L : Nat} (h : a ≤ 3000 * L) (hL : ¬ ((L : Int) > 50)) : a ≤ 150000 ∧ L ≤ 50 := by omega

theorem quoted_end (l : List ByteArray) (raw : Bool) (x5 : ByteArray) (hs : x5.size ≤ 3000 * l.length) (hx : bs x5 = argsOf raw (l.map bs)) (hg : ∀ s ∈ l, GT raw (bs s)) (k : Nat) (hk : 400000 ≤ k) :
    laws_FnArgsQuoted.l0 k l raw x5 l (l.length : Int) (l.length : Int) = some true := by
  obtain ⟨k, rfl, hk1, hk2⟩ := ar45 (d := 0) hk
  rw [laws_FnArgsQuoted.l0, if_neg (Int.lt_irrefl _)]
  by_cases h50 : (l.length : Int) > 50
  · rw [if_pos h50]
  · rw [if_neg h50]
    obtain ⟨q1, q2⟩ := ar46 hs h50
    have hlen : (bs x5).length ≤ 150000 := by rw [bs_len]; exact q1
    have hg' : ∀ s ∈ l.map bs, GT raw s := by
      intro s h
      obtain ⟨x, hx, rfl⟩ := List.mem_map.1 h
      exact hg x hx
    obtain ⟨r, hr, hm⟩ := sc_args raw (l.map bs) ((bs x5).length + 1) 0 (by rw [hx]; exact Nat.lt_succ_self _) hg'
    rw [← hx] at hr
    have hP : PL (bs x5) := by rw [hx]; exact pl_args raw _ hg'
    have him := impl_any (bs x5) 1 (by decide) (by decide) (by omega) hP (Or.inr ⟨r, hr⟩) (by rw [hr]; exact fun e => by cases e) (k + 1) (by omega)
    rw [mk_bs, hr] at him
    have hrl : r.length = l.length := by
      have := congrArg List.length hm
      rw [List.length_map, List.length_map] at this
      exact this
    have hgl : (r.map (pB 1)).length = l.length := by rw [List.length_map, hrl]
    have he : ∀ i : Nat, i < l.length → ∃ x y, (r.map (pB 1))[i]? = some x ∧ l[i]? = some y ∧ x.f0 = y := by
      intro i hi
      have hi' : i < r.length := by rw [hrl]; exact hi
      refine ⟨pB 1 r[i], l[i], map_at hi', List.getElem?_eq_getElem hi, ?_⟩
      have e1 : (r.map (fun a => a.1))[i]? = some r[i].1 := map_at hi'
      rw [hm] at e1
      have e2 : (l.map bs)[i]? = some (bs l[i]) := map_at hi
      rw [e2] at e1
      injection e1 with e1
      show mkB r[i].1 = l[i]
      rw [← e1, mk_bs]
    have hl1 := q_l1 l (r.map (pB 1)) hgl (by omega) he l.length 0 k (by omega) (by omega)
    rw [him]
    simp only [Option.bind_some]
    rw [show scB 1 (some (some r)) = (r.map (pB 1), true) from rfl, if_pos rfl, laws_FnArgsQuoted.j2]
    have hb : (((r.map (pB 1)).length : Int) != (l.length : Int)) = false := bne_eq_false_iff_eq.2 (by rw [hgl])
    show (if (((r.map (pB 1)).length : Int) != (l.length : Int)) = true then some false else laws_FnArgsQuoted.l1 k l (r.map (pB 1)) ((r.map (pB 1)).length : Int) 0) = some true
    rw [hb, if_neg nft, hgl]
    exact hl1

theorem quoted_loop (l : List ByteArray) (raw : Bool) (hL : l.length ≤ 2147483647) : ∀ (d i k : Nat) (x5 : ByteArray), l.length = i + d → x5.size ≤ 3000 * i → bs x5 = argsOf raw ((l.take i).map bs) → (∀ s ∈ l.take i, GT raw (bs s)) → 3 * d + 400000 ≤ k →
    laws_FnArgsQuoted.l0 k l raw x5 l (l.length : Int) (i : Int) = some true
  | 0, i, k, x5, hd, hs, hx, hg, hk => by
    obtain ⟨_, rfl⟩ := ar32 hd
    rw [List.take_length] at hx hg
    exact quoted_end l raw x5 hs hx hg k (by omega)
  | d + 1, i, k, x5, hd, hs, hx, hg, hk => by
    obtain ⟨k, rfl, hk1, hk2, hk3⟩ := ar44 hk
    obtain ⟨hw, g1, g2, g3, g4⟩ := ar42 hd hL
    have hy : l[i]? = some l[i] := List.getElem?_eq_getElem g4
    rw [laws_FnArgsQuoted.l0, if_pos g1, if_pos g2, if_pos g1, rdB_at hy]
    have htk := take_snoc g4
    obtain ⟨s, hsd⟩ : ∃ s, s = l[i] := ⟨_, rfl⟩
    rw [← hsd] at htk ⊢
    clear hy hsd
    have jt : laws_FnArgsQuoted.j1 (k + 1) l raw x5 s l (l.length : Int) (i : Int) true = some true := by
      rw [laws_FnArgsQuoted.j1, if_pos rfl]
    by_cases h1 : (s.size : Int) > 1000
    · rw [if_pos h1, jt]
    · rw [if_neg h1]
      have hs1 : s.size ≤ 1000 := by omega
      obtain ⟨b, hb, hbl⟩ := line_any s (by omega) (k + 1) (by omega)
      rw [hb]
      simp only [Option.bind_some]
      cases b with
      | false => rw [if_neg nft, jt]
      | true =>
        rw [if_pos rfl]
        have hPL : PL (bs s) := hbl rfl
        have nx : ∀ y : ByteArray, bs y = enc raw (bs s) → GT raw (bs s) → laws_FnArgsQuoted.l0 k l raw (x5 ++ y) l (l.length : Int) ((i + 1 : Nat) : Int) = some true := by
          intro y hy hGT
          have hyl : y.size ≤ 2003 := by
            have h2 := (enc_len raw (bs s)).1
            rw [← hy, bs_len, bs_len] at h2
            omega
          obtain ⟨q1, q2⟩ := ar43 hs g4 hL hyl
          refine quoted_loop l raw hL d (i + 1) k (x5 ++ y) g3 ?_ ?_ ?_ hk1
          · rw [← bs_len, bs_app, List.length_append, bs_len, bs_len]
            exact q2
          · rw [bs_app, hx, hy, htk, List.map_append, List.map_cons, List.map_nil, args_snoc]
          · intro x h
            rw [htk] at h
            rcases List.mem_append.1 h with h | h
            · exact hg x h
            · cases h with
              | head => exact hGT
              | tail _ h => cases h
        cases raw with
        | true =>
          rw [if_pos rfl]
          obtain ⟨b, hb, hb96⟩ := hasByte_any s hs1 (k + 1) hk3
          rw [hb]
          simp only [Option.bind_some]
          cases b with
          | true => exact jt
          | false =>
            have hy : bs (((⟨#[32, 96]⟩ : ByteArray) ++ s) ++ (⟨#[96]⟩ : ByteArray)) = enc true (bs s) := by
              rw [bs_app, bs_app]
              unfold enc
              rw [if_pos rfl]
              rfl
            have z1 : ((⟨#[32, 96]⟩ : ByteArray) ++ s).size = 2 + s.size := by rw [← bs_len, bs_app, List.length_append, bs_len s]; rfl
            have z2 : (((⟨#[32, 96]⟩ : ByteArray) ++ s) ++ (⟨#[96]⟩ : ByteArray)).size = 2 + s.size + 1 := by rw [← bs_len, bs_app, List.length_append, bs_len, z1]; rfl
            obtain ⟨q1, _⟩ := ar43 (z := 2 + s.size + 1) hs g4 hL (by omega)
            rw [laws_FnArgsQuoted.j1, if_neg nft, if_pos rfl, z2, z1, if_pos (by omega), if_pos (by omega), if_pos q1, hw]
            exact nx _ hy ⟨hPL, fun _ => hb96 rfl⟩
        | false =>
          rw [if_neg nft, laws_FnArgsQuoted.j1, if_neg nft, if_neg nft, quoted_any s hs1 k (by omega)]
          simp only [Option.bind_some]
          have hy : bs ((⟨#[32]⟩ : ByteArray) ++ mkB (34 :: (escs (bs s) ++ [34]))) = enc false (bs s) := by
            rw [bs_app, bs_mk]
            unfold enc
            rw [if_neg nft]
            rfl
          have z0 : (mkB (34 :: (escs (bs s) ++ [34]))).size ≤ 2002 := by
            have := escs_len (bs s)
            rw [mk_size, List.length_cons, List.length_append]
            rw [bs_len] at this
            simp only [List.length_cons, List.length_nil]
            omega
          have z1 : ((⟨#[32]⟩ : ByteArray) ++ mkB (34 :: (escs (bs s) ++ [34]))).size = 1 + (mkB (34 :: (escs (bs s) ++ [34]))).size := by rw [← bs_len, bs_app, List.length_append, bs_len (mkB _)]; rfl
          obtain ⟨q1, _⟩ := ar43 (z := 1 + (mkB (34 :: (escs (bs s) ++ [34]))).size) hs g4 hL (by omega)
          rw [z1, if_pos (by omega), if_pos q1, hw]
          exact nx _ hy ⟨hPL, fun h => by cases h⟩

theorem fnArgsQuoted_law (l : List ByteArray) (raw : Bool) : ∃ k, laws_FnArgsQuoted.f k l raw = some true := by
  obtain ⟨b, hb, hL⟩ := zz_any l
  refine ⟨3 * l.length + 400000, ?_⟩
  unfold laws_FnArgsQuoted.f
  rw [hb _ (by omega)]
  simp only [Option.bind_some]
  cases b with
  | false => rw [if_neg nft]
  | true =>
    rw [if_pos rfl]
    exact quoted_loop l raw (hL rfl) l.length 0 _ _ (by omega) (Nat.le_refl _) rfl (fun s h => by cases h) (Nat.le_refl _)
end Go.Proofs.YtcjiafjahfmdoaaFmt.A
