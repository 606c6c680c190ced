/- The reference's escapes are strconv's, at told ones. -/
import Derived.Test.YtcjiafjahfmdoaaFmtPureA
import Derived.Test.YtcjiafjahfmdoaaFmtGUqf
import Derived.Test.YtcjiafjahfmdoaaFmtA6
import Derived.Test.YtcjiafjahfmdoaaFmtA1
import Derived.Test.YtcjiafjahfmdoaaFmtA7
import Derived.Test.YtcjiafjahfmdoaaFmtA8
import Derived.Test.YtcjiafjahfmdoaaFmtA9
namespace Go.Proofs.YtcjiafjahfmdoaaFmt.A
open Go.RowKit Go.Proofs.YtcjiafjahfmdoaaFmtW.PrintWords Go.Proofs.YtcjiafjahfmdoaaFmtW.PrintLast Go.Proofs.YtcjiafjahfmdoaaFmtW.PrintMore
set_option linter.unusedVariables false
set_option linter.unusedSimpArgs false

def hexI (b : UInt8) : Int := match hexV b with | some a => (a : Int) | none => -1
theorem hexOf_any (b : UInt8) (k : Nat) (hk : 3 ≤ k) : spec_hexOf.f k (b.toNat : Int) = some (hexI b) := by
  have h : ∀ x : Fin 256, spec_hexOf.f 3 ((UInt8.ofNat x.val).toNat : Int) = some (hexI (UInt8.ofNat x.val)) := by decide +kernel
  have := h ⟨b.toNat, b.toNat_lt⟩
  simp only [UInt8.ofNat_toNat] at this
  exact at_rounds (fun k => spec_hexOf.mono _ k) hk this

def codesB : ByteArray := ⟨#[97, 98, 102, 110, 114, 116, 118, 92, 34]⟩
def bytesB : ByteArray := ⟨#[7, 8, 12, 10, 13, 9, 11, 92, 34]⟩
theorem esc_step (k i : Nat) (s : ByteArray) (hi : i < 9) (h0 : 0 < s.size) : spec_escapeOf.l0 (k + 1) s codesB bytesB 9 (i : Int) = if bt codesB (i : Int) = bt s 0 then some (bt bytesB (i : Int), 1) else spec_escapeOf.l0 k s codesB bytesB 9 ((i + 1 : Nat) : Int) := by
  have hw : wrap64 ((i : Int) + 1) = ((i + 1 : Nat) : Int) := by unfold wrap64; omega
  have z1 : codesB.size = 9 := rfl
  have z2 : bytesB.size = 9 := rfl
  simp only [spec_escapeOf.l0]
  rw [if_pos (by omega), if_pos (by omega), if_pos (by omega), if_pos (by omega), hw]
  split
  · rw [if_pos (by omega)]
  · rfl
theorem esc_j (K : Nat) (s : ByteArray) : spec_escapeOf.j1 (K + 1) s false = some (0, 0) := by
  simp only [spec_escapeOf.j1]
  rw [if_neg (by decide)]
theorem esc_no (K : Nat) (s : ByteArray) (hz : 0 < (s.size : Int)) (h : bt s 0 ≠ 120) : spec_escapeOf.l0 (K + 2) s codesB bytesB 9 9 = some (0, 0) := by
  simp only [spec_escapeOf.l0]
  rw [if_neg (by decide), if_pos hz, if_neg h, esc_j]
theorem esc_short (K : Nat) (s : ByteArray) (hz : 0 < (s.size : Int)) (h2 : ¬ (s.size : Int) > 2) : spec_escapeOf.l0 (K + 2) s codesB bytesB 9 9 = some (0, 0) := by
  simp only [spec_escapeOf.l0]
  rw [if_neg (by decide), if_pos hz, if_neg h2, esc_j]
  exact ite_self _
theorem esc_hex (K : Nat) (s : ByteArray) (h2 : (s.size : Int) > 2) (h : bt s 0 = 120) (v1 v2 : Int) (f1 : ∀ k, 3 ≤ k → spec_hexOf.f k (bt s 1) = some v1) (f2 : ∀ k, 3 ≤ k → spec_hexOf.f k (bt s 2) = some v2) (l1 : v1 ≤ 15) (l2 : v2 ≤ 15) :
    spec_escapeOf.l0 (K + 5) s codesB bytesB 9 9 = some (if 0 ≤ v1 ∧ 0 ≤ v2 then (16 * v1 + v2, 3) else (0, 0)) := by
  have g0 : 0 < (s.size : Int) := by omega
  have g1 : 1 < (s.size : Int) := by omega
  have g2 : 2 < (s.size : Int) := h2
  have e : ∀ k, 3 ≤ k → spec_escapeOf.l0 (k + 1) s codesB bytesB 9 9 = if v1 ≥ 0 then spec_escapeOf.j1 k s (decide (v2 ≥ 0)) else spec_escapeOf.j1 k s false := by
    intro k hk
    simp only [spec_escapeOf.l0]
    rw [if_neg (by decide), if_pos g0, if_pos h, if_pos h2, if_pos g1, f1 k hk]
    simp only [Option.bind_some]
    rw [if_pos g2, f2 k hk]
    rfl
  rw [e (K + 4) (by omega)]
  by_cases a : v1 ≥ 0
  · rw [if_pos a]
    by_cases b : v2 ≥ 0
    · rw [decide_eq_true b, if_pos ⟨a, b⟩]
      simp only [spec_escapeOf.j1]
      rw [if_pos trivial, if_pos g1, f1 _ (by omega)]
      simp only [Option.bind_some]
      rw [if_pos g2, f2 _ (by omega)]
      simp only [Option.bind_some]
      have w1 : wrap64 (16 * v1) = 16 * v1 := by unfold wrap64; omega
      have w2 : wrap64 (16 * v1 + v2) = 16 * v1 + v2 := by unfold wrap64; omega
      have w3 : (16 * v1 + v2) % 256 = 16 * v1 + v2 := by omega
      rw [w1, w2, w3]
    · rw [decide_eq_false b, if_neg (fun x => b x.2), esc_j]
  · rw [if_neg a, if_neg (fun x => a x.1), esc_j]
/-- What the reference makes of an escape. -/
def escR (l : List UInt8) : Int × Int := match uq (92 :: l) with | some (v, r) => ((v.toNat : Int), ((l.length - r.length : Nat) : Int)) | none => (0, 0)
theorem byte_eq {a b : UInt8} : ((a.toNat : Int) = (b.toNat : Int)) ↔ a = b := by
  constructor
  · intro h; exact UInt8.toNat_inj.1 (by omega)
  · rintro rfl; rfl
theorem hexI_le (b : UInt8) : hexI b ≤ 15 := by
  unfold hexI
  cases h : hexV b with
  | none => simp only; omega
  | some a => simp only; have := hexV_lt h; omega
theorem escR_code {e v : UInt8} {r : List UInt8} (hv : escV e = some v) : escR (e :: r) = ((v.toNat : Int), 1) := by
  unfold escR
  rw [show uq (92 :: e :: r) = some (v, r) by simp only [uq, ↓reduceIte, hv]]
  simp only [List.length_cons]
  rw [show r.length + 1 - r.length = 1 by omega]
  rfl
theorem escR_no {e : UInt8} {r : List UInt8} (hv : escV e = none) (hx : e ≠ 120) : escR (e :: r) = (0, 0) := by
  unfold escR
  rw [show uq (92 :: e :: r) = none by simp only [uq, ↓reduceIte, hv, if_neg hx]]
theorem v120 : escV 120 = none := by decide
theorem escR_x0 : escR [120] = (0, 0) := by
  unfold escR
  rw [show uq [92, 120] = none by simp only [uq, ↓reduceIte, v120]]
theorem escR_x1 (b : UInt8) : escR [120, b] = (0, 0) := by
  unfold escR
  rw [show uq [92, 120, b] = none by simp only [uq, ↓reduceIte, v120]]
theorem escR_x2 (b1 b2 : UInt8) (r : List UInt8) : escR (120 :: b1 :: b2 :: r) = if 0 ≤ hexI b1 ∧ 0 ≤ hexI b2 then (16 * hexI b1 + hexI b2, 3) else (0, 0) := by
  unfold escR hexI
  cases h1 : hexV b1 with
  | none =>
    rw [show uq (92 :: 120 :: b1 :: b2 :: r) = none by simp only [uq, ↓reduceIte, v120, h1]]
    simp only
    rw [if_neg (fun x => absurd x.1 (by decide))]
  | some x1 =>
    cases h2 : hexV b2 with
    | none =>
      rw [show uq (92 :: 120 :: b1 :: b2 :: r) = none by simp only [uq, ↓reduceIte, v120, h1, h2]]
      simp only
      rw [if_neg (fun x => absurd x.2 (by decide))]
    | some x2 =>
      rw [show uq (92 :: 120 :: b1 :: b2 :: r) = some (UInt8.ofNat (16 * x1 + x2), r) by simp only [uq, ↓reduceIte, v120, h1, h2]]
      have l1 := hexV_lt h1
      have l2 := hexV_lt h2
      have e2 : (UInt8.ofNat (16 * x1 + x2)).toNat = 16 * x1 + x2 := by simp only [UInt8.toNat_ofNat']; omega
      simp only [e2, List.length_cons]
      rw [if_pos ⟨Int.natCast_nonneg _, Int.natCast_nonneg _⟩]
      rw [show r.length + 1 + 1 + 1 - r.length = 3 by omega]
      rfl
theorem esc_end (K : Nat) (e : UInt8) (r : List UInt8) (hv : escV e = none) : spec_escapeOf.l0 (K + 5) (mkB (e :: r)) codesB bytesB 9 9 = some (escR (e :: r)) := by
  have hz : ((mkB (e :: r)).size : Int) = (r.length : Int) + 1 := by rw [mk_size]; rfl
  have hb0 : bt (mkB (e :: r)) 0 = (e.toNat : Int) := bt_get (c := mkB (e :: r)) (i := 0) (by rw [bs_mk]; rfl)
  have hpos : 0 < ((mkB (e :: r)).size : Int) := by rw [hz]; exact Int.lt_add_one_of_le (Int.natCast_nonneg _)
  by_cases hx : e = 120
  · subst hx
    cases r with
    | nil =>
      rw [escR_x0]
      exact esc_short _ _ hpos (by rw [hz]; decide)
    | cons b1 r1 =>
      cases r1 with
      | nil =>
        rw [escR_x1]
        exact esc_short _ _ hpos (by rw [hz]; simp)
      | cons b2 r2 =>
        have hb1 : bt (mkB (120 :: b1 :: b2 :: r2)) 1 = (b1.toNat : Int) := bt_get (i := 1) (by rw [bs_mk]; rfl)
        have hb2 : bt (mkB (120 :: b1 :: b2 :: r2)) 2 = (b2.toNat : Int) := bt_get (i := 2) (by rw [bs_mk]; rfl)
        rw [escR_x2]
        refine esc_hex K _ (by rw [hz]; simp only [List.length_cons]; omega) hb0 _ _ ?_ ?_ (hexI_le _) (hexI_le _)
        · intro k hk; rw [hb1]; exact hexOf_any b1 k hk
        · intro k hk; rw [hb2]; exact hexOf_any b2 k hk
  · rw [escR_no hv hx]
    refine esc_no _ _ hpos ?_
    rw [hb0]
    exact fun h => hx ((byte_eq (b := 120)).1 h)
theorem esc_go (k i : Nat) (e : UInt8) (r : List UInt8) (c v : UInt8) (hi : i < 9) (h1 : bt codesB (i : Int) = (c.toNat : Int)) (h2 : bt bytesB (i : Int) = (v.toNat : Int)) (h3 : escV c = some v)
    (h4 : e ≠ c → spec_escapeOf.l0 k (mkB (e :: r)) codesB bytesB 9 ((i + 1 : Nat) : Int) = some (escR (e :: r))) : spec_escapeOf.l0 (k + 1) (mkB (e :: r)) codesB bytesB 9 (i : Int) = some (escR (e :: r)) := by
  have hz : (mkB (e :: r)).size = r.length + 1 := by rw [mk_size]; rfl
  have hb0 : bt (mkB (e :: r)) 0 = (e.toNat : Int) := bt_get (c := mkB (e :: r)) (i := 0) (by rw [bs_mk]; rfl)
  rw [esc_step k i _ hi (by rw [hz]; exact Nat.succ_pos _), hb0, h1]
  by_cases h : e = c
  · rw [if_pos (by rw [h]), h2, h, escR_code h3]
  · rw [if_neg (fun x => h (byte_eq.1 x).symm), h4 h]
theorem escapeOf_any (l : List UInt8) (k : Nat) (hk : 20 ≤ k) : spec_escapeOf.f k (mkB l) = some (escR l) := by
  obtain ⟨k, rfl⟩ : ∃ m, k = m + 14 := ⟨k - 14, by omega⟩
  unfold spec_escapeOf.f
  rw [bs_list, bs_mk]
  cases l with
  | nil => rfl
  | cons e r =>
    rw [if_neg (by simp)]
    show spec_escapeOf.l0 (k + 13 + 1) (mkB (e :: r)) codesB bytesB 9 ((0 : Nat) : Int) = _
    refine esc_go _ 0 e r 97 7 (by decide) (by decide) (by decide) (by decide) fun h0 => ?_
    refine esc_go (k + 12) 1 e r 98 8 (by decide) (by decide) (by decide) (by decide) fun h1 => ?_
    refine esc_go (k + 11) 2 e r 102 12 (by decide) (by decide) (by decide) (by decide) fun h2 => ?_
    refine esc_go (k + 10) 3 e r 110 10 (by decide) (by decide) (by decide) (by decide) fun h3 => ?_
    refine esc_go (k + 9) 4 e r 114 13 (by decide) (by decide) (by decide) (by decide) fun h4 => ?_
    refine esc_go (k + 8) 5 e r 116 9 (by decide) (by decide) (by decide) (by decide) fun h5 => ?_
    refine esc_go (k + 7) 6 e r 118 11 (by decide) (by decide) (by decide) (by decide) fun h6 => ?_
    refine esc_go (k + 6) 7 e r 92 92 (by decide) (by decide) (by decide) (by decide) fun h7 => ?_
    refine esc_go (k + 5) 8 e r 34 34 (by decide) (by decide) (by decide) (by decide) fun h8 => ?_
    have hv : escV e = none := by simp only [escV, if_neg h0, if_neg h1, if_neg h2, if_neg h3, if_neg h4, if_neg h5, if_neg h6, if_neg h7, if_neg h8]
    exact esc_end k e r hv
end Go.Proofs.YtcjiafjahfmdoaaFmt.A
namespace Go.Proofs.YtcjiafjahfmdoaaFmt.A
open Go.RowKit Go.Proofs.YtcjiafjahfmdoaaFmtW.PrintWords Go.Proofs.YtcjiafjahfmdoaaFmtW.PrintLast Go.Proofs.YtcjiafjahfmdoaaFmtW.PrintMore
set_option linter.unusedVariables false
set_option linter.unusedSimpArgs false

def isQ (c : UInt8) : Bool := c == 34 || c == 96
theorem drop_cons {l : Bs} {j : Nat} {c : UInt8} {t : Bs} (h : l.drop j = c :: t) : l[j]? = some c ∧ l.drop (j + 1) = t ∧ l.length = j + 1 + t.length := by
  have hl : j < l.length := by
    have := congrArg List.length h
    rw [List.length_drop, List.length_cons] at this
    omega
  rw [List.drop_eq_getElem_cons hl] at h
  injection h with h1 h2
  refine ⟨by rw [List.getElem?_eq_getElem hl, h1], h2, ?_⟩
  have := congrArg List.length h2
  rw [List.length_drop] at this
  omega
theorem ext_drop (s : ByteArray) (j : Nat) : s.extract j s.size = mkB ((bs s).drop j) := by
  apply bs_inj
  rw [ext_all, bs_mk]
theorem ext_one {s : ByteArray} {j : Nat} {c : UInt8} {t : Bs} (h : (bs s).drop j = c :: t) : s.extract j (j + 1) = mkB [c] := by
  apply bs_inj
  rw [bs_ext, bs_mk, h, show j + 1 - j = 1 by omega]
  rfl
theorem uq_esc_len {t r : Bs} {v : UInt8} (h : uq (92 :: t) = some (v, r)) : r.length < t.length := by
  obtain ⟨_, c, a, h1, h2⟩ := uq_local h
  have e : c = 92 ∧ t = a ++ r := by
    rw [List.cons_append] at h1
    injection h1 with g1 g2
    exact ⟨g1.symm, g2⟩
  obtain ⟨rfl, rfl⟩ := e
  cases a with
  | nil =>
    have := h2 []
    simp [uq] at this
  | cons d a =>
    simp only [List.cons_append, List.length_cons, List.length_append]
    omega
theorem uq_plain {c : UInt8} {t : Bs} (h : c ≠ 92) : uq (c :: t) = some (c, t) := by
  simp only [uq, if_neg h]

/-- What the reference makes of a text in quotes. -/
def strR (S : Nat) (o : Bs) : Option (Bs × Bs) → ByteArray × Int × Bool
  | some (o', z) => (mkB (o ++ o'), ((S - z.length : Nat) : Int), true)
  | none => (⟨#[]⟩, 0, false)
theorem ints_app (o : Bs) (v : UInt8) : ints o ++ [(v.toNat : Int)] = ints (o ++ [v]) := by
  unfold ints
  rw [List.map_append]
  rfl
theorem ints_len (o : Bs) : (ints o).length = o.length := by
  unfold ints
  rw [List.length_map]
theorem strR_end {s : ByteArray} {j : Nat} {t o : Bs} (h : (bs s).length = j + 1 + t.length) : (strOfNums (ints o), ((j + 1 : Nat) : Int), true) = strR s.size o (some ([], t)) := by
  rw [strOf_ints, ← bs_len, h]
  simp only [strR, List.append_nil]
  rw [Nat.add_sub_cancel]
  rfl
theorem ar1 {S j t : Nat} (h : S = j + 1 + t) (hS : S ≤ 2147483647) : wrap64 ((j : Int) + 1) = ((j + 1 : Nat) : Int) ∧ (j : Int) < (S : Int) ∧ 0 ≤ (j : Int) ∧ 0 < (S : Int) ∧ 0 ≤ ((j + 1 : Nat) : Int) ∧ ((j + 1 : Nat) : Int) ≤ (S : Int) ∧ j + 1 ≤ S ∧ (j : Int) ≤ ((j + 1 : Nat) : Int) := by
  unfold wrap64
  omega
theorem ar2 {S j o t n : Nat} (hS : S ≤ 2147483647) (h : S = j + 1 + t) (ho : o ≤ j) : o < 140737488355328 := by omega
theorem ar3 {n k : Nat} (h : 2 * (n + 1) + 30 ≤ k) : ∃ m, k = m + 2 ∧ 2 * n + 30 ≤ m ∧ 20 ≤ m := ⟨k - 2, by omega, by omega, by omega⟩
theorem ar4 {n k : Nat} (h : 2 * (n + 1) + 30 ≤ k) : ∃ m, k = m + 1 := ⟨k - 1, by omega⟩
theorem ar5 {S j t r : Nat} (hS : S ≤ 2147483647) (h : S = j + 1 + t) (hr : r < t) : wrap64 ((j : Int) + wrap64 (1 + ((t - r : Nat) : Int))) = ((j + 1 + (t - r) : Nat) : Int) ∧ j + 1 + (t - r) ≤ S ∧ ¬ (((t - r : Nat) : Int) = 0) := by
  unfold wrap64
  omega
theorem ar6 {r t n : Nat} (h1 : r < t) (h2 : t < n) : r < n := Nat.lt_trans h1 h2
theorem ar7 {S j : Nat} (h : S ≤ j) : ¬ ((j : Int) < (S : Int)) := by omega
theorem ar8 {n k : Nat} (h : n + 1 + 10 ≤ k) : ∃ m, k = m + 1 ∧ n + 10 ≤ m ∧ 4 ≤ m := ⟨k - 1, by omega, by omega, by omega⟩
theorem ne_byte {a b : UInt8} (h : a ≠ b) : ((a.toNat : Int) ≠ (b.toNat : Int)) := fun e => h (byte_eq.1 e)

theorem eq34 : ((34 : UInt8).toNat : Int) = 34 := rfl
theorem eq96 : ((96 : UInt8).toNat : Int) = 96 := rfl
theorem eq92 : ((92 : UInt8).toNat : Int) = 92 := rfl
theorem ne34 {c : UInt8} (h : c ≠ 34) : ¬ ((c.toNat : Int) = 34) := ne_byte (b := 34) h
theorem ne96 {c : UInt8} (h : c ≠ 96) : ¬ ((c.toNat : Int) = 96) := ne_byte (b := 96) h
theorem ne92 {c : UInt8} (h : c ≠ 92) : ¬ ((c.toNat : Int) = 92) := ne_byte (b := 92) h

theorem str34 (s : ByteArray) (hs : s.size ≤ 2147483647) (hb0 : bt s 0 = 34) (h0 : 0 < s.size) : ∀ (n : Nat) (u o : Bs) (j k : Nat), (bs s).drop j = u → j ≤ s.size → u.length < n → o.length ≤ j → 2 * n + 30 ≤ k →
    spec_stringOf.l0 k s (ints o) (j : Int) = some (strR s.size o (uqs n u))
  | 0, _, _, _, _, _, _, h, _, _ => absurd h (Nat.not_lt_zero _)
  | n + 1, [], o, j, k, hu, hj, hl, ho, hk => by
    obtain ⟨k, rfl⟩ := ar4 hk
    have hj' : s.size ≤ j := by rw [← bs_len]; exact List.drop_eq_nil_iff.1 hu
    simp only [spec_stringOf.l0]
    rw [if_neg (ar7 hj')]
    rfl
  | n + 1, c :: t, o, j, k, hu, hj, hl, ho, hk => by
    obtain ⟨k, rfl, hk', hk2⟩ := ar3 hk
    obtain ⟨hc, ht, hlen⟩ := drop_cons hu
    have hbj := bt_get hc
    have hsz : s.size = j + 1 + t.length := by rw [← bs_len]; exact hlen
    obtain ⟨hw1, g1, g2, g3, g5, g6, hj1, _⟩ := ar1 hsz hs
    have g4 : (ints o).length < 140737488355328 := by rw [ints_len]; exact ar2 (n := 0) hs hsz ho
    have hl' : t.length < n := Nat.lt_of_succ_lt_succ hl
    have ho1 : ∀ v : UInt8, (o ++ [v]).length ≤ j + 1 := fun v => by rw [List.length_append]; exact Nat.succ_le_succ ho
    simp only [spec_stringOf.l0]
    rw [if_pos g1, if_pos g2, if_pos g3, hbj, hb0, hw1]
    by_cases c34 : c = 34
    · subst c34
      rw [if_pos eq34, strR_end hlen, uqs, if_pos rfl]
    · rw [if_neg (ne34 c34), uqs, if_neg c34]
      by_cases c92 : c = 92
      · subst c92
        rw [if_pos eq92]
        simp only [spec_stringOf.j1]
        rw [if_pos (by rfl), hw1, if_pos g5, if_pos g6, Int.toNat_natCast, ext_drop, ht, escapeOf_any t _ hk2]
        simp only [Option.bind_some]
        cases hq : uq (92 :: t) with
        | none =>
          simp only [escR, hq]
          rw [if_pos trivial]
          rfl
        | some vr =>
          obtain ⟨v, r⟩ := vr
          have hr := uq_esc_len hq
          obtain ⟨a, ha, hrs⟩ : ∃ a, a ≠ [] ∧ 92 :: t = a ++ r := uq_suffix hq
          simp only [escR, hq]
          obtain ⟨hw2, hj2, hn0⟩ := ar5 hs hsz hr
          rw [if_neg hn0, if_pos g4, ints_app]
          have hdr : (bs s).drop (j + 1 + (t.length - r.length)) = r := by
            rw [← List.drop_drop, ht]
            have h2 : t = a.tail ++ r := by
              cases a with
              | nil => exact absurd rfl ha
              | cons x a => injection hrs
            have h3 : t.length - r.length = a.tail.length := by
              have := congrArg List.length h2
              rw [List.length_append] at this
              rw [this, Nat.add_sub_cancel]
            rw [h3]
            conv => lhs; rw [h2]
            exact List.drop_left ..
          rw [hw2, str34 s hs hb0 h0 n r (o ++ [v]) _ k hdr hj2 (ar6 hr hl') (Nat.le_trans (ho1 v) (Nat.le_add_right _ _)) hk']
          cases hq2 : uqs n r with
          | none => rfl
          | some oz => obtain ⟨o', z⟩ := oz; simp only [strR, List.append_assoc, List.cons_append, List.nil_append]
      · rw [if_neg (ne92 c92), uq_plain c92]
        simp only [spec_stringOf.j1]
        rw [if_neg (by decide), if_pos g2, if_pos g1, if_pos g4, hbj, hw1, ints_app]
        rw [str34 s hs hb0 h0 n t (o ++ [c]) _ k ht hj1 hl' (ho1 c) hk']
        cases hq2 : uqs n t with
        | none => rfl
        | some oz => obtain ⟨o', z⟩ := oz; simp only [strR, List.append_assoc, List.cons_append, List.nil_append]

/-- A raw string: up to the next back quote. -/
def rawq : Bs → Option (Bs × Bs)
  | [] => none
  | c :: t => if c = 96 then some ([], t) else match rawq t with | some (o, z) => some (c :: o, z) | none => none
theorem str96 (s : ByteArray) (hs : s.size ≤ 2147483647) (hb0 : bt s 0 = 96) (h0 : 0 < s.size) : ∀ (n : Nat) (u o : Bs) (j k : Nat), (bs s).drop j = u → j ≤ s.size → u.length < n → o.length ≤ j → 2 * n + 30 ≤ k →
    spec_stringOf.l0 k s (ints o) (j : Int) = some (strR s.size o (rawq u))
  | 0, _, _, _, _, _, _, h, _, _ => absurd h (Nat.not_lt_zero _)
  | n + 1, [], o, j, k, hu, hj, hl, ho, hk => by
    obtain ⟨k, rfl⟩ := ar4 hk
    have hj' : s.size ≤ j := by rw [← bs_len]; exact List.drop_eq_nil_iff.1 hu
    simp only [spec_stringOf.l0]
    rw [if_neg (ar7 hj')]
    rfl
  | n + 1, c :: t, o, j, k, hu, hj, hl, ho, hk => by
    obtain ⟨k, rfl, hk', hk2⟩ := ar3 hk
    obtain ⟨hc, ht, hlen⟩ := drop_cons hu
    have hbj := bt_get hc
    have hsz : s.size = j + 1 + t.length := by rw [← bs_len]; exact hlen
    obtain ⟨hw1, g1, g2, g3, g5, g6, hj1, _⟩ := ar1 hsz hs
    have g4 : (ints o).length < 140737488355328 := by rw [ints_len]; exact ar2 (n := 0) hs hsz ho
    have hl' : t.length < n := Nat.lt_of_succ_lt_succ hl
    have ho1 : ∀ v : UInt8, (o ++ [v]).length ≤ j + 1 := fun v => by rw [List.length_append]; exact Nat.succ_le_succ ho
    simp only [spec_stringOf.l0]
    rw [if_pos g1, if_pos g2, if_pos g3, hbj, hb0, hw1]
    by_cases c96 : c = 96
    · subst c96
      rw [if_pos eq96, strR_end hlen, rawq, if_pos rfl]
    · rw [if_neg (ne96 c96), rawq, if_neg c96]
      have nx : spec_stringOf.j1 (k + 1) s (ints o) (j : Int) false = some (strR s.size o (match rawq t with | some (o, z) => some (c :: o, z) | none => none)) := by
        simp only [spec_stringOf.j1]
        rw [if_neg (by decide), if_pos g2, if_pos g1, if_pos g4, hbj, hw1, ints_app]
        rw [str96 s hs hb0 h0 n t (o ++ [c]) _ k ht hj1 hl' (ho1 c) hk']
        cases hq2 : rawq t with
        | none => rfl
        | some oz => obtain ⟨o', z⟩ := oz; simp only [strR, List.append_assoc, List.cons_append, List.nil_append]
      have e34 : ((96 : Int) == 34) = false := by decide
      rw [e34]
      split
      · exact nx
      · exact nx
theorem rawq_index : ∀ x : Bs, (if Lib.indexByte x 96 = -1 then none else some (x.take (Lib.indexByte x 96).toNat, x.drop ((Lib.indexByte x 96).toNat + 1))) = rawq x
  | [] => rfl
  | c :: t => by
    have ih := rawq_index t
    have hge := Lib.indexByte_ge t 96
    by_cases h : c = 96
    · subst h
      have e : Lib.indexByte (96 :: t) 96 = 0 := rfl
      rw [e, rawq, if_pos rfl]
      rfl
    · have e : Lib.indexByte (c :: t) 96 = if Lib.indexByte t 96 == -1 then -1 else Lib.indexByte t 96 + 1 := by
        rw [Lib.indexByte, beq_eq_false_iff_ne.2 h]
        rfl
      rw [e, rawq, if_neg h, ← ih]
      by_cases hi : Lib.indexByte t 96 = -1
      · rw [if_pos (beq_iff_eq.2 hi), if_pos rfl, if_pos hi]
      · have e3 : ¬ (Lib.indexByte t 96 + 1 = -1) := by omega
        have e4 : (Lib.indexByte t 96 + 1).toNat = (Lib.indexByte t 96).toNat + 1 := by omega
        rw [if_neg (fun x => hi (beq_iff_eq.1 x)), if_neg e3, if_neg hi, e4]
        rfl
theorem qp34 (y : Bs) : qp (34 :: y) = uqs (y.length + 1) y := rfl
theorem qp96 (y : Bs) : qp (96 :: y) = rawq y := rawq_index y
/-- The reference's strings are strconv's. -/
theorem stringOf_any (s : ByteArray) (hs : s.size ≤ 2147483647) (c : UInt8) (y : Bs) (h : bs s = c :: y) (hc : isQ c = true) (k : Nat) (hk : 2 * s.size + 40 ≤ k) : spec_stringOf.f k s = some (strR s.size [] (qp (c :: y))) := by
  have hz : s.size = y.length + 1 := by rw [← bs_len, h]; rfl
  have q1 : 0 < s.size := by omega
  have q2 : 1 ≤ s.size := q1
  have q3 : 2 * (y.length + 1) + 30 ≤ k := by omega
  have hb0 : bt s 0 = (c.toNat : Int) := bt_get (i := 0) (by rw [h]; rfl)
  have hd : (bs s).drop 1 = y := by rw [h]; rfl
  have hcc : c = 34 ∨ c = 96 := by
    unfold isQ at hc
    rw [Bool.or_eq_true, beq_iff_eq, beq_iff_eq] at hc
    exact hc
  rcases hcc with rfl | rfl
  · rw [qp34]
    exact str34 s hs hb0 q1 (y.length + 1) y [] 1 k hd q2 (Nat.lt_succ_self _) (Nat.zero_le _) q3
  · rw [qp96]
    exact str96 s hs hb0 q1 (y.length + 1) y [] 1 k hd q2 (Nat.lt_succ_self _) (Nat.zero_le _) q3

def qB : ByteArray := ⟨#[34, 96]⟩
theorem has_any (c : UInt8) (k : Nat) (hk : 4 ≤ k) : spec_has.f k qB (mkB [c]) = some (isQ c) := by
  obtain ⟨k, rfl⟩ : ∃ m, k = m + 3 := ⟨k - 3, by omega⟩
  have z1 : (qB.size : Int) = 2 := rfl
  have z2 : ((mkB [c]).size : Int) = 1 := rfl
  have w1 : wrap64 (0 + 1) = 1 := by unfold wrap64; omega
  have w2 : wrap64 (1 + 1) = 2 := by unfold wrap64; omega
  have w3 : wrap64 (2 + 1) = 3 := by unfold wrap64; omega
  have x0 : (qB.extract (0 : Int).toNat (1 : Int).toNat).toList = [34] := by rw [bs_list, bs_ext]; rfl
  have x1 : (qB.extract (1 : Int).toNat (2 : Int).toNat).toList = [96] := by rw [bs_list, bs_ext]; rfl
  have xc : (mkB [c]).toList = [c] := by rw [bs_list, bs_mk]
  unfold spec_has.f spec_find.f isQ
  simp only [spec_find.l0]
  rw [z1, z2, w1, if_pos (by decide), if_pos (by decide), if_pos (by decide), x0, xc]
  by_cases a : c = 34
  · subst a
    rfl
  · have a' : ¬ ([34] = [c]) := fun e => a (List.head_eq_of_cons_eq e).symm
    rw [if_neg a', w2, if_pos (by decide), if_pos (by decide), if_pos (by decide), x1]
    by_cases b : c = 96
    · subst b
      rfl
    · have b' : ¬ ([96] = [c]) := fun e => b (List.head_eq_of_cons_eq e).symm
      rw [if_neg b', w3, if_neg (by decide), beq_eq_false_iff_ne.2 a, beq_eq_false_iff_ne.2 b]
      rfl

/-- A word: up to the next blank. -/
def wd (u : Bs) : Bs := u.takeWhile fun b => !isS b
theorem wd_le (u : Bs) : (wd u).length ≤ u.length := takeWhile_len _ u
theorem wordEnd_l0 (s : ByteArray) (hs : s.size ≤ 2147483647) : ∀ (n : Nat) (u : Bs) (j k : Nat), (bs s).drop j = u → j ≤ s.size → u.length < n → n + 10 ≤ k →
    spec_wordEnd.l0 k s (s.size : Int) (j : Int) = some (if (wd u).any isQ = true then (0, false) else (((j + (wd u).length : Nat) : Int), true))
  | 0, _, _, _, _, _, h, _ => absurd h (Nat.not_lt_zero _)
  | n + 1, [], j, k, hu, hj, hl, hk => by
    obtain ⟨k, rfl, hk1, hk2⟩ := ar8 hk
    have hj' : s.size ≤ j := by rw [← bs_len]; exact List.drop_eq_nil_iff.1 hu
    simp only [spec_wordEnd.l0]
    rw [if_neg (ar7 hj'), Nat.le_antisymm hj hj']
    rfl
  | n + 1, c :: t, j, k, hu, hj, hl, hk => by
    obtain ⟨k, rfl, hk1, hk2⟩ := ar8 hk
    obtain ⟨hc, ht, hlen⟩ := drop_cons hu
    have hbj := bt_get hc
    have hsz : s.size = j + 1 + t.length := by rw [← bs_len]; exact hlen
    obtain ⟨hw1, g1, g2, g3, g5, g6, hj1, g7⟩ := ar1 hsz hs
    have hl' : t.length < n := Nat.lt_of_succ_lt_succ hl
    simp only [spec_wordEnd.l0]
    rw [if_pos g1, if_pos g2, if_pos g1, hbj, blank_any, hw1]
    simp only [Option.bind_some]
    unfold wd
    rw [List.takeWhile_cons]
    cases hS : isS c with
    | true =>
      rw [if_pos rfl]
      rfl
    | false =>
      rw [if_neg (by decide), if_pos g7, if_pos g6, Int.toNat_natCast, Int.toNat_natCast, ext_one hu]
      have hh := has_any c k hk2
      unfold qB at hh
      rw [hh]
      simp only [Option.bind_some, Bool.not_false, if_true, List.any_cons]
      cases hQ : isQ c with
      | true =>
        rw [if_pos rfl]
        rfl
      | false =>
        rw [if_neg (by decide), wordEnd_l0 s hs n t (j + 1) k ht hj1 hl' hk1]
        rw [Bool.false_or, List.length_cons, show j + 1 + (wd t).length = j + ((wd t).length + 1) from Nat.add_right_comm _ _ _]
        rfl
theorem wordEnd_any (s : ByteArray) (hs : s.size ≤ 2147483647) (k : Nat) (hk : s.size + 20 ≤ k) : spec_wordEnd.f k s = some (if (wd (bs s)).any isQ = true then (0, false) else (((wd (bs s)).length : Int), true)) := by
  have := wordEnd_l0 s hs (s.size + 1) (bs s) 0 k rfl (Nat.zero_le _) (by rw [bs_len]; exact Nat.lt_succ_self _) (by omega)
  rw [Nat.zero_add] at this
  exact this
end Go.Proofs.YtcjiafjahfmdoaaFmt.A
namespace Go.Proofs.YtcjiafjahfmdoaaFmt.A
open Go.RowKit Go.Proofs.YtcjiafjahfmdoaaFmtW.PrintWords Go.Proofs.YtcjiafjahfmdoaaFmtW.PrintLast Go.Proofs.YtcjiafjahfmdoaaFmtW.PrintMore
set_option linter.unusedVariables false
set_option linter.unusedSimpArgs false

/-- All its escapes are told, wherever one begins. -/
def TS : Bs → Prop
  | [] => True
  | c :: t => Told (c :: t) ∧ TS t
theorem TS_app {b : Bs} : ∀ {a : Bs}, TS (a ++ b) → TS b
  | [], h => h
  | _ :: a, h => TS_app (a := a) h.2
theorem TS_told : ∀ (n : Nat) (u : Bs), TS u → ToldAll n u
  | 0, _, _ => trivial
  | n + 1, [], _ => trivial
  | n + 1, c :: t, h => by
    refine Or.inr ⟨h.1, fun v r hr => ?_⟩
    obtain ⟨a, _, he⟩ := uq_suffix hr
    rw [he] at h
    exact TS_told n r (TS_app h)
theorem told_ne {c : UInt8} {t : Bs} (h : c ≠ 92) : Told (c :: t) := by
  unfold Told
  split
  · rename_i e
    injection e with e _
    exact absurd e h
  · trivial
theorem told_one (c : UInt8) : Told [c] := by
  unfold Told
  split
  · rename_i e
    injection e with _ e
    cases e
  · trivial
theorem told_esc {e : UInt8} {t : Bs} (h1 : ¬ ((e.toNat : Int) = 117)) (h2 : ¬ ((e.toNat : Int) = 85)) (h3 : ¬ ((e.toNat : Int) ≥ 48 ∧ (e.toNat : Int) ≤ 57)) : Told (92 :: e :: t) := by
  refine ⟨fun x => h1 (by rw [x]; rfl), fun x => h2 (by rw [x]; rfl), fun x => h3 ?_⟩
  omega
theorem ar9 {S i t : Nat} (h : S = i + 1 + t) (hS : S ≤ 2147483647) : wrap64 ((i : Int) + 1) = ((i + 1 : Nat) : Int) ∧ (i : Int) < (S : Int) ∧ 0 ≤ (i : Int) ∧ 0 ≤ ((i + 1 : Nat) : Int) ∧ i + 1 ≤ S ∧ (((i + 1 : Nat) : Int) < (S : Int) ↔ 0 < t) := by
  unfold wrap64
  omega
theorem ar10 {S i : Nat} (hS : S ≤ 2147483647) (h1 : i ≤ S) (h : S ≤ i) : ¬ (wrap64 ((i : Int) + 1) < (S : Int)) := by
  unfold wrap64
  omega
theorem open_l0 (s : ByteArray) (hs : s.size ≤ 2147483647) : ∀ (n : Nat) (u : Bs) (i k : Nat), (bs s).drop i = u → i ≤ s.size → u.length < n → n ≤ k →
    ∃ b, spec_isOpenEscape.l0 k s (i : Int) = some b ∧ (b = false → TS u)
  | 0, _, _, _, _, _, h, _ => absurd h (Nat.not_lt_zero _)
  | n + 1, [], i, k, hu, hi, hl, hk => by
    obtain ⟨k, rfl⟩ : ∃ m, k = m + 1 := ⟨k - 1, by omega⟩
    have hi' : s.size ≤ i := by rw [← bs_len]; exact List.drop_eq_nil_iff.1 hu
    simp only [spec_isOpenEscape.l0]
    rw [if_neg (ar10 hs hi hi')]
    exact ⟨_, rfl, fun _ => trivial⟩
  | n + 1, c :: t, i, k, hu, hi, hl, hk => by
    obtain ⟨k, rfl⟩ : ∃ m, k = m + 1 := ⟨k - 1, by omega⟩
    have hk' : n ≤ k := by omega
    obtain ⟨hc, ht, hlen⟩ := drop_cons hu
    have hbi := bt_get hc
    have hsz : s.size = i + 1 + t.length := by rw [← bs_len]; exact hlen
    obtain ⟨hw1, g1, g2, g3, g4, g5⟩ := ar9 hsz hs
    have hl' : t.length < n := Nat.lt_of_succ_lt_succ hl
    obtain ⟨b, hb, hT⟩ := open_l0 s hs n t (i + 1) k ht g4 hl' hk'
    simp only [spec_isOpenEscape.l0]
    rw [hw1]
    cases t with
    | nil =>
      rw [if_neg (fun x => Nat.lt_irrefl _ (g5.1 x))]
      exact ⟨_, rfl, fun _ => ⟨told_one c, trivial⟩⟩
    | cons e t' =>
      obtain ⟨he, _, _⟩ := drop_cons ht
      have hbe := bt_get he
      rw [if_pos (g5.2 (Nat.succ_pos _)), if_pos g2, if_pos g1, hbi, hbe]
      by_cases c92 : c = 92
      · subst c92
        rw [if_pos eq92, if_pos g3]
        by_cases h1 : (e.toNat : Int) = 117
        · rw [if_pos h1]
          exact ⟨_, rfl, fun x => by cases x⟩
        · rw [if_neg h1]
          by_cases h2 : (e.toNat : Int) = 85
          · rw [if_pos h2]
            exact ⟨_, rfl, fun x => by cases x⟩
          · rw [if_neg h2]
            by_cases h3 : (e.toNat : Int) ≥ 48
            · rw [if_pos h3]
              by_cases h4 : (e.toNat : Int) ≤ 57
              · rw [if_pos h4]
                exact ⟨_, rfl, fun x => by cases x⟩
              · rw [if_neg h4]
                exact ⟨b, hb, fun x => ⟨told_esc h1 h2 (fun y => h4 y.2), hT x⟩⟩
            · rw [if_neg h3]
              exact ⟨b, hb, fun x => ⟨told_esc h1 h2 (fun y => h3 y.1), hT x⟩⟩
      · rw [if_neg (ne92 c92)]
        exact ⟨b, hb, fun x => ⟨told_ne c92, hT x⟩⟩

/-- What the arguments are: none where nothing is told; an error; or the texts, whether each is a word, and where each begins. -/
abbrev Sc := Option (Option (List (Bs × Bool × Nat)))
def scons (a : Bs × Bool × Nat) : Sc → Sc
  | some (some l) => some (some (a :: l))
  | r => r
def okz : Bs → Bool
  | [] => true
  | d :: _ => isS d
def sc : Nat → Bs → Nat → Sc
  | 0, _, _ => none
  | _ + 1, [], _ => some (some [])
  | n + 1, c :: t, i =>
    if isS c = true then sc n t (i + 1)
    else if isQ c = true then (match qp (c :: t) with
      | none => some none
      | some (o, z) => if okz z = true then scons (o, false, i) (sc n z (i + (t.length + 1 - z.length))) else some none)
    else if (wd (c :: t)).any isQ = true then none
    else scons (wd (c :: t), true, i) (sc n ((c :: t).drop (wd (c :: t)).length) (i + (wd (c :: t)).length))
/-- As the reference tells them. -/
def sA (place : Int) (a : Bs × Bool × Nat) : S28 := ⟨mkB a.1, if a.2.1 = true then wrap64 (place + (a.2.2 : Int)) else -1⟩
def scR (place : Int) (acc : List S28) : Sc → List S28 × Int
  | none => ([], 2)
  | some none => ([], 1)
  | some (some l) => (acc ++ l.map (sA place), 0)
theorem scR_cons (place : Int) (acc : List S28) (a : Bs × Bool × Nat) (r : Sc) : scR place (acc ++ [sA place a]) r = scR place acc (scons a r) := by
  match r with
  | none => rfl
  | some none => rfl
  | some (some l) => simp only [scR, scons, List.map_cons, List.append_assoc, List.cons_append, List.nil_append]
theorem rawq_sfx : ∀ {y o z : Bs}, rawq y = some (o, z) → ∃ p, y = p ++ z
  | [], _, _, h => by cases h
  | c :: t, o, z, h => by
    rw [rawq] at h
    by_cases hc : c = 96
    · rw [if_pos hc] at h
      injection h with h
      injection h with _ h2
      exact ⟨[c], by rw [h2]; rfl⟩
    · rw [if_neg hc] at h
      cases hr : rawq t with
      | none => rw [hr] at h; cases h
      | some oz =>
        obtain ⟨o', z'⟩ := oz
        rw [hr] at h
        injection h with h
        injection h with _ h2
        subst h2
        obtain ⟨p, hp⟩ := rawq_sfx hr
        exact ⟨c :: p, by rw [hp]; rfl⟩
theorem isQ_or {c : UInt8} (hc : isQ c = true) : c = 34 ∨ c = 96 := by
  unfold isQ at hc
  rw [Bool.or_eq_true, beq_iff_eq, beq_iff_eq] at hc
  exact hc
theorem qp_sfx {c : UInt8} {y o z : Bs} (hc : isQ c = true) (h : qp (c :: y) = some (o, z)) : ∃ p, y = p ++ z := by
  rcases isQ_or hc with rfl | rfl
  · rw [qp34] at h
    obtain ⟨_, p, hp, _⟩ := uqs_take h
    exact ⟨p, hp⟩
  · rw [qp96] at h
    exact rawq_sfx h
theorem wd_cons {c : UInt8} {t : Bs} (h : isS c = false) : wd (c :: t) = c :: wd t := by
  unfold wd
  rw [List.takeWhile_cons, h]
  rfl
theorem nft : ¬ (false = true) := by decide
theorem ar11 {n S k : Nat} (h : 2 * (n + 1) + 2 * S + 100 ≤ k) : ∃ m, k = m + 1 ∧ 2 * n + 2 * S + 100 ≤ m ∧ 2 * S + 40 ≤ m ∧ S + 20 ≤ m ∧ 4 ≤ m ∧ ∃ l, m = l + 1 ∧ 2 * n + 2 * S + 100 ≤ l := ⟨k - 1, by omega, by omega, by omega, by omega, by omega, k - 2, by omega, by omega⟩
theorem ar12 {S i p z : Nat} (hS : S ≤ 2147483647) (h : S = i + 1 + (p + z)) : wrap64 ((i : Int) + ((p + 1 : Nat) : Int)) = ((i + (p + 1) : Nat) : Int) ∧ 0 ≤ ((i + (p + 1) : Nat) : Int) ∧ i + (p + 1) ≤ S ∧ (((i + (p + 1) : Nat) : Int) < (S : Int) ↔ 0 < z) := by
  unfold wrap64
  omega
theorem ar13 {S i t m : Nat} (hS : S ≤ 2147483647) (h : S = i + 1 + t) (hm : m ≤ t + 1) : wrap64 ((i : Int) + (m : Int)) = ((i + m : Nat) : Int) ∧ (i : Int) ≤ ((i + m : Nat) : Int) ∧ ((i + m : Nat) : Int) ≤ (S : Int) ∧ i + m ≤ S ∧ (i : Int) ≤ (S : Int) := by
  unfold wrap64
  omega
theorem ar14 {S i a : Nat} (hS : S ≤ 2147483647) (hi : i ≤ S) (ha : a ≤ i) : a < 5864062014805 := by omega
theorem ar15 {p z n : Nat} (h : p + z + 1 < n + 1) : z < n ∧ p + z + 1 - z = p + 1 := by omega
theorem ar16 {t w n : Nat} (h : t < n) : t + 1 - (w + 1) < n := by omega

set_option maxHeartbeats 1000000 in
theorem ref_l0 (s : ByteArray) (hs : s.size ≤ 2147483647) (place : Int) : ∀ (n : Nat) (u : Bs) (i k : Nat) (acc : List S28), (bs s).drop i = u → i ≤ s.size → u.length < n → acc.length ≤ i → 2 * n + 2 * s.size + 100 ≤ k →
    spec_Arguments.l0 k s place acc (i : Int) = some (scR place acc (sc n u i))
  | 0, _, _, _, _, _, _, h, _, _ => absurd h (Nat.not_lt_zero _)
  | n + 1, [], i, k, acc, hu, hi, hl, ha, hk => by
    obtain ⟨k, rfl, _⟩ := ar11 hk
    have hi' : s.size ≤ i := by rw [← bs_len]; exact List.drop_eq_nil_iff.1 hu
    simp only [spec_Arguments.l0]
    rw [if_neg (ar7 hi')]
    simp only [sc, scR, List.map_nil, List.append_nil]
  | n + 1, c :: t, i, k, acc, hu, hi, hl, ha, hk => by
    obtain ⟨k, rfl, hk2, hk3, hk4, hk5, hk6⟩ := ar11 hk
    obtain ⟨hc, ht, hlen⟩ := drop_cons hu
    have hbi := bt_get hc
    have hsz : s.size = i + 1 + t.length := by rw [← bs_len]; exact hlen
    obtain ⟨hw1, g1, g2, g3, g5, g6, hj1, g7⟩ := ar1 hsz hs
    have hl' : t.length < n := Nat.lt_of_succ_lt_succ hl
    have g8 : acc.length < 5864062014805 := ar14 hs hi ha
    have g9 : (i : Int) ≤ (s.size : Int) := Int.le_of_lt g1
    have hes : (mkB (c :: t)).size = t.length + 1 := by rw [mk_size]; rfl
    have hes2 : (mkB (c :: t)).size ≤ s.size := by rw [hes, hsz, Nat.add_right_comm, Nat.add_assoc]; exact Nat.le_add_left _ _
    have ha1 : ∀ (x : S28) (m : Nat), (acc ++ [x]).length ≤ i + (m + 1) := fun x m => by
      rw [List.length_append]
      exact Nat.add_le_add ha (Nat.succ_le_succ (Nat.zero_le m))
    simp only [spec_Arguments.l0]
    rw [if_pos g1, if_pos g2, hbi, blank_any, hw1]
    simp only [Option.bind_some]
    rw [sc]
    cases hS : isS c with
    | true =>
      rw [if_pos rfl, if_pos rfl, ref_l0 s hs place n t (i + 1) k acc ht hj1 hl' (Nat.le_succ_of_le ha) hk2]
    | false =>
      have hh := has_any c k hk5
      unfold qB at hh
      rw [if_neg nft, if_neg nft, if_pos g7, if_pos g6, Int.toNat_natCast, Int.toNat_natCast, ext_one hu, hh, ext_drop, hu]
      simp only [Option.bind_some]
      cases hQ : isQ c with
      | true =>
        rw [if_pos rfl, if_pos rfl, if_pos g9, stringOf_any (mkB (c :: t)) (Nat.le_trans hes2 hs) c t (bs_mk _) hQ k (Nat.le_trans (Nat.add_le_add_right (Nat.mul_le_mul_left 2 hes2) 40) hk3)]
        simp only [Option.bind_some]
        cases hq : qp (c :: t) with
        | none =>
          rw [show strR (mkB (c :: t)).size [] none = (⟨#[]⟩, 0, false) from rfl, if_neg nft]
          obtain ⟨l, rfl, hk1⟩ := hk6
          simp only [spec_Arguments.j2]
          rw [if_pos trivial]
          rfl
        | some oz =>
          obtain ⟨o, z⟩ := oz
          obtain ⟨p, hp⟩ := qp_sfx hQ hq
          have htl : t.length = p.length + z.length := by rw [hp, List.length_append]
          have hl2 : p.length + z.length + 1 < n + 1 := by rw [← htl]; exact hl
          obtain ⟨hz1, hz2⟩ := ar15 hl2
          have hsz2 : s.size = i + 1 + (p.length + z.length) := by rw [← htl]; exact hsz
          obtain ⟨hw2, q1, q2, q3⟩ := ar12 hs hsz2
          have hdz : (bs s).drop (i + (p.length + 1)) = z := by
            rw [← List.drop_drop, hu, List.drop_succ_cons, hp]
            exact List.drop_left ..
          simp only [strR, List.nil_append]
          have hzt : t.length + 1 - z.length = p.length + 1 := by rw [htl]; exact hz2
          rw [if_pos trivial]
          simp only [hes, hzt, hw2]
          obtain ⟨l, rfl, hk1⟩ := hk6
          have jf : spec_Arguments.j2 (l + 1) s place acc (i : Int) (mkB o) ((p.length + 1 : Nat) : Int) false = some (scR place acc (scons (o, false, i) (sc n z (i + (p.length + 1))))) := by
            simp only [spec_Arguments.j2]
            rw [if_neg nft, if_pos g8, hw2, ref_l0 s hs place n z (i + (p.length + 1)) l (acc ++ [⟨mkB o, -1⟩]) hdz q2 hz1 (ha1 _ _) hk1]
            exact congrArg some (scR_cons place acc (o, false, i) _)
          cases z with
          | nil =>
            rw [if_neg (fun x => Nat.lt_irrefl _ (q3.1 x)), jf]
            rfl
          | cons d z' =>
            obtain ⟨hd, _, _⟩ := drop_cons hdz
            rw [if_pos (q3.2 (Nat.succ_pos _)), if_pos q1, bt_get hd, blank_any]
            simp only [Option.bind_some]
            rw [show okz (d :: z') = isS d from rfl]
            cases hSd : isS d with
            | true => exact jf
            | false =>
              simp only [spec_Arguments.j2]
              rfl
      | false =>
        rw [if_neg nft, if_neg nft, if_pos g9, wordEnd_any (mkB (c :: t)) (Nat.le_trans hes2 hs) k (Nat.le_trans (Nat.add_le_add_right hes2 20) hk4), bs_mk]
        simp only [Option.bind_some]
        cases hA : (wd (c :: t)).any isQ with
        | true =>
          rw [if_pos rfl, if_pos rfl]
          rfl
        | false =>
          rw [if_neg nft, if_neg nft]
          have hwl : (wd (c :: t)).length = (wd t).length + 1 := by rw [wd_cons hS]; rfl
          obtain ⟨hw2, q1, q2, q3, q4⟩ := ar13 hs hsz (wd_le (c :: t))
          simp only
          rw [if_pos trivial, hw2, if_pos q1, if_pos q2, if_pos g8, Int.toNat_natCast]
          have hex : s.extract i (i + (wd (c :: t)).length) = mkB (wd (c :: t)) := by
            apply bs_inj
            rw [bs_ext, bs_mk, hu, Nat.add_sub_cancel_left]
            exact take_take _ _
          have hdr : (bs s).drop (i + (wd (c :: t)).length) = (c :: t).drop (wd (c :: t)).length := by
            rw [← List.drop_drop, hu]
          have hln : ((c :: t).drop (wd (c :: t)).length).length < n := by
            rw [List.length_drop, hwl]
            exact ar16 hl'
          rw [hex, ref_l0 s hs place n _ (i + (wd (c :: t)).length) k _ hdr q3 hln (by rw [hwl]; exact ha1 _ _) hk2]
          exact congrArg some (scR_cons place acc (wd (c :: t), true, i) _)

/-- What the reference answers: nothing is told, or the arguments of a plain text without open escapes. -/
theorem args_any (s : ByteArray) (hs : s.size ≤ 2147483647) (place : Int) : ∃ r, (∀ k, 4 * s.size + 200 ≤ k → spec_Arguments.f k s place = some r) ∧
    (r = ([], 2) ∨ (r = scR place [] (sc (s.size + 1) (bs s) 0) ∧ (∀ d ∈ bs s, Plain (d.toNat : Int) ∧ d ≠ 10) ∧ TS (bs s))) := by
  obtain ⟨b, hb⟩ := isPlain_any s hs
  have j2 : ∀ k, 1 ≤ k → spec_Arguments.j0 k s place [] true = some ([], 2) := by
    intro k hk
    obtain ⟨k, rfl⟩ : ∃ m, k = m + 1 := ⟨k - 1, by omega⟩
    simp only [spec_Arguments.j0]
    rw [if_pos trivial]
  cases b with
  | false =>
    refine ⟨([], 2), fun k hk => ?_, Or.inl rfl⟩
    unfold spec_Arguments.f
    simp only [Option.bind_some]
    rw [hb k (by omega)]
    simp only [Option.bind_some]
    rw [if_neg nft, j2 k (by omega)]
  | true =>
    obtain ⟨n, hn, hn0⟩ := count_any s 10 hs (s.size + 1) (Nat.lt_succ_self _)
    have hn' : ∀ k, s.size + 1 ≤ k → spec_count.f k s 10 = some (n : Int) := fun k hk => at_rounds (fun k => spec_count.mono _ _ k) hk hn
    by_cases h0 : (n : Int) > 0
    · refine ⟨([], 2), fun k hk => ?_, Or.inl rfl⟩
      unfold spec_Arguments.f
      simp only [Option.bind_some]
      rw [hb k (by omega)]
      simp only [Option.bind_some]
      rw [if_pos trivial, hn' k (by omega)]
      simp only [Option.bind_some]
      rw [if_pos h0, j2 k (by omega)]
    · obtain ⟨e, he, hT⟩ := open_l0 s hs (s.size + 1) (bs s) 0 (s.size + 1) rfl (Nat.zero_le _) (by rw [bs_len]; exact Nat.lt_succ_self _) (Nat.le_refl _)
      have he' : ∀ k, s.size + 1 ≤ k → spec_isOpenEscape.f k s = some e := fun k hk => at_rounds (fun k => spec_isOpenEscape.mono _ k) hk he
      cases e with
      | true =>
        refine ⟨([], 2), fun k hk => ?_, Or.inl rfl⟩
        unfold spec_Arguments.f
        simp only [Option.bind_some]
        rw [hb k (by omega)]
        simp only [Option.bind_some]
        rw [if_pos trivial, hn' k (by omega)]
        simp only [Option.bind_some]
        rw [if_neg h0, he' k (by omega)]
        simp only [Option.bind_some]
        rw [j2 k (by omega)]
      | false =>
        refine ⟨_, fun k hk => ?_, Or.inr ⟨rfl, fun d hd => ⟨plain_all s hs (s.size + 1) (hb _ (Nat.lt_succ_self _)) d hd, fun e10 => ?_⟩, hT rfl⟩⟩
        · unfold spec_Arguments.f
          simp only [Option.bind_some]
          rw [hb k (by omega)]
          simp only [Option.bind_some]
          rw [if_pos trivial, hn' k (by omega)]
          simp only [Option.bind_some]
          rw [if_neg h0, he' k (by omega)]
          simp only [Option.bind_some]
          obtain ⟨k, rfl⟩ : ∃ m, k = m + 1 := ⟨k - 1, by omega⟩
          simp only [spec_Arguments.j0]
          rw [if_neg (by decide)]
          exact ref_l0 s hs place (s.size + 1) (bs s) 0 k [] rfl (Nat.zero_le _) (by rw [bs_len]; exact Nat.lt_succ_self _) (Nat.le_refl _) (by omega)
        · exact hn0 (by omega) (e10 ▸ hd)
end Go.Proofs.YtcjiafjahfmdoaaFmt.A
