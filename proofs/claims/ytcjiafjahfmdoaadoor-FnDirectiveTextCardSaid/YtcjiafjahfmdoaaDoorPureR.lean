/- The law of FnDirective: one line of at most 1000 bytes; both sides tell the same parts. -/
import Derived.Test.YtcjiafjahfmdoaaDoorPureQ
namespace Go.Proofs.YtcjiafjahfmdoaaDoor.A
open Go.RowKit Go.Proofs.YtcjiafjahfmdoaaDoorW.PrintWords Go.Proofs.YtcjiafjahfmdoaaDoorW.PrintLast Go.Proofs.YtcjiafjahfmdoaaDoorW.PrintMore
set_option linter.unusedVariables false
set_option linter.unusedSimpArgs false

theorem count_l0 (s : ByteArray) (hs : s.size ≤ 1000) (d : Nat) : ∀ (k i c : Nat), s.size ≤ i + d → i ≤ s.size → d < k → c ≤ i →
    ∃ n : Nat, spec_count.l0 k s 10 (c : Int) (s.size : Int) (i : Int) = some (n : Int) ∧ c ≤ n ∧ (n = c → ∀ u, i ≤ u → u < s.size → bt s (u : Int) ≠ 10) := by
  induction d with
  | zero =>
    intro k i c h0 h1 hk hc
    obtain ⟨k, rfl⟩ : ∃ m, k = m + 1 := ⟨k - 1, by omega⟩
    simp only [spec_count.l0]
    rw [if_neg (by omega)]
    exact ⟨c, rfl, Nat.le_refl _, fun _ u h2 h3 => absurd h3 (by omega)⟩
  | succ d ih =>
    intro k i c h0 h1 hk hc
    obtain ⟨k, rfl⟩ : ∃ m, k = m + 1 := ⟨k - 1, by omega⟩
    have hw1 : wrap64 ((i : Int) + 1) = ((i + 1 : Nat) : Int) := by unfold wrap64; omega
    have hw2 : wrap64 ((c : Int) + 1) = ((c + 1 : Nat) : Int) := by unfold wrap64; omega
    simp only [spec_count.l0]
    by_cases hi : (i : Int) < (s.size : Int)
    · rw [if_pos hi, if_pos (by omega), if_pos hi, hw1, hw2]
      by_cases hb : bt s (i : Int) = 10
      · rw [if_pos hb]
        obtain ⟨n, h2, h3, h4⟩ := ih k (i + 1) (c + 1) (by omega) (by omega) (by omega) (by omega)
        exact ⟨n, h2, by omega, fun e => absurd e (by omega)⟩
      · rw [if_neg hb]
        obtain ⟨n, h2, h3, h4⟩ := ih k (i + 1) c (by omega) (by omega) (by omega) (by omega)
        refine ⟨n, h2, h3, fun e u h5 h6 => ?_⟩
        by_cases hu : u = i
        · rw [hu]; exact hb
        · exact h4 e u (by omega) h6
    · rw [if_neg hi]
      exact ⟨c, rfl, Nat.le_refl _, fun _ u h2 h3 => absurd h3 (by omega)⟩

theorem line_any (s : ByteArray) (hs : s.size ≤ 1000) (k : Nat) (hk : 2000 < k) : ∃ b, spec_IsLine.f k s = some b ∧ (b = true → ∀ d ∈ bs s, Plain (d.toNat : Int) ∧ d ≠ 10) := by
  obtain ⟨b, hb⟩ := isPlain_any s (by omega)
  have hb1 := hb k (by omega)
  unfold spec_IsLine.f
  rw [hb1]
  simp only [Option.bind_some]
  cases b with
  | false => exact ⟨false, by rw [if_neg (by decide)], fun h => by cases h⟩
  | true =>
    obtain ⟨n, hn, _, hno⟩ := count_l0 s hs s.size k 0 0 (by omega) (Nat.zero_le _) (by omega) (Nat.le_refl _)
    have hn' : spec_count.f k s 10 = some (n : Int) := hn
    rw [if_pos rfl, hn']
    simp only [Option.bind_some]
    refine ⟨_, rfl, fun h d hd => ?_⟩
    have h0 : n = 0 := by have := beq_iff_eq.1 h; omega
    have hpl := plain_l0 s (by omega) k 0 (Nat.zero_le _) hb1
    obtain ⟨u, hu, rfl⟩ := List.getElem_of_mem hd
    have hu' : u < s.size := by rw [← bs_len]; exact hu
    have e := bt_bs hu'
    refine ⟨by rw [← e]; exact hpl u (Nat.zero_le _) hu', fun e10 => ?_⟩
    rw [e10] at e
    exact hno h0 u (Nat.zero_le _) hu' e

theorem same_dir (k : Nat) (D : Dir) : laws_FnDirective.j1 (k + 1) D.2.2.2.2.2 D.2.2.2.2.2 (!D.2.2.2.2.2) D.1 D.2.1 D.2.2.1 D.2.2.2.1 D.2.2.2.2.1 D.1 D.2.1 D.2.2.1 D.2.2.2.1 D.2.2.2.2.1 = some true := by
  obtain ⟨x, y, z, p, q, b⟩ := D
  simp only [laws_FnDirective.j1]
  cases b <;> simp

theorem fnDirective_law (a0 : ByteArray) (a1 : Int) : ∃ k, laws_FnDirective.f k a0 a1 = some true := by
  refine ⟨20002, ?_⟩
  have jt : ∀ k, laws_FnDirective.j0 (k + 1) a0 a1 true = some true := fun k => by simp only [laws_FnDirective.j0]; rw [if_pos trivial]
  unfold laws_FnDirective.f
  by_cases c1 : (a0.size : Int) > 2147483647
  · rw [if_pos c1]
  rw [if_neg c1]
  by_cases c2 : (a0.size : Int) > 1000
  · rw [if_pos c2]; exact jt _
  rw [if_neg c2]
  have hs : a0.size ≤ 1000 := by omega
  obtain ⟨b, hb, hline⟩ := line_any a0 hs 20002 (by decide)
  rw [hb]
  simp only [Option.bind_some]
  cases b with
  | false => rw [if_neg (by decide)]; exact jt _
  | true =>
    rw [if_pos rfl]
    have hp := hline rfl
    by_cases c3 : a1 < 0
    · rw [if_pos c3]; exact jt _
    rw [if_neg c3]
    by_cases c4 : a1 > 1000000
    · rw [decide_eq_true c4]; exact jt _
    rw [decide_eq_false c4]
    have both : ∃ D, spec_Directive.f 20001 a1 a0 = some D ∧ impl_ParseDirective.f a1 a0 = some D := by
      by_cases hx : ∃ r, bs a0 = 47 :: 47 :: r ∧ ∃ t, Colon (a0.extract 2 a0.size) t
      · obtain ⟨r, hr, t, ht⟩ := hx
        exact ⟨_, spec_yes a1 a0 hs (by omega) (by omega) ⟨r, hr⟩ t ht 20001 (by decide), impl_yes a1 a0 hs hp (by omega) (by omega) ⟨r, hr⟩ t ht⟩
      · have hno : ∀ r, bs a0 = 47 :: 47 :: r → ∀ t, ¬ Colon (a0.extract 2 a0.size) t := fun r hr t ht => hx ⟨r, hr, t, ht⟩
        exact ⟨_, spec_no a1 a0 hs hno 20001 (by decide), impl_no a1 a0 hs hno⟩
    obtain ⟨D, h1, h2⟩ := both
    have e : laws_FnDirective.j0 20002 a0 a1 false = ((spec_Directive.f 20001 a1 a0).bind fun bt149 => ((impl_ParseDirective.f a1 a0).bind fun bt156 => (if bt149.2.2.2.2.2 = true then (laws_FnDirective.j1 20001 bt149.2.2.2.2.2 bt156.2.2.2.2.2 (!bt156.2.2.2.2.2) bt149.1 bt149.2.1 bt149.2.2.1 bt149.2.2.2.1 bt149.2.2.2.2.1 bt156.1 bt156.2.1 bt156.2.2.1 bt156.2.2.2.1 bt156.2.2.2.2.1) else (laws_FnDirective.j1 20001 bt149.2.2.2.2.2 bt156.2.2.2.2.2 true bt149.1 bt149.2.1 bt149.2.2.1 bt149.2.2.2.1 bt149.2.2.2.2.1 bt156.1 bt156.2.1 bt156.2.2.1 bt156.2.2.2.1 bt156.2.2.2.2.1)))) := by
      show laws_FnDirective.j0 (20001 + 1) a0 a1 false = _
      rw [laws_FnDirective.j0]
      rw [if_neg (by decide)]
    rw [e, h1, h2]
    simp only [Option.bind_some]
    have := same_dir 20000 D
    cases hD : D.2.2.2.2.2 with
    | true => rw [hD] at this; rw [if_pos rfl]; exact this
    | false => rw [hD] at this; rw [if_neg (by decide)]; exact this
end Go.Proofs.YtcjiafjahfmdoaaDoor.A
