/- The law of the arguments: what its walk computes is true. -/
import Derived.Test.YtcjiafjahfmdoaaFmtPureE
import Derived.Test.YtcjiafjahfmdoaaFmtA21
namespace Go.Proofs.YtcjiafjahfmdoaaFmt.A
open Go.RowKit Go.Proofs.YtcjiafjahfmdoaaFmtW.PrintWords Go.Proofs.YtcjiafjahfmdoaaFmtW.PrintLast Go.Proofs.YtcjiafjahfmdoaaFmtW.PrintMore
set_option linter.unusedVariables false
set_option linter.unusedSimpArgs false

theorem scons_some {a : Bs × Bool × Nat} {r : Sc} {l : List (Bs × Bool × Nat)} (h : scons a r = some (some l)) : ∃ l', r = some (some l') ∧ l = a :: l' := by
  match r with
  | none => cases h
  | some none => cases h
  | some (some l') =>
    have h2 : some (some (a :: l')) = some (some l) := h
    injection h2 with h2
    injection h2 with h2
    exact ⟨l', rfl, h2.symm⟩
theorem ar30 {n t z L i : Nat} (h : t < n) (hz : z ≤ t) (h2 : L ≤ z) : L + 1 ≤ t + 1 ∧ z < n ∧ i + (t + 1 - z) + z = i + (t + 1) := by omega
/-- There are no more arguments than bytes, and each begins within the text. -/
theorem sc_bound : ∀ (n : Nat) (u : Bs) (i : Nat) (l : List (Bs × Bool × Nat)), u.length < n → sc n u i = some (some l) → l.length ≤ u.length ∧ ∀ a ∈ l, a.2.2 ≤ i + u.length
  | 0, _, _, _, h, _ => absurd h (Nat.not_lt_zero _)
  | n + 1, [], i, l, hl, h => by
    rw [sc] at h
    injection h with h
    injection h with h
    subst h
    exact ⟨Nat.le_refl _, fun a ha => by cases ha⟩
  | n + 1, c :: t, i, l, hl, h => by
    have hl' : t.length < n := Nat.lt_of_succ_lt_succ hl
    rw [sc] at h
    cases hS : isS c with
    | true =>
      rw [hS, if_pos rfl] at h
      obtain ⟨h1, h2⟩ := sc_bound n t (i + 1) l hl' h
      refine ⟨Nat.le_succ_of_le h1, fun a ha => ?_⟩
      have := h2 a ha
      rw [List.length_cons, ← Nat.add_assoc, Nat.add_right_comm]
      exact this
    | false =>
      rw [hS, if_neg nft] at h
      cases hQ : isQ c with
      | true =>
        rw [hQ, if_pos rfl] at h
        cases hq : qp (c :: t) with
        | none => rw [hq] at h; cases h
        | some oz =>
          obtain ⟨o, z⟩ := oz
          rw [hq] at h
          simp only at h
          cases hz : okz z with
          | false => rw [hz, if_neg nft] at h; cases h
          | true =>
            rw [hz, if_pos rfl] at h
            obtain ⟨l', hr, rfl⟩ := scons_some h
            obtain ⟨p, hp⟩ := qp_sfx hQ hq
            have hzt : z.length ≤ t.length := by rw [hp, List.length_append]; exact Nat.le_add_left _ _
            have hzn : z.length < n := Nat.lt_of_le_of_lt hzt hl'
            obtain ⟨h1, h2⟩ := sc_bound n z _ l' hzn hr
            obtain ⟨g1, _, g3⟩ := ar30 (i := i) hl' hzt h1
            refine ⟨g1, fun a ha => ?_⟩
            cases ha with
            | head => exact Nat.le_add_right _ _
            | tail _ ha => have := h2 a ha; rw [g3] at this; exact this
      | false =>
        rw [hQ, if_neg nft] at h
        by_cases hA : (wd (c :: t)).any isQ = true
        · rw [if_pos hA] at h; cases h
        · rw [if_neg hA] at h
          obtain ⟨l', hr, rfl⟩ := scons_some h
          have hwl : (wd (c :: t)).length = (wd t).length + 1 := by rw [wd_cons hS]; rfl
          have hwt : (wd t).length ≤ t.length := wd_le t
          have hln : ((c :: t).drop (wd (c :: t)).length).length = t.length - (wd t).length := by rw [List.length_drop, hwl, List.length_cons, Nat.add_sub_add_right]
          obtain ⟨h1, h2⟩ := sc_bound n _ _ l' (by rw [hln]; exact Nat.lt_of_le_of_lt (Nat.sub_le _ _) hl') hr
          rw [hln] at h1 h2
          refine ⟨Nat.succ_le_succ (Nat.le_trans h1 (Nat.sub_le _ _)), fun a ha => ?_⟩
          cases ha with
          | head => exact Nat.le_add_right _ _
          | tail _ ha =>
            have := h2 a ha
            rw [hwl] at this
            rw [List.length_cons]
            omega

def to28 (x : S53) : S28 := ⟨x.f0, x.f1⟩
theorem rd53_at {l : List S53} {i : Nat} {x : S53} (h : l[i]? = some x) : rd_T53 l (i : Int) = x := by
  unfold rd_T53
  rw [Int.toNat_natCast, List.getD_eq_getElem?_getD, h]
  rfl
theorem rd28_at {l : List S28} {i : Nat} {x : S28} (h : l[i]? = some x) : rd_T28 l (i : Int) = x := by
  unfold rd_T28
  rw [Int.toNat_natCast, List.getD_eq_getElem?_getD, h]
  rfl
theorem ar31 {L i d : Nat} (h : L = i + (d + 1)) (hL : L ≤ 1000000000) : wrap64 ((i : Int) + 1) = ((i + 1 : Nat) : Int) ∧ (i : Int) < (L : Int) ∧ 0 ≤ (i : Int) ∧ L = i + 1 + d ∧ i < L := by
  unfold wrap64
  omega
theorem ar32 {L i : Nat} (h : L = i + 0) : ¬ ((i : Int) < (L : Int)) ∧ i = L := by omega
theorem ar33 {L i a : Nat} (h : a ≤ i) (hi : i < L) (hL : L ≤ 1000000000) : a < 5864062014805 := by omega
theorem ar34 {d k : Nat} (h : d < k) : ∃ m, k = m + 1 ∧ ∀ e, d = e + 1 → e < m := ⟨k - 1, by omega, by omega⟩
theorem impl_l0 (l : List S53) (b : Bool) (hL : l.length ≤ 1000000000) : ∀ (d i k : Nat) (acc : List S28), l.length = i + d → acc.length ≤ i → d < k → impl_ParseArgs.l0 k acc b l (l.length : Int) (i : Int) = some (acc ++ (l.drop i).map to28, !b)
  | 0, i, k, acc, hd, ha, hk => by
    obtain ⟨k, rfl, _⟩ := ar34 hk
    obtain ⟨h1, h2⟩ := ar32 hd
    rw [impl_ParseArgs.l0, if_neg h1, h2, List.drop_length, List.map_nil, List.append_nil]
  | d + 1, i, k, acc, hd, ha, hk => by
    obtain ⟨k, rfl, hk2⟩ := ar34 hk
    obtain ⟨hw, g1, g2, g3, g4⟩ := ar31 hd hL
    have hx : l[i]? = some l[i] := List.getElem?_eq_getElem g4
    rw [impl_ParseArgs.l0, if_pos g1, if_pos g2, if_pos g1, if_pos (ar33 ha g4 hL), hw, rd53_at hx]
    rw [impl_l0 l b hL d (i + 1) k _ g3 (by rw [List.length_append]; exact Nat.succ_le_succ ha) (hk2 d rfl)]
    rw [List.drop_eq_getElem_cons g4, List.map_cons, List.append_assoc]
    rfl
/-- What impl.ParseArgs answers. -/
def pB (place : Int) (a : Bs × Bool × Nat) : S28 := ⟨mkB a.1, place + (a.2.2 : Int)⟩
def scB (place : Int) : Sc → List S28 × Bool
  | some (some l) => (l.map (pB place), true)
  | _ => ([], false)
theorem impl_any (u : Bs) (place : Int) (h0 : 0 ≤ place) (hp : place ≤ 1000000) (hN : u.length ≤ 1000000000) (hP : PL u) (hT : TS u ∨ ∃ l, sc (u.length + 1) u 0 = some (some l)) (hne : sc (u.length + 1) u 0 ≠ none) (k : Nat) (hk : 2 * u.length + 20 ≤ k) :
    impl_ParseArgs.f k (mkB u) place = some (scB place (sc (u.length + 1) u 0)) := by
  obtain ⟨X, Y, h⟩ := prog_l0 place h0 hp u.length hN (u.length + 1) u 0 k [] hP hT (Nat.lt_succ_self _) (by rw [Nat.zero_add]; exact Nat.le_refl _) (Nat.le_refl _) (by omega) hne
  rw [show ((0 : Nat) : Int) = 0 from rfl, Int.add_zero] at h
  unfold impl_ParseArgs.f dirArgs.f goprinter_go_ast_Directive_ParseArgs.f
  rw [skipSpace_any hP hN h0 (by omega)]
  simp only [Option.bind_some]
  rw [h]
  simp only [Option.bind_some]
  cases hs : sc (u.length + 1) u 0 with
  | none => exact absurd hs hne
  | some r =>
    cases r with
    | none =>
      exact impl_l0 [] true (Nat.zero_le _) 0 0 k [] rfl (Nat.le_refl _) (by omega)
    | some l =>
      have hb := (sc_bound _ _ _ l (Nat.lt_succ_self _) hs).1
      have hml : (l.map (pA place)).length = l.length := List.length_map _
      have := impl_l0 (l.map (pA place)) false (by omega) l.length 0 k [] (by rw [hml, Nat.zero_add]) (Nat.le_refl _) (by omega)
      simp only [scP, scB, List.nil_append]
      refine this.trans ?_
      rw [List.drop_zero, List.nil_append, List.map_map]
      rfl

theorem map_at {α β : Type} {f : α → β} {l : List α} {i : Nat} (h : i < l.length) : (l.map f)[i]? = some (f l[i]) := by
  rw [List.getElem?_map, List.getElem?_eq_getElem h]
  rfl
theorem ar35 {place : Int} {o : Nat} (h0 : 0 ≤ place) (hp : place ≤ 1000000) (ho : o ≤ 1000) : wrap64 (place + (o : Int)) = place + (o : Int) := by
  unfold wrap64
  omega
theorem args_l0 (place : Int) (h0 : 0 ≤ place) (hp : place ≤ 1000000) (l : List (Bs × Bool × Nat)) (hL : l.length ≤ 1000000000) (hoff : ∀ a ∈ l, a.2.2 ≤ 1000) : ∀ (d i k : Nat), l.length = i + d → d < k →
    laws_FnArgs.l0 k (l.map (sA place)) (l.map (pB place)) (l.length : Int) (i : Int) = some true
  | 0, i, k, hd, hk => by
    obtain ⟨k, rfl, _⟩ := ar34 hk
    obtain ⟨h1, h2⟩ := ar32 hd
    rw [laws_FnArgs.l0, if_neg h1]
  | d + 1, i, k, hd, hk => by
    obtain ⟨k, rfl, hk2⟩ := ar34 hk
    obtain ⟨hw, g1, g2, g3, g4⟩ := ar31 hd hL
    have ih := args_l0 place h0 hp l hL hoff d (i + 1) k g3 (hk2 d rfl)
    have e1 : ((l.map (pB place)).length : Int) = (l.length : Int) := by rw [List.length_map]
    have e2 : ((l.map (sA place)).length : Int) = (l.length : Int) := by rw [List.length_map]
    have ho := hoff l[i] (List.getElem_mem g4)
    rw [laws_FnArgs.l0, e1, e2, if_pos g1, if_pos g2, if_pos g1, if_pos g1, hw, rd28_at (map_at g4), rd28_at (map_at g4), ih]
    obtain ⟨a, ha⟩ : ∃ a, a = l[i] := ⟨_, rfl⟩
    rw [← ha] at ho ⊢
    clear ha ih
    obtain ⟨x, b, o⟩ := a
    rw [if_pos (by rfl)]
    cases b with
    | false =>
      rw [if_neg (by show ¬ ((-1 : Int) ≥ 0); decide)]
    | true =>
      have e : (sA place (x, true, o)).f1 = (pB place (x, true, o)).f1 := ar35 h0 hp ho
      rw [e, if_pos rfl]
      exact ite_self _

theorem fnArgs_law (s : ByteArray) (p : Int) : ∃ k, laws_FnArgs.f k s p = some true := by
  by_cases hs : (s.size : Int) > 2147483647
  · exact ⟨0, if_pos hs⟩
  · have hs' : s.size ≤ 2147483647 := by omega
    obtain ⟨r, hr, hor⟩ := args_any s hs' p
    refine ⟨4 * s.size + 300, ?_⟩
    unfold laws_FnArgs.f
    rw [if_neg hs, hr _ (by omega)]
    simp only [Option.bind_some]
    have jt : ∀ (k : Nat) x5 x6, laws_FnArgs.j0 (k + 1) s p x5 x6 true = some true := by
      intro k x5 x6
      simp only [laws_FnArgs.j0]
      rw [if_pos trivial]
    by_cases h1 : (s.size : Int) > 1000
    · rw [if_pos h1, jt]
    · rw [if_neg h1]
      by_cases h2 : r.2 = 2
      · rw [if_pos h2, jt]
      · rw [if_neg h2]
        by_cases h3 : p < 0
        · rw [if_pos h3, jt]
        · rw [if_neg h3]
          by_cases h4 : p > 1000000
          · rw [decide_eq_true h4, jt]
          · rw [decide_eq_false h4]
            obtain hor | ⟨hor, hP, hT⟩ := hor
            · exact absurd (by rw [hor]) h2
            · have hne : sc (s.size + 1) (bs s) 0 ≠ none := fun e => h2 (by rw [hor, e]; rfl)
              have hlen : (bs s).length = s.size := bs_len s
              have him := impl_any (bs s) p (by omega) (by omega) (by omega) hP (Or.inl hT) (by rw [hlen]; exact hne) (4 * s.size + 299) (by omega)
              rw [mk_bs, hlen] at him
              have e1 : 4 * s.size + 300 = (4 * s.size + 299) + 1 := rfl
              have e2 : 4 * s.size + 299 = (4 * s.size + 298) + 1 := rfl
              rw [e1, laws_FnArgs.j0, if_neg nft, him]
              simp only [Option.bind_some]
              rw [hor]
              cases hsc : sc (s.size + 1) (bs s) 0 with
              | none => exact absurd hsc hne
              | some q =>
                cases q with
                | none =>
                  rw [e2]
                  rw [show scB p (some none) = ([], false) from rfl, show scR p [] (some none) = ([], 1) from rfl]
                  rw [if_neg (show ¬ ((false != ((1 : Int) == 0)) = true) by decide), laws_FnArgs.j1, if_pos (by rfl), if_neg nft]
                  rfl
                | some l =>
                  obtain ⟨hb, ho⟩ := sc_bound _ _ _ l (by rw [hlen]; exact Nat.lt_succ_self _) hsc
                  rw [hlen] at hb ho
                  have hm : ((l.map (pB p)).length : Int) = ((l.map (sA p)).length : Int) := by rw [List.length_map, List.length_map]
                  have hq := args_l0 p (by omega) (by omega) l (by omega) (fun a ha => by have := ho a ha; omega) l.length 0 (4 * s.size + 298) (by omega) (by omega)
                  rw [e2]
                  rw [show scB p (some (some l)) = (l.map (pB p), true) from rfl, show scR p [] (some (some l)) = (l.map (sA p), 0) from rfl]
                  rw [if_neg (show ¬ ((true != ((0 : Int) == 0)) = true) by decide), laws_FnArgs.j1, if_neg (show ¬ ((!true) = true) by decide), if_pos hm, List.length_map]
                  exact hq
end Go.Proofs.YtcjiafjahfmdoaaFmt.A
