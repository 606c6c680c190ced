/- The law of FnInspectSkips: what without9 leaves of all visits are the visits of Inspect that skips. -/
import Derived.Test.YtdcaabjkklppjaaGreatFmtPureK
import Derived.Test.YtdcaabjkklppjaaGreatFmtA10
namespace Go.Proofs.YtdcaabjkklppjaaGreatFmt.A
open Go.RowKit Go.Proofs.YtdcaabjkklppjaaGreatFmtW.PrintWords Go.Proofs.YtdcaabjkklppjaaGreatFmtW.PrintLast Go.Proofs.YtdcaabjkklppjaaGreatFmtW.PrintMore
set_option linter.unusedVariables false
set_option linter.unusedSimpArgs false

def stepW (skip : ByteArray) (s : List S29 × Int) (v : S29) : List S29 × Int :=
  if 0 ≤ s.2 then (if v.f0.toList = ([] : List UInt8) ∧ v.f2 = s.2 then (s.1, -1) else s) else (s.1 ++ [v], if v.f0.toList = skip.toList then v.f2 else s.2)
theorem stepW_end {skip : ByteArray} {o : List S29} {v : S29} {u : Int} (hu : 0 ≤ u) (h : v.f0.toList = ([] : List UInt8)) (h2 : v.f2 = u) : stepW skip (o, u) v = (o, -1) := by
  unfold stepW
  rw [if_pos hu, if_pos ⟨h, h2⟩]
theorem stepW_stay {skip : ByteArray} {o : List S29} {v : S29} {u : Int} (hu : 0 ≤ u) (h : ¬ (v.f0.toList = ([] : List UInt8) ∧ v.f2 = u)) : stepW skip (o, u) v = (o, u) := by
  unfold stepW
  rw [if_pos hu, if_neg h]
theorem stepW_add {skip : ByteArray} {o : List S29} {v : S29} {u : Int} (hu : ¬ 0 ≤ u) : stepW skip (o, u) v = (o ++ [v], if v.f0.toList = skip.toList then v.f2 else u) := by
  unfold stepW
  rw [if_neg hu]
theorem drop_rd (L : List S29) (i : Nat) (hi : i < L.length) : L.drop i = rd_T29 L (i : Int) :: L.drop (i + 1) := by
  rw [List.drop_eq_getElem_cons hi]
  unfold rd_T29
  rw [Int.toNat_natCast, List.getD_eq_getElem?_getD, List.getElem?_eq_getElem hi]
  rfl
theorem wl0 (skip : ByteArray) (L : List S29) (hL : L.length ≤ 1000000) (e : Nat) : ∀ (i k : Nat) (o : List S29) (u : Int), L.length - i = e → i ≤ L.length → 2 * e + 2 ≤ k → o.length + e ≤ 1000000 → laws_without9.l0 k skip o u L (L.length : Int) (i : Int) = some ((L.drop i).foldl (stepW skip) (o, u)).1 := by
  induction e with
  | zero =>
    intro i k o u he hi hk ho
    obtain ⟨k, rfl⟩ : ∃ m, k = m + 1 := ⟨k - 1, by omega⟩
    rw [laws_without9.l0, if_neg (by omega), List.drop_of_length_le (by omega)]
    rfl
  | succ e ih =>
    intro i k o u he hi hk ho
    obtain ⟨k, rfl⟩ : ∃ m, k = m + 2 := ⟨k - 2, by omega⟩
    have hw1 : wrap64 ((i : Int) + 1) = ((i + 1 : Nat) : Int) := by unfold wrap64; omega
    have hj : ∀ x26, laws_without9.j1 (k + 1) skip o u L (L.length : Int) (i : Int) x26 = some ((L.drop (i + 1)).foldl (stepW skip) (o, if x26 = true then -1 else u)).1 := by
      intro x26
      rw [laws_without9.j1, hw1]
      split
      · exact ih (i + 1) k o (-1) (by omega) (by omega) (by omega) (by omega)
      · exact ih (i + 1) k o u (by omega) (by omega) (by omega) (by omega)
    have hn : ∀ o' u', o'.length ≤ o.length + 1 → laws_without9.l0 (k + 1) skip o' u' L (L.length : Int) ((i + 1 : Nat) : Int) = some ((L.drop (i + 1)).foldl (stepW skip) (o', u')).1 := fun o' u' h => ih (i + 1) (k + 1) o' u' (by omega) (by omega) (by omega) (by omega)
    rw [laws_without9.l0, if_pos (by omega), if_pos (by omega), if_pos (by omega), drop_rd L i (by omega), List.foldl_cons]
    generalize rd_T29 L (i : Int) = v
    by_cases hu : u ≥ 0
    · rw [if_pos hu]
      by_cases hk0 : v.f0.toList = ([] : List UInt8)
      · rw [if_pos hk0, hj]
        by_cases h2 : v.f2 = u
        · rw [stepW_end hu hk0 h2, if_pos (beq_iff_eq.2 h2)]
        · rw [stepW_stay hu (fun h => h2 h.2), if_neg (fun h => h2 (beq_iff_eq.1 h))]
      · rw [if_neg hk0, hj, if_neg (by decide), stepW_stay hu (fun h => hk0 h.1)]
    · rw [if_neg hu, if_pos (by omega), stepW_add (show ¬ 0 ≤ u from hu)]
      simp only [Option.bind_some]
      rw [hw1]
      by_cases hs : v.f0.toList = skip.toList
      · rw [if_pos hs, if_pos hs]
        exact hn _ _ (by simp)
      · rw [if_neg hs, if_neg hs]
        exact hn _ _ (by simp)
theorem mem_catTo {α : Type} {f : Nat → List α} {v : α} : ∀ {m : Nat}, v ∈ catTo f m → ∃ i, i < m ∧ v ∈ f i
  | 0, h => by simp [catTo] at h
  | m + 1, h => by
    rw [catTo, List.mem_append] at h
    rcases h with h | h
    · obtain ⟨i, hi, hv⟩ := mem_catTo h
      exact ⟨i, by omega, hv⟩
    · exact ⟨m, by omega, h⟩
theorem leaf_ge {skip t : ByteArray} {d : Int} {v : S29} (h : v ∈ leafL skip d t) : v.f2 = d := by
  unfold leafL at h
  rcases List.mem_cons.1 h with h | h
  · rw [h]
  · split at h
    · simp at h
    · rw [List.mem_singleton.1 h]
theorem insp_ge : ∀ (skip : ByteArray) (D : Nat) (n : S24) (d : Int) (v : S29), v ∈ inspL skip D d n → d ≤ v.f2
  | _, 0, _, _, _, h => by simp [inspL] at h
  | skip, D + 1, n, d, v, h => by
    rw [inspL] at h
    rcases List.mem_cons.1 h with h | h
    · rw [h]; exact Int.le_refl _
    · split at h
      · simp at h
      · rw [List.mem_append, List.mem_append] at h
        rcases h with (h | h) | h
        · obtain ⟨i, _, hv⟩ := mem_catTo h
          have := insp_ge skip D _ (d + 1) v hv
          omega
        · split at h
          · have := leaf_ge h; omega
          · simp at h
        · rw [List.mem_singleton.1 h]; exact Int.le_refl _
theorem fold_skip (skip : ByteArray) (o : List S29) (u : Int) (hu : 0 ≤ u) : ∀ l : List S29, (∀ v ∈ l, u < v.f2) → l.foldl (stepW skip) (o, u) = (o, u)
  | [], _ => rfl
  | v :: l, h => by
    rw [List.foldl_cons]
    have hv := h v List.mem_cons_self
    have e : stepW skip (o, u) v = (o, u) := by
      unfold stepW
      rw [if_pos hu, if_neg (fun h => by have := h.2; dsimp only at this; omega)]
    rw [e]
    exact fold_skip skip o u hu l (fun v hv => h v (List.mem_cons_of_mem _ hv))
theorem stepW_push {skip : ByteArray} {o : List S29} {v : S29} (h : ¬ v.f0.toList = skip.toList) : stepW skip (o, -1) v = (o ++ [v], -1) := by
  unfold stepW
  rw [if_neg (show ¬ (0 : Int) ≤ -1 by decide), if_neg h]
theorem stepW_kind {skip : ByteArray} {o : List S29} {v : S29} (h : v.f0.toList = skip.toList) : stepW skip (o, -1) v = (o ++ [v], v.f2) := by
  unfold stepW
  rw [if_neg (show ¬ (0 : Int) ≤ -1 by decide), if_pos h]
theorem fold_insp {S : Nat → ByteArray} (skip : ByteArray) (hs : ¬ skip.toList = ([] : List UInt8)) : ∀ (D : Nat) (n : S24) (d : Int) (o : List S29), Good S D n → Deep D n → 0 ≤ d → (inspL bNone D d n).foldl (stepW skip) (o, -1) = (o ++ inspL skip D d n, -1)
  | 0, _, _, _, h, _, _ => h.elim
  | D + 1, n, d, o, hg, hd, h0 => by
    have hes : ¬ (⟨#[]⟩ : ByteArray).toList = skip.toList := fun h => hs (h.symm.trans (by decide +kernel))
    have hee : (⟨#[]⟩ : ByteArray).toList = ([] : List UInt8) := by decide +kernel
    rw [inspL, if_neg (by rw [hg.kindB_ne.1]; decide), List.foldl_cons, List.foldl_append, inspL]
    by_cases hk : (kindB n).toList = skip.toList
    · rw [stepW_kind (v := ⟨kindB n, textB n, d⟩) hk, if_pos (beq_iff_eq.2 hk), fold_skip skip _ d h0]
      · rw [List.foldl_cons, List.foldl_nil, stepW_end h0 hee rfl]
      · intro v hv
        rw [List.mem_append] at hv
        rcases hv with hv | hv
        · obtain ⟨i, _, hv⟩ := mem_catTo hv
          have := insp_ge _ D _ (d + 1) v hv
          omega
        · split at hv
          · have := leaf_ge hv; omega
          · simp at hv
    · rw [stepW_push (v := ⟨kindB n, textB n, d⟩) hk, if_neg (fun h => hk (beq_iff_eq.1 h)), List.foldl_append]
      have hcat : ∀ (m : Nat) (o : List S29), m ≤ n.f2.length → (catTo (fun i => inspL bNone D (d + 1) (rd_T24 n.f2 (i : Int))) m).foldl (stepW skip) (o, -1) = (o ++ catTo (fun i => inspL skip D (d + 1) (rd_T24 n.f2 (i : Int))) m, -1) := by
        intro m
        induction m with
        | zero => intro o _; simp [catTo]
        | succ m ih =>
          intro o hm
          rw [catTo, catTo, List.foldl_append, ih o (by omega), fold_insp skip hs D _ (d + 1) _ (hg.kids hd m (by omega)) (hd.2 m (by omega)) (by omega), List.append_assoc]
      rw [hd.nk, hcat _ _ (Nat.le_refl _)]
      have hleaf : ∀ o : List S29, (if n.f0 = bSel then leafL bNone (d + 1) n.f1 else []).foldl (stepW skip) (o, -1) = (o ++ (if n.f0 = bSel then leafL skip (d + 1) n.f1 else []), -1) := by
        intro o
        split
        · rw [leaf_none]
          unfold leafL
          rw [List.foldl_cons, List.foldl_cons, List.foldl_nil]
          by_cases hb : bName.toList = skip.toList
          · rw [stepW_kind (v := ⟨bName, n.f1, d + 1⟩) hb, stepW_end (v := ⟨⟨#[]⟩, ⟨#[]⟩, d + 1⟩) (u := d + 1) (by omega) hee rfl, if_pos (beq_iff_eq.2 hb)]
          · rw [stepW_push (v := ⟨bName, n.f1, d + 1⟩) hb, stepW_push (v := ⟨⟨#[]⟩, ⟨#[]⟩, d + 1⟩) hes, if_neg (fun h => hb (beq_iff_eq.1 h)), List.append_assoc]
            rfl
        · simp
      rw [hleaf, List.foldl_cons, List.foldl_nil, stepW_push (v := ⟨⟨#[]⟩, ⟨#[]⟩, d⟩) hes]
      simp only [List.append_assoc, List.cons_append, List.nil_append]
theorem insp_pos (skip : ByteArray) (D : Nat) (n : S24) (d : Int) : 0 < (inspL skip (D + 1) d n).length := by rw [inspL, List.length_cons]; omega
theorem fnInspectSkips_law (a0 a1 : ByteArray) (l2 : List S24) (a3 : ByteArray) (hT : TextOk 12 ⟨a0, a1, l2⟩) (hy : a3.size ≤ maxLen) : ∃ k, laws_FnInspectSkips.f k a0 a1 l2 a3 = some true := by
  obtain ⟨k, hk⟩ : ∃ k, k = 200000 := ⟨_, rfl⟩
  refine ⟨k + 2, ?_⟩
  obtain ⟨z, hz⟩ := fits_some a0 a1 l2
  obtain ⟨b, hb, hB⟩ := isTree a0 a1 l2 hT
  unfold laws_FnInspectSkips.f
  rw [hz]
  simp only [Option.bind_some]
  have hj1 : ∀ x, (x = false → b = true ∧ ¬ a3.toList = ([] : List UInt8)) → laws_FnInspectSkips.j1 (k + 1) a3 x a0 a1 l2 = some true := by
    intro x hx
    rw [laws_FnInspectSkips.j1]
    cases x with
    | true => rw [if_pos rfl]
    | false =>
      obtain ⟨hbt, hs⟩ := hx rfl
      obtain ⟨hg, hd, hc⟩ := hB hbt
      have hl := insp_len bNone 12 ⟨a0, a1, l2⟩ 0
      have hl2 := insp_len a3 12 ⟨a0, a1, l2⟩ 0
      have hp : 0 < (inspL bNone 12 0 ⟨a0, a1, l2⟩).length := insp_pos bNone 11 ⟨a0, a1, l2⟩ 0
      have hw : laws_without9.f k (inspL bNone 12 0 ⟨a0, a1, l2⟩) a3 = some (inspL a3 12 0 ⟨a0, a1, l2⟩) := by
        rw [laws_without9.f]
        have := wl0 a3 (inspL bNone 12 0 ⟨a0, a1, l2⟩) (by omega) _ 0 k [] (-1) rfl (Nat.zero_le _) (by omega) (by simp only [List.length_nil]; omega)
        rw [List.drop_zero, fold_insp a3 hs 12 _ 0 [] hg hd (Int.le_refl _), List.nil_append] at this
        exact this
      rw [if_neg (by decide), inspected_some hg hc]
      simp only [Option.bind_some]
      rw [if_pos (show ((inspL bNone 12 0 ⟨a0, a1, l2⟩).length : Int) > 0 by omega), inspected_some hg hc]
      simp only [Option.bind_some]
      rw [hw]
      simp only [Option.bind_some]
      rw [same_refl _ (by omega) k (by omega)]
      rfl
  have hj0 : ∀ x, laws_FnInspectSkips.j0 (k + 2) a3 x a0 a1 l2 = some true := by
    intro x
    rw [laws_FnInspectSkips.j0]
    cases x with
    | true => rw [if_pos rfl]
    | false =>
      rw [if_neg (by decide), hb (k + 1) (by omega)]
      simp only [Option.bind_some]
      cases hbb : b with
      | false =>
        rw [if_neg (by decide)]
        exact hj1 true (fun h => by cases h)
      | true =>
        rw [if_pos rfl]
        exact hj1 _ (fun h => ⟨hbb, fun e => by rw [e] at h; simp at h⟩)
  cases z with
  | false => rw [if_neg (by decide)]; exact hj0 _
  | true => rw [if_pos rfl]; exact hj0 _
end Go.Proofs.YtdcaabjkklppjaaGreatFmt.A
