/- Lists of visits: of one length, the same; the reference has the visits of Inspect. -/
import Derived.Test.YtdcaabjkklppjaaGreatFmtPureT
namespace Go.Proofs.YtdcaabjkklppjaaGreatFmt.A
open Go.RowKit Go.Proofs.YtdcaabjkklppjaaGreatFmtW.PrintWords Go.Proofs.YtdcaabjkklppjaaGreatFmtW.PrintLast Go.Proofs.YtdcaabjkklppjaaGreatFmtW.PrintMore
set_option linter.unusedVariables false
set_option linter.unusedSimpArgs false

abbrev bNone : ByteArray := ⟨#[110, 111, 110, 101]⟩
theorem Good.kindB_ne {S : Nat → ByteArray} {D : Nat} {n : S24} (h : Good S D n) : ((kindB n).toList == bNone.toList) = false ∧ ¬ (kindB n).toList = ([] : List UInt8) := by
  unfold kindB
  rcases h.kind with h | h | h | h | h | h | h | h <;> rw [h] <;> exact ⟨by decide +kernel, by decide +kernel⟩
theorem Good.kids {S : Nat → ByteArray} {D : Nat} {n : S24} (h : Good S (D + 1) n) (hd : Deep (D + 1) n) : ∀ i : Nat, i < n.f2.length → Good S D (rd_T24 n.f2 (i : Int)) := by
  intro i hi
  rcases h.2 with h2 | h2
  · rw [hd.1 h2] at hi
    exact absurd hi (Nat.not_lt_zero _)
  · exact h2 i hi
theorem catTo_congr {α : Type} (f g : Nat → List α) : ∀ m, (∀ i, i < m → f i = g i) → catTo f m = catTo g m
  | 0, _ => rfl
  | m + 1, h => by rw [catTo, catTo, catTo_congr f g m (fun i hi => h i (by omega)), h m (by omega)]
theorem insp_len : ∀ (skip : ByteArray) (D : Nat) (n : S24) (d : Int), (inspL skip D d n).length ≤ cnt D n
  | _, 0, _, _ => Nat.le_refl _
  | skip, D + 1, n, d => by
    have h1 := catTo_len (fun i => inspL skip D (d + 1) (rd_T24 n.f2 (i : Int))) (fun i => cnt D (rd_T24 n.f2 (i : Int))) (nk n) (fun i hi => insp_len skip D _ (d + 1))
    have h2 : (leafL skip (d + 1) n.f1).length ≤ 2 := by unfold leafL; split <;> simp
    rw [inspL, cnt, List.length_cons]
    split
    · simp only [List.length_nil]; omega
    · rw [List.length_append, List.length_append]
      split
      · simp only [List.length_cons, List.length_nil]; omega
      · simp only [List.length_cons, List.length_nil]; omega
theorem leaf_none (d : Int) (t : ByteArray) : leafL bNone d t = [⟨bName, t, d⟩, ⟨⟨#[]⟩, ⟨#[]⟩, d⟩] := by
  unfold leafL
  rw [if_neg (by decide +kernel)]
/-- Inspect with no kind to skip visits what the reference has. -/
theorem insp_vis {S : Nat → ByteArray} : ∀ {D : Nat} {n : S24} (d : Int), Good S D n → Deep D n → inspL bNone D d n = visL D d n
  | 0, _, _, h, _ => h.elim
  | D + 1, n, d, hg, hd => by
    rw [inspL, visL, if_neg (by rw [hg.kindB_ne.1]; decide), hd.nk, catTo_congr _ (fun i => visL D (d + 1) (rd_T24 n.f2 (i : Int))) _ (fun i hi => insp_vis (d + 1) (hg.kids hd i hi) (hd.2 i hi)), List.append_assoc, leaf_none]
theorem same_l0 (x : List S29) (hx : x.length ≤ 1000000) (e : Nat) : ∀ (i k : Nat), x.length - i = e → i ≤ x.length → e + 1 ≤ k → laws_sameVisits9.l0 k x x (x.length : Int) (i : Int) = some true := by
  induction e with
  | zero =>
    intro i k he hi hk
    obtain ⟨k, rfl⟩ : ∃ m, k = m + 1 := ⟨k - 1, by omega⟩
    rw [laws_sameVisits9.l0, if_neg (by omega)]
  | succ e ih =>
    intro i k he hi hk
    obtain ⟨k, rfl⟩ : ∃ m, k = m + 1 := ⟨k - 1, by omega⟩
    have hw1 : wrap64 ((i : Int) + 1) = ((i + 1 : Nat) : Int) := by unfold wrap64; omega
    rw [laws_sameVisits9.l0, if_pos (by omega), if_pos (by omega), if_pos (by omega), if_pos (by omega), if_neg (by simp), hw1]
    exact ih (i + 1) k (by omega) (by omega) (by omega)
theorem same_refl (x : List S29) (hx : x.length ≤ 1000000) (k : Nat) (hk : x.length + 1 ≤ k) : laws_sameVisits9.f k x x = some true := by
  rw [laws_sameVisits9.f, if_pos rfl]
  exact same_l0 x hx x.length 0 k rfl (Nat.zero_le _) hk
theorem inspected_some {a0 a1 : ByteArray} {l2 : List S24} (hg : Good tokS 12 ⟨a0, a1, l2⟩) (hc : cnt 12 ⟨a0, a1, l2⟩ ≤ 16000) (skip : ByteArray) : impl_Inspected.f a0 a1 l2 skip = some (inspL skip 12 0 ⟨a0, a1, l2⟩) := by
  unfold impl_Inspected.f
  rw [if_pos ⟨hg, by omega⟩]
end Go.Proofs.YtdcaabjkklppjaaGreatFmt.A
