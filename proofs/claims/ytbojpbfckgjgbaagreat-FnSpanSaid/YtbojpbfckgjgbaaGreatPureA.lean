/- spec.fewPlaced ends; spec.formOf is formB. -/
import Derived.Test.YtbojpbfckgjgbaaGreatA7
import Derived.Lib.Strings
namespace Go.Proofs.YtbojpbfckgjgbaaGreat.A
open Go.RowKit Go.Proofs.YtbojpbfckgjgbaaGreatW.PrintWords Go.Proofs.YtbojpbfckgjgbaaGreatW.PrintLast Go.Proofs.YtbojpbfckgjgbaaGreatW.PrintMore
set_option linter.unusedVariables false
set_option linter.unusedSimpArgs false

theorem list_is (s : ByteArray) (l : List UInt8) : s.toList = l ↔ s = ⟨l.toArray⟩ := by
  rw [Go.Lib.toList_data]
  constructor
  · intro h
    cases s with
    | mk d => cases d with
      | mk x => simp at h; rw [h]
  · rintro rfl
    simp

theorem few_l0 (D K : Nat) (hD : D ≤ 1000) (kids : List S25) (f0 f1 : ByteArray) (f2 : List Int)
    (hf : ∀ (n : S25) (left : Int) (k : Nat), 0 ≤ left → left ≤ 2000 → K ≤ k → ∃ r, spec_fewPlaced.f k n.f0 n.f1 n.f2 n.f3 (D : Int) left = some r ∧ r ≤ left - 1 ∧ -1 ≤ r) (d : Nat) :
    ∀ (x2 : Int) (i k : Nat), x2 + 1 ≤ (d : Int) → -1 ≤ x2 → x2 ≤ 2000 → i + d ≤ 5000 → K + d + 1 ≤ k → ∃ r, spec_fewPlaced.l0 k ((D + 1 : Nat) : Int) x2 (i : Int) f0 f1 f2 kids = some r ∧ r ≤ x2 ∧ -1 ≤ r := by
  induction d with
  | zero =>
    intro x2 i k h1 h2 h3 hi hk
    obtain ⟨k, rfl⟩ : ∃ m, k = m + 1 := ⟨k - 1, by omega⟩
    simp only [spec_fewPlaced.l0]
    split
    · rw [if_neg (by omega)]; exact ⟨_, rfl, Int.le_refl _, h2⟩
    · exact ⟨_, rfl, Int.le_refl _, h2⟩
  | succ d ih =>
    intro x2 i k h1 h2 h3 hi hk
    obtain ⟨k, rfl⟩ : ∃ m, k = m + 1 := ⟨k - 1, by omega⟩
    simp only [spec_fewPlaced.l0]
    by_cases c1 : (i : Int) < (kids.length : Int)
    · rw [if_pos c1]
      by_cases c2 : x2 ≥ 0
      · have hw : wrap64 (((D + 1 : Nat) : Int) - 1) = (D : Int) := by unfold wrap64; omega
        have hw1 : wrap64 ((i : Int) + 1) = ((i + 1 : Nat) : Int) := by unfold wrap64; omega
        obtain ⟨r, hr, hr1, hr2⟩ := hf (rd_T25 kids (i : Int)) x2 k c2 h3 (by omega)
        rw [if_pos c2, if_pos (by omega), hw, hr]
        simp only [Option.bind_some]
        rw [hw1]
        obtain ⟨r', h4, h5, h6⟩ := ih r (i + 1) k (by omega) hr2 (by omega) (by omega) (by omega)
        exact ⟨r', h4, by omega, h6⟩
      · rw [if_neg c2]; exact ⟨_, rfl, Int.le_refl _, h2⟩
    · rw [if_neg c1]; exact ⟨_, rfl, Int.le_refl _, h2⟩

theorem few_total (D : Nat) : D ≤ 1000 → ∀ (n : S25) (left : Int) (k : Nat), 0 ≤ left → left ≤ 2000 → D * 2010 + 1 ≤ k → ∃ r, spec_fewPlaced.f k n.f0 n.f1 n.f2 n.f3 (D : Int) left = some r ∧ r ≤ left - 1 ∧ -1 ≤ r := by
  induction D with
  | zero =>
    intro hD n left k h0 h1 hk
    obtain ⟨k, rfl⟩ : ∃ m, k = m + 1 := ⟨k - 1, by omega⟩
    simp only [spec_fewPlaced.f]
    rw [if_pos (by omega)]
    exact ⟨_, rfl, by omega, by omega⟩
  | succ D ih =>
    intro hD n left k h0 h1 hk
    obtain ⟨k, rfl⟩ : ∃ m, k = m + 1 := ⟨k - 1, by omega⟩
    have hw : wrap64 (left - 1) = left - 1 := by unfold wrap64; omega
    have hk2 : D * 2010 + 1 + 2001 + 1 ≤ k := by omega
    obtain ⟨K, hK⟩ : ∃ K, K = D * 2010 + 1 := ⟨_, rfl⟩
    rw [← hK] at hk2
    have ih' := ih (by omega)
    rw [← hK] at ih'
    simp only [spec_fewPlaced.f]
    rw [if_neg (by omega), hw]
    exact few_l0 D K (by omega) n.f3 n.f0 n.f1 n.f2 ih' 2001 (left - 1) 0 k (by omega) (by omega) (by omega) (by omega) hk2

theorem tl_name : b_name.toList = ([110, 97, 109, 101] : List UInt8) := (list_is _ _).2 rfl
theorem tl_int : b_int.toList = ([105, 110, 116] : List UInt8) := (list_is _ _).2 rfl
theorem tl_points : b_points.toList = ([112, 111, 105, 110, 116, 115] : List UInt8) := (list_is _ _).2 rfl
theorem tl_paren : b_paren.toList = ([112, 97, 114, 101, 110] : List UInt8) := (list_is _ _).2 rfl
theorem tl_selector : b_selector.toList = ([115, 101, 108, 101, 99, 116, 111, 114] : List UInt8) := (list_is _ _).2 rfl
theorem tl_index : b_index.toList = ([105, 110, 100, 101, 120] : List UInt8) := (list_is _ _).2 rfl
theorem tl_assert : b_assert.toList = ([97, 115, 115, 101, 114, 116] : List UInt8) := (list_is _ _).2 rfl
theorem tl_slice : b_slice.toList = ([115, 108, 105, 99, 101] : List UInt8) := (list_is _ _).2 rfl
theorem tl_call : b_call.toList = ([99, 97, 108, 108] : List UInt8) := (list_is _ _).2 rfl
theorem tl_composite : b_composite.toList = ([99, 111, 109, 112, 111, 115, 105, 116, 101] : List UInt8) := (list_is _ _).2 rfl
theorem tl_braces : b_braces.toList = ([98, 114, 97, 99, 101, 115] : List UInt8) := (list_is _ _).2 rfl
theorem tl_star : b_star.toList = ([115, 116, 97, 114] : List UInt8) := (list_is _ _).2 rfl
theorem tl_not : b_not.toList = ([110, 111, 116] : List UInt8) := (list_is _ _).2 rfl
theorem tl_slicetype : b_slicetype.toList = ([115, 108, 105, 99, 101, 116, 121, 112, 101] : List UInt8) := (list_is _ _).2 rfl
theorem tl_chantype : b_chantype.toList = ([99, 104, 97, 110, 116, 121, 112, 101] : List UInt8) := (list_is _ _).2 rfl
theorem tl_maptype : b_maptype.toList = ([109, 97, 112, 116, 121, 112, 101] : List UInt8) := (list_is _ _).2 rfl
theorem tl_add : b_add.toList = ([97, 100, 100] : List UInt8) := (list_is _ _).2 rfl
theorem tl_keyvalue : b_keyvalue.toList = ([107, 101, 121, 118, 97, 108, 117, 101] : List UInt8) := (list_is _ _).2 rfl
theorem is_name (b : ByteArray) : b.toList = ([110, 97, 109, 101] : List UInt8) ↔ b = b_name := list_is b _
theorem is_int (b : ByteArray) : b.toList = ([105, 110, 116] : List UInt8) ↔ b = b_int := list_is b _
theorem is_points (b : ByteArray) : b.toList = ([112, 111, 105, 110, 116, 115] : List UInt8) ↔ b = b_points := list_is b _
theorem is_paren (b : ByteArray) : b.toList = ([112, 97, 114, 101, 110] : List UInt8) ↔ b = b_paren := list_is b _
theorem is_selector (b : ByteArray) : b.toList = ([115, 101, 108, 101, 99, 116, 111, 114] : List UInt8) ↔ b = b_selector := list_is b _
theorem is_index (b : ByteArray) : b.toList = ([105, 110, 100, 101, 120] : List UInt8) ↔ b = b_index := list_is b _
theorem is_assert (b : ByteArray) : b.toList = ([97, 115, 115, 101, 114, 116] : List UInt8) ↔ b = b_assert := list_is b _
theorem is_slice (b : ByteArray) : b.toList = ([115, 108, 105, 99, 101] : List UInt8) ↔ b = b_slice := list_is b _
theorem is_call (b : ByteArray) : b.toList = ([99, 97, 108, 108] : List UInt8) ↔ b = b_call := list_is b _
theorem is_composite (b : ByteArray) : b.toList = ([99, 111, 109, 112, 111, 115, 105, 116, 101] : List UInt8) ↔ b = b_composite := list_is b _
theorem is_braces (b : ByteArray) : b.toList = ([98, 114, 97, 99, 101, 115] : List UInt8) ↔ b = b_braces := list_is b _
theorem is_star (b : ByteArray) : b.toList = ([115, 116, 97, 114] : List UInt8) ↔ b = b_star := list_is b _
theorem is_not (b : ByteArray) : b.toList = ([110, 111, 116] : List UInt8) ↔ b = b_not := list_is b _
theorem is_slicetype (b : ByteArray) : b.toList = ([115, 108, 105, 99, 101, 116, 121, 112, 101] : List UInt8) ↔ b = b_slicetype := list_is b _
theorem is_chantype (b : ByteArray) : b.toList = ([99, 104, 97, 110, 116, 121, 112, 101] : List UInt8) ↔ b = b_chantype := list_is b _
theorem is_maptype (b : ByteArray) : b.toList = ([109, 97, 112, 116, 121, 112, 101] : List UInt8) ↔ b = b_maptype := list_is b _
theorem is_add (b : ByteArray) : b.toList = ([97, 100, 100] : List UInt8) ↔ b = b_add := list_is b _
theorem is_keyvalue (b : ByteArray) : b.toList = ([107, 101, 121, 118, 97, 108, 117, 101] : List UInt8) ↔ b = b_keyvalue := list_is b _
theorem beq_dec (b : ByteArray) (l : List UInt8) : (b.toList == l) = decide (b.toList = l) := by rw [Bool.eq_iff_iff]; simp
/-- spec.formOf's answer. -/
def formT (b : ByteArray) : Int × Int × Bool × Bool × Bool × Bool := match formB b with
  | some (t, l, m, f, e) => ((t : Int), (l : Int), m, f, e, true)
  | none => (0, 0, false, false, false, false)
theorem said_name (k : Nat) : spec_formOf.f (k + 4) b_name = some (formT b_name) := by
  unfold formT
  rw [form_name]
  simp [spec_formOf.f, spec_formOf.j0, spec_formOf.j1, spec_formOf.j2, spec_formOf.j3, tl_name]
theorem said_int (k : Nat) : spec_formOf.f (k + 4) b_int = some (formT b_int) := by
  unfold formT
  rw [form_int]
  simp [spec_formOf.f, spec_formOf.j0, spec_formOf.j1, spec_formOf.j2, spec_formOf.j3, tl_int]
theorem said_points (k : Nat) : spec_formOf.f (k + 4) b_points = some (formT b_points) := by
  unfold formT
  rw [form_points]
  simp [spec_formOf.f, spec_formOf.j0, spec_formOf.j1, spec_formOf.j2, spec_formOf.j3, tl_points]
theorem said_paren (k : Nat) : spec_formOf.f (k + 4) b_paren = some (formT b_paren) := by
  unfold formT
  rw [form_paren]
  simp [spec_formOf.f, spec_formOf.j0, spec_formOf.j1, spec_formOf.j2, spec_formOf.j3, tl_paren]
theorem said_selector (k : Nat) : spec_formOf.f (k + 4) b_selector = some (formT b_selector) := by
  unfold formT
  rw [form_selector]
  simp [spec_formOf.f, spec_formOf.j0, spec_formOf.j1, spec_formOf.j2, spec_formOf.j3, tl_selector]
theorem said_index (k : Nat) : spec_formOf.f (k + 4) b_index = some (formT b_index) := by
  unfold formT
  rw [form_index]
  simp [spec_formOf.f, spec_formOf.j0, spec_formOf.j1, spec_formOf.j2, spec_formOf.j3, tl_index]
theorem said_assert (k : Nat) : spec_formOf.f (k + 4) b_assert = some (formT b_assert) := by
  unfold formT
  rw [form_assert]
  simp [spec_formOf.f, spec_formOf.j0, spec_formOf.j1, spec_formOf.j2, spec_formOf.j3, tl_assert]
theorem said_slice (k : Nat) : spec_formOf.f (k + 4) b_slice = some (formT b_slice) := by
  unfold formT
  rw [form_slice]
  simp [spec_formOf.f, spec_formOf.j0, spec_formOf.j1, spec_formOf.j2, spec_formOf.j3, tl_slice]
theorem said_call (k : Nat) : spec_formOf.f (k + 4) b_call = some (formT b_call) := by
  unfold formT
  rw [form_call]
  simp [spec_formOf.f, spec_formOf.j0, spec_formOf.j1, spec_formOf.j2, spec_formOf.j3, tl_call]
theorem said_composite (k : Nat) : spec_formOf.f (k + 4) b_composite = some (formT b_composite) := by
  unfold formT
  rw [form_composite]
  simp [spec_formOf.f, spec_formOf.j0, spec_formOf.j1, spec_formOf.j2, spec_formOf.j3, tl_composite]
theorem said_braces (k : Nat) : spec_formOf.f (k + 4) b_braces = some (formT b_braces) := by
  unfold formT
  rw [form_braces]
  simp [spec_formOf.f, spec_formOf.j0, spec_formOf.j1, spec_formOf.j2, spec_formOf.j3, tl_braces]
theorem said_star (k : Nat) : spec_formOf.f (k + 4) b_star = some (formT b_star) := by
  unfold formT
  rw [form_star]
  simp [spec_formOf.f, spec_formOf.j0, spec_formOf.j1, spec_formOf.j2, spec_formOf.j3, tl_star]
theorem said_not (k : Nat) : spec_formOf.f (k + 4) b_not = some (formT b_not) := by
  unfold formT
  rw [form_not]
  simp [spec_formOf.f, spec_formOf.j0, spec_formOf.j1, spec_formOf.j2, spec_formOf.j3, tl_not]
theorem said_slicetype (k : Nat) : spec_formOf.f (k + 4) b_slicetype = some (formT b_slicetype) := by
  unfold formT
  rw [form_slicetype]
  simp [spec_formOf.f, spec_formOf.j0, spec_formOf.j1, spec_formOf.j2, spec_formOf.j3, tl_slicetype]
theorem said_chantype (k : Nat) : spec_formOf.f (k + 4) b_chantype = some (formT b_chantype) := by
  unfold formT
  rw [form_chantype]
  simp [spec_formOf.f, spec_formOf.j0, spec_formOf.j1, spec_formOf.j2, spec_formOf.j3, tl_chantype]
theorem said_maptype (k : Nat) : spec_formOf.f (k + 4) b_maptype = some (formT b_maptype) := by
  unfold formT
  rw [form_maptype]
  simp [spec_formOf.f, spec_formOf.j0, spec_formOf.j1, spec_formOf.j2, spec_formOf.j3, tl_maptype]
theorem said_add (k : Nat) : spec_formOf.f (k + 4) b_add = some (formT b_add) := by
  unfold formT
  rw [form_add]
  simp [spec_formOf.f, spec_formOf.j0, spec_formOf.j1, spec_formOf.j2, spec_formOf.j3, tl_add]
theorem said_keyvalue (k : Nat) : spec_formOf.f (k + 4) b_keyvalue = some (formT b_keyvalue) := by
  unfold formT
  rw [form_keyvalue]
  simp [spec_formOf.f, spec_formOf.j0, spec_formOf.j1, spec_formOf.j2, spec_formOf.j3, tl_keyvalue]
theorem form_said (k : Nat) (b : ByteArray) : spec_formOf.f (k + 4) b = some (formT b) := by
  cases hf : formB b with
  | some x =>
    rcases form_kinds hf with rfl | rfl | rfl | rfl | rfl | rfl | rfl | rfl | rfl | rfl | rfl | rfl | rfl | rfl | rfl | rfl | rfl | rfl
    · exact said_name k
    · exact said_int k
    · exact said_points k
    · exact said_paren k
    · exact said_selector k
    · exact said_index k
    · exact said_assert k
    · exact said_slice k
    · exact said_call k
    · exact said_composite k
    · exact said_braces k
    · exact said_star k
    · exact said_not k
    · exact said_slicetype k
    · exact said_chantype k
    · exact said_maptype k
    · exact said_add k
    · exact said_keyvalue k
  | none =>
    have h_name : ¬ b = b_name := by rintro rfl; rw [form_name] at hf; cases hf
    have h_int : ¬ b = b_int := by rintro rfl; rw [form_int] at hf; cases hf
    have h_points : ¬ b = b_points := by rintro rfl; rw [form_points] at hf; cases hf
    have h_paren : ¬ b = b_paren := by rintro rfl; rw [form_paren] at hf; cases hf
    have h_selector : ¬ b = b_selector := by rintro rfl; rw [form_selector] at hf; cases hf
    have h_index : ¬ b = b_index := by rintro rfl; rw [form_index] at hf; cases hf
    have h_assert : ¬ b = b_assert := by rintro rfl; rw [form_assert] at hf; cases hf
    have h_slice : ¬ b = b_slice := by rintro rfl; rw [form_slice] at hf; cases hf
    have h_call : ¬ b = b_call := by rintro rfl; rw [form_call] at hf; cases hf
    have h_composite : ¬ b = b_composite := by rintro rfl; rw [form_composite] at hf; cases hf
    have h_braces : ¬ b = b_braces := by rintro rfl; rw [form_braces] at hf; cases hf
    have h_star : ¬ b = b_star := by rintro rfl; rw [form_star] at hf; cases hf
    have h_not : ¬ b = b_not := by rintro rfl; rw [form_not] at hf; cases hf
    have h_slicetype : ¬ b = b_slicetype := by rintro rfl; rw [form_slicetype] at hf; cases hf
    have h_chantype : ¬ b = b_chantype := by rintro rfl; rw [form_chantype] at hf; cases hf
    have h_maptype : ¬ b = b_maptype := by rintro rfl; rw [form_maptype] at hf; cases hf
    have h_add : ¬ b = b_add := by rintro rfl; rw [form_add] at hf; cases hf
    have h_keyvalue : ¬ b = b_keyvalue := by rintro rfl; rw [form_keyvalue] at hf; cases hf
    unfold formT; rw [hf]
    simp only [spec_formOf.f, spec_formOf.j0, spec_formOf.j1, spec_formOf.j2, spec_formOf.j3, beq_dec, is_name, is_int, is_points, is_paren, is_selector, is_index, is_assert, is_slice, is_call, is_composite, is_braces, is_star, is_not, is_slicetype, is_chantype, is_maptype, is_add, is_keyvalue, h_name, h_int, h_points, h_paren, h_selector, h_index, h_assert, h_slice, h_call, h_composite, h_braces, h_star, h_not, h_slicetype, h_chantype, h_maptype, h_add, h_keyvalue, if_false, decide_false, Bool.false_eq_true]
end Go.Proofs.YtbojpbfckgjgbaaGreat.A
