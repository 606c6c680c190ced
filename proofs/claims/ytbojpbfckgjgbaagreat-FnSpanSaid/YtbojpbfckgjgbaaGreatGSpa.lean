/- impl.placedOf at every kind; impl.Span. -/
import Derived.Test.YtbojpbfckgjgbaaGreatGPname
import Derived.Test.YtbojpbfckgjgbaaGreatGPint
import Derived.Test.YtbojpbfckgjgbaaGreatGPpoints
import Derived.Test.YtbojpbfckgjgbaaGreatGPparen
import Derived.Test.YtbojpbfckgjgbaaGreatGPselector
import Derived.Test.YtbojpbfckgjgbaaGreatGPindex
import Derived.Test.YtbojpbfckgjgbaaGreatGPassert
import Derived.Test.YtbojpbfckgjgbaaGreatGPslice
import Derived.Test.YtbojpbfckgjgbaaGreatGPcall
import Derived.Test.YtbojpbfckgjgbaaGreatGPcomposite
import Derived.Test.YtbojpbfckgjgbaaGreatGPbraces
import Derived.Test.YtbojpbfckgjgbaaGreatGPstar
import Derived.Test.YtbojpbfckgjgbaaGreatGPnot
import Derived.Test.YtbojpbfckgjgbaaGreatGPslicetype
import Derived.Test.YtbojpbfckgjgbaaGreatGPchantype
import Derived.Test.YtbojpbfckgjgbaaGreatGPmaptype
import Derived.Test.YtbojpbfckgjgbaaGreatGPadd
import Derived.Test.YtbojpbfckgjgbaaGreatGPkeyvalue
namespace Go.Proofs.YtbojpbfckgjgbaaGreat.A
open Go.RowKit Go.Proofs.YtbojpbfckgjgbaaGreatW.PrintWords Go.Proofs.YtbojpbfckgjgbaaGreatW.PrintLast Go.Proofs.YtbojpbfckgjgbaaGreatW.PrintMore
set_option linter.unusedVariables false
set_option linter.unusedSimpArgs false

theorem form_name : formB b_name = some (1, 0, false, true, true) := by decide +kernel
theorem form_int : formB b_int = some (1, 0, false, true, true) := by decide +kernel
theorem form_points : formB b_points = some (1, 0, false, true, true) := by decide +kernel
theorem form_paren : formB b_paren = some (2, 1, false, true, true) := by decide +kernel
theorem form_selector : formB b_selector = some (1, 1, false, false, true) := by decide +kernel
theorem form_index : formB b_index = some (2, 2, false, false, true) := by decide +kernel
theorem form_assert : formB b_assert = some (2, 2, false, false, true) := by decide +kernel
theorem form_slice : formB b_slice = some (2, 3, false, false, true) := by decide +kernel
theorem form_call : formB b_call = some (2, 1, true, false, true) := by decide +kernel
theorem form_composite : formB b_composite = some (2, 1, true, false, true) := by decide +kernel
theorem form_braces : formB b_braces = some (2, 0, true, true, true) := by decide +kernel
theorem form_star : formB b_star = some (1, 1, false, true, false) := by decide +kernel
theorem form_not : formB b_not = some (1, 1, false, true, false) := by decide +kernel
theorem form_slicetype : formB b_slicetype = some (1, 1, false, true, false) := by decide +kernel
theorem form_chantype : formB b_chantype = some (1, 1, false, true, false) := by decide +kernel
theorem form_maptype : formB b_maptype = some (1, 2, false, true, false) := by decide +kernel
theorem form_add : formB b_add = some (1, 2, false, false, false) := by decide +kernel
theorem form_keyvalue : formB b_keyvalue = some (1, 2, false, false, false) := by decide +kernel
theorem size_name (a1 : ByteArray) (l2 : List Int) (l3 : List S25) : sizeP ⟨b_name, a1, l2, l3⟩ = (a1.size : Int) := if_pos (show b_name = b_name ∨ b_name = b_int ∨ b_name = b_selector by decide +kernel)
theorem size_int (a1 : ByteArray) (l2 : List Int) (l3 : List S25) : sizeP ⟨b_int, a1, l2, l3⟩ = (a1.size : Int) := if_pos (show b_int = b_name ∨ b_int = b_int ∨ b_int = b_selector by decide +kernel)
theorem size_points (a1 : ByteArray) (l2 : List Int) (l3 : List S25) : sizeP ⟨b_points, a1, l2, l3⟩ = 3 := (if_neg (show ¬ (b_points = b_name ∨ b_points = b_int ∨ b_points = b_selector) by decide +kernel)).trans (if_pos (show b_points = b_points by decide +kernel))
theorem size_paren (a1 : ByteArray) (l2 : List Int) (l3 : List S25) : sizeP ⟨b_paren, a1, l2, l3⟩ = 1 := (if_neg (show ¬ (b_paren = b_name ∨ b_paren = b_int ∨ b_paren = b_selector) by decide +kernel)).trans (if_neg (show ¬ b_paren = b_points by decide +kernel))
theorem size_selector (a1 : ByteArray) (l2 : List Int) (l3 : List S25) : sizeP ⟨b_selector, a1, l2, l3⟩ = (a1.size : Int) := if_pos (show b_selector = b_name ∨ b_selector = b_int ∨ b_selector = b_selector by decide +kernel)
theorem size_index (a1 : ByteArray) (l2 : List Int) (l3 : List S25) : sizeP ⟨b_index, a1, l2, l3⟩ = 1 := (if_neg (show ¬ (b_index = b_name ∨ b_index = b_int ∨ b_index = b_selector) by decide +kernel)).trans (if_neg (show ¬ b_index = b_points by decide +kernel))
theorem size_assert (a1 : ByteArray) (l2 : List Int) (l3 : List S25) : sizeP ⟨b_assert, a1, l2, l3⟩ = 1 := (if_neg (show ¬ (b_assert = b_name ∨ b_assert = b_int ∨ b_assert = b_selector) by decide +kernel)).trans (if_neg (show ¬ b_assert = b_points by decide +kernel))
theorem size_slice (a1 : ByteArray) (l2 : List Int) (l3 : List S25) : sizeP ⟨b_slice, a1, l2, l3⟩ = 1 := (if_neg (show ¬ (b_slice = b_name ∨ b_slice = b_int ∨ b_slice = b_selector) by decide +kernel)).trans (if_neg (show ¬ b_slice = b_points by decide +kernel))
theorem size_call (a1 : ByteArray) (l2 : List Int) (l3 : List S25) : sizeP ⟨b_call, a1, l2, l3⟩ = 1 := (if_neg (show ¬ (b_call = b_name ∨ b_call = b_int ∨ b_call = b_selector) by decide +kernel)).trans (if_neg (show ¬ b_call = b_points by decide +kernel))
theorem size_composite (a1 : ByteArray) (l2 : List Int) (l3 : List S25) : sizeP ⟨b_composite, a1, l2, l3⟩ = 1 := (if_neg (show ¬ (b_composite = b_name ∨ b_composite = b_int ∨ b_composite = b_selector) by decide +kernel)).trans (if_neg (show ¬ b_composite = b_points by decide +kernel))
theorem size_braces (a1 : ByteArray) (l2 : List Int) (l3 : List S25) : sizeP ⟨b_braces, a1, l2, l3⟩ = 1 := (if_neg (show ¬ (b_braces = b_name ∨ b_braces = b_int ∨ b_braces = b_selector) by decide +kernel)).trans (if_neg (show ¬ b_braces = b_points by decide +kernel))
theorem form_kinds {k : ByteArray} {x : Nat × Nat × Bool × Bool × Bool} (h : formB k = some x) : k = b_name ∨ k = b_int ∨ k = b_points ∨ k = b_paren ∨ k = b_selector ∨ k = b_index ∨ k = b_assert ∨ k = b_slice ∨ k = b_call ∨ k = b_composite ∨ k = b_braces ∨ k = b_star ∨ k = b_not ∨ k = b_slicetype ∨ k = b_chantype ∨ k = b_maptype ∨ k = b_add ∨ k = b_keyvalue := by
  unfold formB at h
  by_cases hk0 : k = b_name
  · exact .inl hk0
  rw [if_neg hk0] at h
  by_cases hk1 : k = b_int
  · exact .inr (.inl hk1)
  rw [if_neg hk1] at h
  by_cases hk2 : k = b_points
  · exact .inr (.inr (.inl hk2))
  rw [if_neg hk2] at h
  by_cases hk3 : k = b_paren
  · exact .inr (.inr (.inr (.inl hk3)))
  rw [if_neg hk3] at h
  by_cases hk4 : k = b_selector
  · exact .inr (.inr (.inr (.inr (.inl hk4))))
  rw [if_neg hk4] at h
  by_cases hk5 : k = b_index
  · exact .inr (.inr (.inr (.inr (.inr (.inl hk5)))))
  rw [if_neg hk5] at h
  by_cases hk6 : k = b_assert
  · exact .inr (.inr (.inr (.inr (.inr (.inr (.inl hk6))))))
  rw [if_neg hk6] at h
  by_cases hk7 : k = b_slice
  · exact .inr (.inr (.inr (.inr (.inr (.inr (.inr (.inl hk7)))))))
  rw [if_neg hk7] at h
  by_cases hk8 : k = b_call
  · exact .inr (.inr (.inr (.inr (.inr (.inr (.inr (.inr (.inl hk8))))))))
  rw [if_neg hk8] at h
  by_cases hk9 : k = b_composite
  · exact .inr (.inr (.inr (.inr (.inr (.inr (.inr (.inr (.inr (.inl hk9)))))))))
  rw [if_neg hk9] at h
  by_cases hk10 : k = b_braces
  · exact .inr (.inr (.inr (.inr (.inr (.inr (.inr (.inr (.inr (.inr (.inl hk10))))))))))
  rw [if_neg hk10] at h
  by_cases hk11 : k = b_star
  · exact .inr (.inr (.inr (.inr (.inr (.inr (.inr (.inr (.inr (.inr (.inr (.inl hk11)))))))))))
  rw [if_neg hk11] at h
  by_cases hk12 : k = b_not
  · exact .inr (.inr (.inr (.inr (.inr (.inr (.inr (.inr (.inr (.inr (.inr (.inr (.inl hk12))))))))))))
  rw [if_neg hk12] at h
  by_cases hk13 : k = b_slicetype
  · exact .inr (.inr (.inr (.inr (.inr (.inr (.inr (.inr (.inr (.inr (.inr (.inr (.inr (.inl hk13)))))))))))))
  rw [if_neg hk13] at h
  by_cases hk14 : k = b_chantype
  · exact .inr (.inr (.inr (.inr (.inr (.inr (.inr (.inr (.inr (.inr (.inr (.inr (.inr (.inr (.inl hk14))))))))))))))
  rw [if_neg hk14] at h
  by_cases hk15 : k = b_maptype
  · exact .inr (.inr (.inr (.inr (.inr (.inr (.inr (.inr (.inr (.inr (.inr (.inr (.inr (.inr (.inr (.inl hk15)))))))))))))))
  rw [if_neg hk15] at h
  by_cases hk16 : k = b_add
  · exact .inr (.inr (.inr (.inr (.inr (.inr (.inr (.inr (.inr (.inr (.inr (.inr (.inr (.inr (.inr (.inr (.inl hk16))))))))))))))))
  rw [if_neg hk16] at h
  by_cases hk17 : k = b_keyvalue
  · exact .inr (.inr (.inr (.inr (.inr (.inr (.inr (.inr (.inr (.inr (.inr (.inr (.inr (.inr (.inr (.inr (.inr (hk17)))))))))))))))))
  rw [if_neg hk17] at h
  cases h
theorem placed_any : ∀ D, PlacedC D
  | 0 => fun n _ _ _ _ _ h => h.elim
  | D + 1 => by
    have IH := placed_any D
    intro n A2 c2 A3 c3 w hg hr2 hc2 hr3 hc3
    obtain ⟨a0, a1, l2, l3⟩ := n
    obtain ⟨⟨t, l, m, f, e, hf, ht, hl, hm⟩, hsz, h20, hbd, hk⟩ := hg
    simp only at hf ht hl hm hsz h20 hbd hk hr2 hc2 hr3 hc3
    rcases form_kinds hf with rfl | rfl | rfl | rfl | rfl | rfl | rfl | rfl | rfl | rfl | rfl | rfl | rfl | rfl | rfl | rfl | rfl | rfl
    · rw [form_name] at hf
      have hf := Option.some.inj hf
      simp only [Prod.mk.injEq] at hf
      obtain ⟨rfl, rfl, rfl, rfl, rfl⟩ := hf
      have hp : firstP (D + 1) ⟨b_name, a1, l2, l3⟩ = rd l2 0 := by
        rw [firstP, form_name]
      have hq : behindP (D + 1) ⟨b_name, a1, l2, l3⟩ = rd l2 0 + (a1.size : Int) := by
        rw [behindP, form_name]
        show rd l2 _ + sizeP ⟨b_name, a1, l2, l3⟩ = _
        rw [size_name]
        rfl
      have h := pl_name D IH a1 A2 c2 l2 A3 c3 l3 w ht (hm rfl) h20 hbd hsz hk hr2 hc2 hr3 hc3
      rw [hp, hq]
      exact h
    · rw [form_int] at hf
      have hf := Option.some.inj hf
      simp only [Prod.mk.injEq] at hf
      obtain ⟨rfl, rfl, rfl, rfl, rfl⟩ := hf
      have hp : firstP (D + 1) ⟨b_int, a1, l2, l3⟩ = rd l2 0 := by
        rw [firstP, form_int]
      have hq : behindP (D + 1) ⟨b_int, a1, l2, l3⟩ = rd l2 0 + (a1.size : Int) := by
        rw [behindP, form_int]
        show rd l2 _ + sizeP ⟨b_int, a1, l2, l3⟩ = _
        rw [size_int]
        rfl
      have h := pl_int D IH a1 A2 c2 l2 A3 c3 l3 w ht (hm rfl) h20 hbd hsz hk hr2 hc2 hr3 hc3
      rw [hp, hq]
      exact h
    · rw [form_points] at hf
      have hf := Option.some.inj hf
      simp only [Prod.mk.injEq] at hf
      obtain ⟨rfl, rfl, rfl, rfl, rfl⟩ := hf
      have hp : firstP (D + 1) ⟨b_points, a1, l2, l3⟩ = rd l2 0 := by
        rw [firstP, form_points]
      have hq : behindP (D + 1) ⟨b_points, a1, l2, l3⟩ = rd l2 0 + 3 := by
        rw [behindP, form_points]
        show rd l2 _ + sizeP ⟨b_points, a1, l2, l3⟩ = _
        rw [size_points]
        rfl
      have h := pl_points D IH a1 A2 c2 l2 A3 c3 l3 w ht (hm rfl) h20 hbd hsz hk hr2 hc2 hr3 hc3
      rw [hp, hq]
      exact h
    · rw [form_paren] at hf
      have hf := Option.some.inj hf
      simp only [Prod.mk.injEq] at hf
      obtain ⟨rfl, rfl, rfl, rfl, rfl⟩ := hf
      have hp : firstP (D + 1) ⟨b_paren, a1, l2, l3⟩ = rd l2 0 := by
        rw [firstP, form_paren]
      have hq : behindP (D + 1) ⟨b_paren, a1, l2, l3⟩ = rd l2 1 + 1 := by
        rw [behindP, form_paren]
        show rd l2 _ + sizeP ⟨b_paren, a1, l2, l3⟩ = _
        rw [size_paren]
        rfl
      have h := pl_paren D IH a1 A2 c2 l2 A3 c3 l3 w ht (hm rfl) h20 hbd hsz hk hr2 hc2 hr3 hc3
      rw [hp, hq]
      exact h
    · rw [form_selector] at hf
      have hf := Option.some.inj hf
      simp only [Prod.mk.injEq] at hf
      obtain ⟨rfl, rfl, rfl, rfl, rfl⟩ := hf
      have hp : firstP (D + 1) ⟨b_selector, a1, l2, l3⟩ = firstP D (rd_T25 l3 ((0 : Nat) : Int)) := by
        rw [firstP, form_selector]
      have hq : behindP (D + 1) ⟨b_selector, a1, l2, l3⟩ = rd l2 0 + (a1.size : Int) := by
        rw [behindP, form_selector]
        show rd l2 _ + sizeP ⟨b_selector, a1, l2, l3⟩ = _
        rw [size_selector]
        rfl
      have h := pl_selector D IH a1 A2 c2 l2 A3 c3 l3 w ht (hm rfl) h20 hbd hsz hk hr2 hc2 hr3 hc3
      rw [hp, hq]
      exact h
    · rw [form_index] at hf
      have hf := Option.some.inj hf
      simp only [Prod.mk.injEq] at hf
      obtain ⟨rfl, rfl, rfl, rfl, rfl⟩ := hf
      have hp : firstP (D + 1) ⟨b_index, a1, l2, l3⟩ = firstP D (rd_T25 l3 ((0 : Nat) : Int)) := by
        rw [firstP, form_index]
      have hq : behindP (D + 1) ⟨b_index, a1, l2, l3⟩ = rd l2 1 + 1 := by
        rw [behindP, form_index]
        show rd l2 _ + sizeP ⟨b_index, a1, l2, l3⟩ = _
        rw [size_index]
        rfl
      have h := pl_index D IH a1 A2 c2 l2 A3 c3 l3 w ht (hm rfl) h20 hbd hsz hk hr2 hc2 hr3 hc3
      rw [hp, hq]
      exact h
    · rw [form_assert] at hf
      have hf := Option.some.inj hf
      simp only [Prod.mk.injEq] at hf
      obtain ⟨rfl, rfl, rfl, rfl, rfl⟩ := hf
      have hp : firstP (D + 1) ⟨b_assert, a1, l2, l3⟩ = firstP D (rd_T25 l3 ((0 : Nat) : Int)) := by
        rw [firstP, form_assert]
      have hq : behindP (D + 1) ⟨b_assert, a1, l2, l3⟩ = rd l2 1 + 1 := by
        rw [behindP, form_assert]
        show rd l2 _ + sizeP ⟨b_assert, a1, l2, l3⟩ = _
        rw [size_assert]
        rfl
      have h := pl_assert D IH a1 A2 c2 l2 A3 c3 l3 w ht (hm rfl) h20 hbd hsz hk hr2 hc2 hr3 hc3
      rw [hp, hq]
      exact h
    · rw [form_slice] at hf
      have hf := Option.some.inj hf
      simp only [Prod.mk.injEq] at hf
      obtain ⟨rfl, rfl, rfl, rfl, rfl⟩ := hf
      have hp : firstP (D + 1) ⟨b_slice, a1, l2, l3⟩ = firstP D (rd_T25 l3 ((0 : Nat) : Int)) := by
        rw [firstP, form_slice]
      have hq : behindP (D + 1) ⟨b_slice, a1, l2, l3⟩ = rd l2 1 + 1 := by
        rw [behindP, form_slice]
        show rd l2 _ + sizeP ⟨b_slice, a1, l2, l3⟩ = _
        rw [size_slice]
        rfl
      have h := pl_slice D IH a1 A2 c2 l2 A3 c3 l3 w ht (hm rfl) h20 hbd hsz hk hr2 hc2 hr3 hc3
      rw [hp, hq]
      exact h
    · rw [form_call] at hf
      have hf := Option.some.inj hf
      simp only [Prod.mk.injEq] at hf
      obtain ⟨rfl, rfl, rfl, rfl, rfl⟩ := hf
      have hp : firstP (D + 1) ⟨b_call, a1, l2, l3⟩ = firstP D (rd_T25 l3 ((0 : Nat) : Int)) := by
        rw [firstP, form_call]
      have hq : behindP (D + 1) ⟨b_call, a1, l2, l3⟩ = rd l2 1 + 1 := by
        rw [behindP, form_call]
        show rd l2 _ + sizeP ⟨b_call, a1, l2, l3⟩ = _
        rw [size_call]
        rfl
      have h := pl_call D IH a1 A2 c2 l2 A3 c3 l3 w ht hl h20 hbd hsz hk hr2 hc2 hr3 hc3
      rw [hp, hq]
      exact h
    · rw [form_composite] at hf
      have hf := Option.some.inj hf
      simp only [Prod.mk.injEq] at hf
      obtain ⟨rfl, rfl, rfl, rfl, rfl⟩ := hf
      have hp : firstP (D + 1) ⟨b_composite, a1, l2, l3⟩ = firstP D (rd_T25 l3 ((0 : Nat) : Int)) := by
        rw [firstP, form_composite]
      have hq : behindP (D + 1) ⟨b_composite, a1, l2, l3⟩ = rd l2 1 + 1 := by
        rw [behindP, form_composite]
        show rd l2 _ + sizeP ⟨b_composite, a1, l2, l3⟩ = _
        rw [size_composite]
        rfl
      have h := pl_composite D IH a1 A2 c2 l2 A3 c3 l3 w ht hl h20 hbd hsz hk hr2 hc2 hr3 hc3
      rw [hp, hq]
      exact h
    · rw [form_braces] at hf
      have hf := Option.some.inj hf
      simp only [Prod.mk.injEq] at hf
      obtain ⟨rfl, rfl, rfl, rfl, rfl⟩ := hf
      have hp : firstP (D + 1) ⟨b_braces, a1, l2, l3⟩ = rd l2 0 := by
        rw [firstP, form_braces]
      have hq : behindP (D + 1) ⟨b_braces, a1, l2, l3⟩ = rd l2 1 + 1 := by
        rw [behindP, form_braces]
        show rd l2 _ + sizeP ⟨b_braces, a1, l2, l3⟩ = _
        rw [size_braces]
        rfl
      have h := pl_braces D IH a1 A2 c2 l2 A3 c3 l3 w ht hl h20 hbd hsz hk hr2 hc2 hr3 hc3
      rw [hp, hq]
      exact h
    · rw [form_star] at hf
      have hf := Option.some.inj hf
      simp only [Prod.mk.injEq] at hf
      obtain ⟨rfl, rfl, rfl, rfl, rfl⟩ := hf
      have hp : firstP (D + 1) ⟨b_star, a1, l2, l3⟩ = rd l2 0 := by
        rw [firstP, form_star]
      have hq : behindP (D + 1) ⟨b_star, a1, l2, l3⟩ = behindP D (rd_T25 l3 ((l3.length - 1 : Nat) : Int)) := by
        rw [behindP, form_star]
      have h := pl_star D IH a1 A2 c2 l2 A3 c3 l3 w ht (hm rfl) h20 hbd hsz hk hr2 hc2 hr3 hc3
      rw [hp, hq]
      exact h
    · rw [form_not] at hf
      have hf := Option.some.inj hf
      simp only [Prod.mk.injEq] at hf
      obtain ⟨rfl, rfl, rfl, rfl, rfl⟩ := hf
      have hp : firstP (D + 1) ⟨b_not, a1, l2, l3⟩ = rd l2 0 := by
        rw [firstP, form_not]
      have hq : behindP (D + 1) ⟨b_not, a1, l2, l3⟩ = behindP D (rd_T25 l3 ((l3.length - 1 : Nat) : Int)) := by
        rw [behindP, form_not]
      have h := pl_not D IH a1 A2 c2 l2 A3 c3 l3 w ht (hm rfl) h20 hbd hsz hk hr2 hc2 hr3 hc3
      rw [hp, hq]
      exact h
    · rw [form_slicetype] at hf
      have hf := Option.some.inj hf
      simp only [Prod.mk.injEq] at hf
      obtain ⟨rfl, rfl, rfl, rfl, rfl⟩ := hf
      have hp : firstP (D + 1) ⟨b_slicetype, a1, l2, l3⟩ = rd l2 0 := by
        rw [firstP, form_slicetype]
      have hq : behindP (D + 1) ⟨b_slicetype, a1, l2, l3⟩ = behindP D (rd_T25 l3 ((l3.length - 1 : Nat) : Int)) := by
        rw [behindP, form_slicetype]
      have h := pl_slicetype D IH a1 A2 c2 l2 A3 c3 l3 w ht (hm rfl) h20 hbd hsz hk hr2 hc2 hr3 hc3
      rw [hp, hq]
      exact h
    · rw [form_chantype] at hf
      have hf := Option.some.inj hf
      simp only [Prod.mk.injEq] at hf
      obtain ⟨rfl, rfl, rfl, rfl, rfl⟩ := hf
      have hp : firstP (D + 1) ⟨b_chantype, a1, l2, l3⟩ = rd l2 0 := by
        rw [firstP, form_chantype]
      have hq : behindP (D + 1) ⟨b_chantype, a1, l2, l3⟩ = behindP D (rd_T25 l3 ((l3.length - 1 : Nat) : Int)) := by
        rw [behindP, form_chantype]
      have h := pl_chantype D IH a1 A2 c2 l2 A3 c3 l3 w ht (hm rfl) h20 hbd hsz hk hr2 hc2 hr3 hc3
      rw [hp, hq]
      exact h
    · rw [form_maptype] at hf
      have hf := Option.some.inj hf
      simp only [Prod.mk.injEq] at hf
      obtain ⟨rfl, rfl, rfl, rfl, rfl⟩ := hf
      have hp : firstP (D + 1) ⟨b_maptype, a1, l2, l3⟩ = rd l2 0 := by
        rw [firstP, form_maptype]
      have hq : behindP (D + 1) ⟨b_maptype, a1, l2, l3⟩ = behindP D (rd_T25 l3 ((l3.length - 1 : Nat) : Int)) := by
        rw [behindP, form_maptype]
      have h := pl_maptype D IH a1 A2 c2 l2 A3 c3 l3 w ht (hm rfl) h20 hbd hsz hk hr2 hc2 hr3 hc3
      rw [hp, hq]
      exact h
    · rw [form_add] at hf
      have hf := Option.some.inj hf
      simp only [Prod.mk.injEq] at hf
      obtain ⟨rfl, rfl, rfl, rfl, rfl⟩ := hf
      have hp : firstP (D + 1) ⟨b_add, a1, l2, l3⟩ = firstP D (rd_T25 l3 ((0 : Nat) : Int)) := by
        rw [firstP, form_add]
      have hq : behindP (D + 1) ⟨b_add, a1, l2, l3⟩ = behindP D (rd_T25 l3 ((l3.length - 1 : Nat) : Int)) := by
        rw [behindP, form_add]
      have h := pl_add D IH a1 A2 c2 l2 A3 c3 l3 w ht (hm rfl) h20 hbd hsz hk hr2 hc2 hr3 hc3
      rw [hp, hq]
      exact h
    · rw [form_keyvalue] at hf
      have hf := Option.some.inj hf
      simp only [Prod.mk.injEq] at hf
      obtain ⟨rfl, rfl, rfl, rfl, rfl⟩ := hf
      have hp : firstP (D + 1) ⟨b_keyvalue, a1, l2, l3⟩ = firstP D (rd_T25 l3 ((0 : Nat) : Int)) := by
        rw [firstP, form_keyvalue]
      have hq : behindP (D + 1) ⟨b_keyvalue, a1, l2, l3⟩ = behindP D (rd_T25 l3 ((l3.length - 1 : Nat) : Int)) := by
        rw [behindP, form_keyvalue]
      have h := pl_keyvalue D IH a1 A2 c2 l2 A3 c3 l3 w ht (hm rfl) h20 hbd hsz hk hr2 hc2 hr3 hc3
      rw [hp, hq]
      exact h
open Classical in
/-- impl.Span at trees of expressions. -/
noncomputable def impl_Span.f (a0_0 : ByteArray) (a0_1 : ByteArray) (l0_2 : List Int) (l0_3 : List S25) : Option (Int × Int) := if GoodP 10 ⟨a0_0, a0_1, l0_2, l0_3⟩ then some (firstP 10 ⟨a0_0, a0_1, l0_2, l0_3⟩, behindP 10 ⟨a0_0, a0_1, l0_2, l0_3⟩) else none
set_option maxHeartbeats 1000000 in
set_option maxRecDepth 100000 in
theorem impl_Span.calls (a0_0 : ByteArray) (a0_1 : ByteArray) (A0_2 : Option Addr) (c0_2 : Nat) (l0_2 : List Int) (A0_3 : Option Addr) (c0_3 : Nat) (l0_3 : List S25) (r0 : Int) (r1 : Int) (w : World) (hr0_2 : Kd.C (Kd.int .i64) w A0_2 l0_2.length l0_2) (hc0_2 : l0_2.length ≤ c0_2) (hr0_3 : Kd.C k25 w A0_3 l0_3.length l0_3) (hc0_3 : l0_3.length ≤ c0_3) (h : impl_Span.f a0_0 a0_1 l0_2 l0_3 = some (r0, r1)) :
    Calls Tryz.prog 6 #[.agg #[.string a0_0, .string a0_1, .slice A0_2 l0_2.length c0_2, .slice A0_3 l0_3.length c0_3]] w fun e w' => e = .returned (.tuple #[.int .i64 r0, .int .i64 r1]) ∧ Below w.heap.size w w' := by
  unfold impl_Span.f at h
  split at h
  next hg =>
    have h := Option.some.inj h
    simp only [Prod.mk.injEq] at h
    obtain ⟨rfl, rfl⟩ := h
    have hb := (Below.refl w.heap.size w).alloc (Nat.le_refl _) (.cells #[.string a0_0, .string a0_1, .slice A0_2 l0_2.length c0_2, .slice A0_3 l0_3.length c0_3] 25)
    have HC := Aside0.mk (placed_any 10 ⟨a0_0, a0_1, l0_2, l0_3⟩ A0_2 c0_2 A0_3 c0_3 _ hg (Kd.C_below hr0_2 hb) hc0_2 (Kd.C_below hr0_3 hb) hc0_3)
    have HB := Aside0.mk hb
    clear hg hr0_2 hr0_3 hb
    generalize firstP 10 ⟨a0_0, a0_1, l0_2, l0_3⟩ = p at HC ⊢
    generalize behindP 10 ⟨a0_0, a0_1, l0_2, l0_3⟩ = q at HC ⊢
    go_enter Tryz.func6, Tryz.ntmps6
    go_wp2_with (first
      | (go_at_call 11; refine HC.out.mono ?_; rintro e w1 ⟨v, rfl, hp, hb1⟩; obtain ⟨T, b, fp, fe, rfl, g1, g2, g3, g4, g5, g6⟩ := hp; have H5 := Aside0.mk (g5 w1 (Nat.le_refl _) (fun _ _ _ => rfl)); have H6 := Aside0.mk g6; have HB1 := Aside0.mk hb1; clear g5 g6 hb1))
    refine H5.out.mono ?_
    rintro e w2 ⟨rfl, hb2⟩
    have H7 := Aside0.mk (H6.out w2 hb2.size (fun k _ hl => hb2.block k hl))
    have HB2 := Aside0.mk hb2
    clear hb2
    go_wp2_with fail
    refine H7.out.mono ?_
    rintro e w3 ⟨rfl, hb3⟩
    have HB3 := Aside0.mk hb3
    clear hb3
    go_wp2_with fail
    go_ret2
    have h1 := HB.out.trans (HB1.out.mono HB.out.size)
    have h2 := h1.trans (HB2.out.mono h1.size)
    exact ⟨rfl, h2.trans (HB3.out.mono h2.size)⟩
  next => cases h
end Go.Proofs.YtbojpbfckgjgbaaGreat.A
