/- What the arguments' loop calls: strconv.QuotedPrefix, strconv.Unquote, utf8.DecodeRuneInString, unicode.IsSpace, at plain texts. -/
import Derived.Test.YtcjiafjahfmdoaaFmtGUqf
import Derived.Test.YtcjiafjahfmdoaaFmtGStr
namespace Go.Proofs.YtcjiafjahfmdoaaFmt.A
set_option linter.unusedVariables false
set_option linter.unusedSimpArgs false
open Go.RowKit Go.Shelf Go.Proofs.YtcjiafjahfmdoaaFmtW.PrintWords Go.Proofs.YtcjiafjahfmdoaaFmtW.PrintLast Go.Proofs.YtcjiafjahfmdoaaFmtW.PrintMore

/-- A text that begins with a quote, of plain bytes, all its escapes told. -/
def QT (l : List UInt8) : Prop := ∃ c x, l = c :: x ∧ (c = 34 ∨ c = 96) ∧ Asc x ∧ (c = 34 → ToldAll (x.length + 1) x) ∧ x.length + 1 ≤ 1000000000

open Classical in
noncomputable def strconv_QuotedPrefix.f (s : ByteArray) : Option (ByteArray × Bool) :=
  if QT s.data.toList then (match qp s.data.toList with | some (_, z) => some (s.extract 0 (s.size - z.length), false) | none => some (⟨#[]⟩, true)) else none
open Classical in
noncomputable def strconv_Unquote.f (s : ByteArray) : Option (ByteArray × Bool) :=
  if QT s.data.toList then (match qp s.data.toList with | some (o, []) => some (⟨o.toArray⟩, false) | _ => none) else none
def utf8_DecodeRuneInString.f (s : ByteArray) : Option (Int × Int) :=
  match s.data.toList[0]? with | some x => if x.toNat < 128 then some ((x.toNat : Int), 1) else none | none => none
def unicode_IsSpace.f (x : Int) : Option Bool := if 0 ≤ x ∧ x < 128 then some (Lib.isSpaceR x.toNat) else none

theorem size_list (s : ByteArray) : s.size = s.data.toList.length := by rw [ByteArray.size]; simp

theorem strconv_QuotedPrefix.calls0 (s r : ByteArray) (w : World) (hT : Tabs w) (h : strconv_QuotedPrefix.f s = some (r, false)) :
    Calls Tryf.prog 23 #[.string s] w fun e w' => e = .returned (.tuple #[.string r, .nilIface]) ∧ Below w.heap.size w w' := by
  unfold strconv_QuotedPrefix.f at h
  split at h
  next hq =>
    obtain ⟨c, x, hl, hc, hA, hTo, hs⟩ := hq
    have hsz : s.size = x.length + 1 := by rw [size_list, hl]; rfl
    have hp := prefix_any s s.data.toList s.size rfl rfl (by omega) c x hl hc hA (by rw [hsz]; exact hTo) w hT
    cases hq : qp s.data.toList with
    | none => rw [hq] at h; simp at h
    | some oz =>
      obtain ⟨o, z⟩ := oz
      rw [hq] at h hp
      simp only [Option.some.injEq, Prod.mk.injEq, and_true] at h
      subst h
      exact hp
  next => cases h
theorem strconv_QuotedPrefix.calls1 (s r : ByteArray) (w : World) (hT : Tabs w) (h : strconv_QuotedPrefix.f s = some (r, true)) :
    Calls Tryf.prog 23 #[.string s] w fun e w' => (∃ p, e = .returned (.tuple #[.string r, .iface 85 (.pointer (some p))])) ∧ Below w.heap.size w w' := by
  unfold strconv_QuotedPrefix.f at h
  split at h
  next hq =>
    obtain ⟨c, x, hl, hc, hA, hTo, hs⟩ := hq
    have hsz : s.size = x.length + 1 := by rw [size_list, hl]; rfl
    have hp := prefix_any s s.data.toList s.size rfl rfl (by omega) c x hl hc hA (by rw [hsz]; exact hTo) w hT
    cases hq : qp s.data.toList with
    | some oz => rw [hq] at h; simp at h
    | none =>
      rw [hq] at h hp
      simp only [Option.some.injEq, Prod.mk.injEq, and_true] at h
      subst h
      exact hp
  next => cases h
theorem strconv_Unquote.calls (s r : ByteArray) (b : Bool) (w : World) (hT : Tabs w) (h : strconv_Unquote.f s = some (r, b)) :
    Calls Tryf.prog 25 #[.string s] w fun e w' => e = .returned (.tuple #[.string r, .nilIface]) ∧ Below w.heap.size w w' := by
  unfold strconv_Unquote.f at h
  split at h
  next hq =>
    obtain ⟨c, x, hl, hc, hA, hTo, hs⟩ := hq
    have hsz : s.size = x.length + 1 := by rw [size_list, hl]; rfl
    split at h
    next o hqq =>
      simp only [Option.some.injEq, Prod.mk.injEq] at h
      obtain ⟨rfl, -⟩ := h
      exact unquote_any s s.data.toList s.size rfl rfl (by omega) c x hl hc hA (by rw [hsz]; exact hTo) o hqq w hT
    next => cases h
  next => cases h
theorem utf8_DecodeRuneInString.calls (s : ByteArray) (r1 r2 : Int) (w : World) (h : utf8_DecodeRuneInString.f s = some (r1, r2)) :
    Calls Tryf.prog 27 #[.string s] w fun e w' => e = .returned (.tuple #[.int .i32 r1, .int .i64 r2]) ∧ Below w.heap.size w w' := by
  unfold utf8_DecodeRuneInString.f at h
  split at h
  next x hx =>
    split at h
    next h1 =>
      simp only [Option.some.injEq, Prod.mk.injEq] at h
      obtain ⟨rfl, rfl⟩ := h
      exact (decode_any s x w hx h1).mono fun e w' ⟨he, hw⟩ => ⟨he, by subst hw; exact Below.refl _ _⟩
    next => cases h
  next => cases h
theorem unicode_IsSpace.calls (x : Int) (r : Bool) (w : World) (hT : Tabs w) (h : unicode_IsSpace.f x = some r) :
    Calls Tryf.prog 28 #[.int .i32 x] w fun e w' => e = .returned (.bool r) ∧ Below w.heap.size w w' := by
  unfold unicode_IsSpace.f at h
  split at h
  next h1 =>
    have := Option.some.inj h
    subst this
    have hx : ((x.toNat : Nat) : Int) = x := by omega
    have h2 := Any.unicode_IsSpace_any Tryf.lays199 (x.toNat : Int) w (by omega) (by omega) hT.white
    rw [Lib.isSpaceZ_nat] at h2
    rw [hx] at h2
    exact h2
  next => cases h
end Go.Proofs.YtcjiafjahfmdoaaFmt.A
