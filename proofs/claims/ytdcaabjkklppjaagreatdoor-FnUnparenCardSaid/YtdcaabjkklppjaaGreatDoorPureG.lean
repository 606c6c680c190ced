/- One byte of the list of operators. -/
import Derived.Test.YtdcaabjkklppjaaGreatDoorPureF
namespace Go.Proofs.YtdcaabjkklppjaaGreatDoor.A
open Go.RowKit Go.Proofs.YtdcaabjkklppjaaGreatDoorW.PrintWords Go.Proofs.YtdcaabjkklppjaaGreatDoorW.PrintLast Go.Proofs.YtdcaabjkklppjaaGreatDoorW.PrintMore
set_option linter.unusedVariables false
set_option linter.unusedSimpArgs false

def unL : ByteArray := ⟨#[42, 32, 45, 32, 43, 32, 33, 32, 94, 32, 38]⟩
def biL : ByteArray := ⟨#[43, 32, 45, 32, 42, 32, 47, 32, 37, 32, 38, 32, 124, 32, 94, 32, 60, 32, 62]⟩
theorem un_ops : ∀ t, t < 11 → (unL.extract t (t + 1)).data.toList = [32] ∨ ∃ c ∈ opsAt.map (·.1), (unL.extract t (t + 1)).data.toList = [c] := by decide +kernel
theorem bi_ops : ∀ t, t < 19 → (biL.extract t (t + 1)).data.toList = [32] ∨ ∃ c ∈ opsAt.map (·.1), (biL.extract t (t + 1)).data.toList = [c] := by decide +kernel
theorem un_text {p : ByteArray} (h1 : p.size = 1) (h32 : ¬ p.toList = ([32] : List UInt8)) (h : ∃ t : Nat, t + p.size ≤ unL.size ∧ (unL.extract t (t + p.size)).toList = p.toList) : OpText tokS p := by
  obtain ⟨t, ht, e⟩ := h
  rw [h1] at ht e
  have hz : unL.size = 11 := rfl
  rw [Go.Lib.toList_data] at e
  rcases un_ops t (by omega) with h | ⟨c, hc, h⟩
  · exact absurd (e.symm.trans h) h32
  · rw [(list_is p [c]).1 (e.symm.trans h)]
    exact opText_byte hc
theorem bi_text {p : ByteArray} (h1 : p.size = 1) (h32 : ¬ p.toList = ([32] : List UInt8)) (h : ∃ t : Nat, t + p.size ≤ biL.size ∧ (biL.extract t (t + p.size)).toList = p.toList) : OpText tokS p := by
  obtain ⟨t, ht, e⟩ := h
  rw [h1] at ht e
  have hz : biL.size = 19 := rfl
  rw [Go.Lib.toList_data] at e
  rcases bi_ops t (by omega) with h | ⟨c, hc, h⟩
  · exact absurd (e.symm.trans h) h32
  · rw [(list_is p [c]).1 (e.symm.trans h)]
    exact opText_byte hc
end Go.Proofs.YtdcaabjkklppjaaGreatDoor.A
