/- The operators' texts stand in the tokens' table. -/
import Derived.Test.YtdcaabjkklppjaaGreatDoorPureE
namespace Go.Proofs.YtdcaabjkklppjaaGreatDoor.A
open Go.RowKit Go.Proofs.YtdcaabjkklppjaaGreatDoorW.PrintWords Go.Proofs.YtdcaabjkklppjaaGreatDoorW.PrintLast Go.Proofs.YtdcaabjkklppjaaGreatDoorW.PrintMore
set_option linter.unusedVariables false
set_option linter.unusedSimpArgs false

theorem filled : ∀ i, i < 60 → 12 ≤ i → i ≤ 43 → (tokL.getD i []) ≠ [] := by decide +kernel
theorem opText_of {j : Nat} {s : ByteArray} (h1 : 12 ≤ j) (h2 : j ≤ 43) (h : s = tokS j) : OpText tokS s := by
  refine ⟨j, by omega, h1, h, fun i h3 h4 e => ?_⟩
  unfold tokS at e
  rw [(list_is _ _)] at e
  have := filled i (by omega) h3 (by omega)
  apply this
  have e2 : (tokL.getD i []).toArray = ([] : List UInt8).toArray := congrArg ByteArray.data e
  simpa using congrArg Array.toList e2
def opsAt : List (UInt8 × Nat) := [(33, 43), (37, 16), (38, 17), (42, 14), (43, 12), (45, 13), (47, 15), (60, 40), (62, 41), (94, 19), (124, 18)]
theorem ops_stand : ∀ x ∈ opsAt, 12 ≤ x.2 ∧ x.2 ≤ 43 ∧ tokL.getD x.2 [] = [x.1] := by decide +kernel
theorem opText_byte {c : UInt8} (h : c ∈ opsAt.map (·.1)) : OpText tokS ⟨#[c]⟩ := by
  obtain ⟨x, hx, rfl⟩ := List.mem_map.1 h
  obtain ⟨h1, h2, h3⟩ := ops_stand x hx
  refine opText_of h1 h2 ?_
  unfold tokS
  rw [h3]
end Go.Proofs.YtdcaabjkklppjaaGreatDoor.A
