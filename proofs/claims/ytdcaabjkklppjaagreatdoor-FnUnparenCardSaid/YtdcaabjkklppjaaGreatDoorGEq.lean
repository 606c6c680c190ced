/- Equality of the values of expressions. -/
import Derived.Test.YtdcaabjkklppjaaGreatDoorGTree
import Derived.WalkSpells
namespace Go.Proofs.YtdcaabjkklppjaaGreatDoor.A
set_option linter.unusedVariables false
set_option linter.unusedSimpArgs false
theorem sameAddr_same (b : Nat) (w : World) : (sameAddr ⟨b, 0, none⟩ ⟨b, 0, none⟩).run Tryz.prog w = .ok true w := by
  unfold sameAddr
  go_simp
theorem eqd_same42 (d b : Nat) (w : World) : (Op.equalIn (d + 2) 32 (.iface 42 (.pointer (some ⟨b, 0, none⟩))) (.iface 42 (.pointer (some ⟨b, 0, none⟩)))).run Tryz.prog w = .ok true w := by
  have h1 := Tryz.underlying32
  have h2 := Tryz.underlying42
  have h3 : Tryz.t42.comparable = true := by kernel_rfl
  have h4 := Tryz.sizeOf93
  have h5 := sameAddr_same b
  simp only [Op.equalIn]
  go_simp
theorem eqd_same44 (d b : Nat) (w : World) : (Op.equalIn (d + 2) 32 (.iface 44 (.pointer (some ⟨b, 0, none⟩))) (.iface 44 (.pointer (some ⟨b, 0, none⟩)))).run Tryz.prog w = .ok true w := by
  have h1 := Tryz.underlying32
  have h2 := Tryz.underlying44
  have h3 : Tryz.t44.comparable = true := by kernel_rfl
  have h4 := Tryz.sizeOf95
  have h5 := sameAddr_same b
  simp only [Op.equalIn]
  go_simp
theorem eqd_same61 (d b : Nat) (w : World) : (Op.equalIn (d + 2) 32 (.iface 61 (.pointer (some ⟨b, 0, none⟩))) (.iface 61 (.pointer (some ⟨b, 0, none⟩)))).run Tryz.prog w = .ok true w := by
  have h1 := Tryz.underlying32
  have h2 := Tryz.underlying61
  have h3 : Tryz.t61.comparable = true := by kernel_rfl
  have h4 := Tryz.sizeOf63
  have h5 := sameAddr_same b
  simp only [Op.equalIn]
  go_simp
theorem eqd_same67 (d b : Nat) (w : World) : (Op.equalIn (d + 2) 32 (.iface 67 (.pointer (some ⟨b, 0, none⟩))) (.iface 67 (.pointer (some ⟨b, 0, none⟩)))).run Tryz.prog w = .ok true w := by
  have h1 := Tryz.underlying32
  have h2 := Tryz.underlying67
  have h3 : Tryz.t67.comparable = true := by kernel_rfl
  have h4 := Tryz.sizeOf69
  have h5 := sameAddr_same b
  simp only [Op.equalIn]
  go_simp
theorem eqd_same76 (d b : Nat) (w : World) : (Op.equalIn (d + 2) 32 (.iface 76 (.pointer (some ⟨b, 0, none⟩))) (.iface 76 (.pointer (some ⟨b, 0, none⟩)))).run Tryz.prog w = .ok true w := by
  have h1 := Tryz.underlying32
  have h2 := Tryz.underlying76
  have h3 : Tryz.t76.comparable = true := by kernel_rfl
  have h4 := Tryz.sizeOf78
  have h5 := sameAddr_same b
  simp only [Op.equalIn]
  go_simp
theorem eqd_same79 (d b : Nat) (w : World) : (Op.equalIn (d + 2) 32 (.iface 79 (.pointer (some ⟨b, 0, none⟩))) (.iface 79 (.pointer (some ⟨b, 0, none⟩)))).run Tryz.prog w = .ok true w := by
  have h1 := Tryz.underlying32
  have h2 := Tryz.underlying79
  have h3 : Tryz.t79.comparable = true := by kernel_rfl
  have h4 := Tryz.sizeOf83
  have h5 := sameAddr_same b
  simp only [Op.equalIn]
  go_simp
theorem eqd_same84 (d b : Nat) (w : World) : (Op.equalIn (d + 2) 32 (.iface 84 (.pointer (some ⟨b, 0, none⟩))) (.iface 84 (.pointer (some ⟨b, 0, none⟩)))).run Tryz.prog w = .ok true w := by
  have h1 := Tryz.underlying32
  have h2 := Tryz.underlying84
  have h3 : Tryz.t84.comparable = true := by kernel_rfl
  have h4 := Tryz.sizeOf86
  have h5 := sameAddr_same b
  simp only [Op.equalIn]
  go_simp
theorem eqd_same87 (d b : Nat) (w : World) : (Op.equalIn (d + 2) 32 (.iface 87 (.pointer (some ⟨b, 0, none⟩))) (.iface 87 (.pointer (some ⟨b, 0, none⟩)))).run Tryz.prog w = .ok true w := by
  have h1 := Tryz.underlying32
  have h2 := Tryz.underlying87
  have h3 : Tryz.t87.comparable = true := by kernel_rfl
  have h4 := Tryz.sizeOf89
  have h5 := sameAddr_same b
  simp only [Op.equalIn]
  go_simp
theorem eqd_same {T : Nat} (hT : OkT T) (d b : Nat) (w : World) : (Op.equalIn (d + 2) 32 (.iface T (.pointer (some ⟨b, 0, none⟩))) (.iface T (.pointer (some ⟨b, 0, none⟩)))).run Tryz.prog w = .ok true w := by
  simp only [OkT, List.mem_cons, List.mem_nil_iff, or_false] at hT
  rcases hT with rfl | rfl | rfl | rfl | rfl | rfl | rfl | rfl
  · exact eqd_same42 d b w
  · exact eqd_same44 d b w
  · exact eqd_same61 d b w
  · exact eqd_same67 d b w
  · exact eqd_same76 d b w
  · exact eqd_same79 d b w
  · exact eqd_same84 d b w
  · exact eqd_same87 d b w
theorem eqd_ne (d T : Nat) (hT : ¬ T = 35) (b e : Nat) (w : World) : (Op.equalIn (d + 2) 32 (.iface 35 (.pointer (some ⟨b, 0, none⟩))) (.iface T (.pointer (some ⟨e, 0, none⟩)))).run Tryz.prog w = .ok false w := by
  have h1 := Tryz.underlying32
  have hT' : ¬ 35 = T := fun h => hT h.symm
  simp only [Op.equalIn]
  go_simp
end Go.Proofs.YtdcaabjkklppjaaGreatDoor.A
