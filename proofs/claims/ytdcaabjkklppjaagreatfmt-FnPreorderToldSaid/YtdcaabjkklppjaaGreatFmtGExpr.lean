/- impl.exprOf at trees of expressions. -/
import Derived.Test.YtdcaabjkklppjaaGreatFmtA2
import Derived.WalkSpells
import Derived.Deep.RegionLaw
import Derived.Deep.DrawnRows
import Derived.Deep.RegionWith
namespace Go.Proofs.YtdcaabjkklppjaaGreatFmt.A
open Go.RowKit Go.Proofs.YtdcaabjkklppjaaGreatFmtW.PrintWords Go.Proofs.YtdcaabjkklppjaaGreatFmtW.PrintLast Go.Proofs.YtdcaabjkklppjaaGreatFmtW.PrintMore
set_option linter.unusedVariables false
set_option linter.unusedSimpArgs false
attribute [local go_sem ↓] Go.wp_at_zero Go.wp_at_succ

set_option maxHeartbeats 400000 in
set_option maxRecDepth 100000 in
theorem newIdent_any (s : ByteArray) (w : World) :
    Calls Tryz.prog 28 #[.string s] w fun e w' => ∃ b, e = .returned (.pointer (some ⟨b, 0, none⟩)) ∧ w'.cell? ⟨b, 1, none⟩ = some (.string s) ∧ w.heap.size ≤ b ∧ Below w.heap.size w w' := by
  go_enter Tryz.func28, Tryz.ntmps28
  go_wp2
  go_ret
  exact ⟨_, rfl, (blk_cell (heap_alloc_new w _) 1).trans rfl, Nat.le_refl _, (Below.refl _ _).alloc (Nat.le_refl _) _⟩

set_option maxHeartbeats 400000 in
set_option maxRecDepth 100000 in
theorem literal_any (t : ByteArray) (A : Option Addr) (n c : Nat) (w : World) :
    Calls Tryz.prog 47 #[.agg #[.string ⟨#[105, 110, 116]⟩, .string t, .slice A n c]] w fun e w' => ∃ b, e = .returned (.pointer (some ⟨b, 0, none⟩)) ∧ w'.cell? ⟨b, 3, none⟩ = some (.string t) ∧ w.heap.size ≤ b ∧ Below w.heap.size w w' := by
  go_enter Tryz.func47, Tryz.ntmps47
  go_wp2
  go_ret
  have h3 := (blk_cell (heap_alloc_new (w.alloc (Obj.cells #[Value.string { data := #[105, 110, 116] }, Value.string t, Value.slice A n c] 24)) (Obj.cells #[Value.int IntKind.i64 0, Value.int IntKind.i64 0, Value.int IntKind.i64 5, Value.string t] 73)) 3)
  have e3 : (w.alloc (Obj.cells #[Value.string { data := #[105, 110, 116] }, Value.string t, Value.slice A n c] 24)).heap.size = w.heap.size + 1 := Array.size_push _
  rw [e3] at h3
  exact ⟨_, rfl, h3, by simp, ((Below.refl _ _).alloc (Nat.le_refl _) _).alloc (by simp) _⟩

/-- The tokens' texts, as the variable holds them. -/
def TokTab (S : Nat → ByteArray) (W : World) : Prop := ∀ i, i < 89 → W.cell? ⟨0, i, none⟩ = some (.string (S i))
theorem TokTab.below {S : Nat → ByteArray} {W W' : World} (h : TokTab S W) (hb : Below W.heap.size W W') : TokTab S W' := fun i hi => (hb.cell (World.block_lt_of_cell? W _ (h i hi))).trans (h i hi)

set_option maxHeartbeats 400000 in
set_option maxRecDepth 100000 in
theorem tokenString_any (S : Nat → ByteArray) (i : Nat) (hi : i < 89) (hne : ¬ (S i).toList = ([] : List UInt8)) (w : World) (hT : TokTab S w) :
    Calls Tryz.prog 55 #[.int .i64 (i : Int)] w fun e w' => e = .returned (.string (S i)) ∧ w' = w := by
  have hc := hT i hi
  have h0 : (0 : Int) ≤ (i : Int) := by omega
  have h1 : (i : Int) < 89 := by omega
  have h2 : ((S i).toList == ([] : List UInt8)) = false := beq_eq_false_iff_ne.2 hne
  go_enter Tryz.func55, Tryz.ntmps55
  go_wp2
  go_ret
  exact ⟨rfl, rfl⟩

set_option maxHeartbeats 400000 in
set_option maxRecDepth 100000 in
theorem tokenOf_any (S : Nat → ByteArray) (j : Nat) (hj : j < 89) (h12 : 12 ≤ j) (hne : ∀ i, 12 ≤ i → i ≤ j → ¬ (S i).toList = ([] : List UInt8)) (w : World) (hT : TokTab S w) :
    Calls Tryz.prog 51 #[.string (S j)] w fun e w' => ∃ t : Int, e = .returned (.int .i64 t) ∧ w' = w := by
  have HT := Aside0.mk hT
  have HNE := Aside0.mk hne
  clear hT hne
  go_enter Tryz.func51, Tryz.ntmps51
  go_wp2
  go_loopg [3] (j + 1) (fun kq v3 w' => ∃ i : Nat, v3 = .int .i64 (i : Int) ∧ 12 ≤ i ∧ i ≤ j ∧ Hid (kq + i = j + 13) ∧ w' = w)
  case atStart => exact ⟨12, rfl, Nat.le_refl _, h12, by show _ = _; omega, rfl⟩
  case round =>
    obtain ⟨i, rfl, h0, h1, HM, rfl⟩ := hrel
    have hle : (i : Int) ≤ 88 := by omega
    have hstr := tokenString_any S i (by omega) (HNE.out i h0 h1) _ HT.out
    by_cases he : (S i).toList = (S j).toList
    · have heb : ((S i).toList == (S j).toList) = true := beq_iff_eq.2 he
      go_wp2_with (first | (go_at_call 55; refine hstr.mono ?_; rintro e w' ⟨rfl, rfl⟩))
      go_ret
      exact ⟨_, rfl, rfl⟩
    · have heb : ((S i).toList == (S j).toList) = false := beq_eq_false_iff_ne.2 he
      have hij : i < j := by
        rcases Nat.lt_or_ge i j with h | h
        · exact h
        · exact absurd (by rw [show i = j by omega]) he
      go_wp2_with (first | (go_at_call 55; refine hstr.mono ?_; rintro e w' ⟨rfl, rfl⟩))
      go_roundg (gk - 1)
      case measure => have := HM.out; omega
      case rel => exact ⟨i + 1, by go_num, by omega, by omega, by have := HM.out; show _ = _; omega, rfl⟩
end Go.Proofs.YtdcaabjkklppjaaGreatFmt.A
