/- impl.exprOf at every tree of an expression; ast.Unparen and impl.Unparened. -/
import Derived.Test.YtdcaabjkklppjaaGreatDoorGTrec
import Derived.Test.YtdcaabjkklppjaaGreatDoorGTree2
namespace Go.Proofs.YtdcaabjkklppjaaGreatDoor.A
open Go.RowKit Go.Proofs.YtdcaabjkklppjaaGreatDoorW.PrintWords Go.Proofs.YtdcaabjkklppjaaGreatDoorW.PrintLast Go.Proofs.YtdcaabjkklppjaaGreatDoorW.PrintMore
set_option linter.unusedVariables false
set_option linter.unusedSimpArgs false
attribute [local go_sem ↓] Go.wp_at_zero Go.wp_at_succ




theorem expr_all (S : Nat → ByteArray) : ∀ D, ExprC S D
  | 0 => fun n A c w hg hr hc hT => hg.elim
  | D + 1 => by
    have IH := expr_all S D
    intro n A c w hg hr hc hT
    obtain ⟨f0, f1, f2⟩ := n
    obtain ⟨hk, hkids⟩ := hg
    have other : f0 ≠ bParen → ∀ (T : Nat), OkT T → (Calls Tryz.prog 10 #[.agg #[.string f0, .string f1, .slice A f2.length c]] w fun e w' => ∃ b, e = .returned (.iface T (.pointer (some ⟨b, 0, none⟩))) ∧ Below w.heap.size w w') →
        Calls Tryz.prog 10 #[.agg #[.string f0, .string f1, .slice A f2.length c]] w fun e w' => ∃ v, e = .returned v ∧ Chain w' (D + 1) ⟨f0, f1, f2⟩ v ∧ Below w.heap.size w w' := by
      intro hne T hT h
      refine h.mono ?_
      rintro e w' ⟨b, rfl, hb⟩
      refine ⟨_, rfl, ?_, hb⟩
      unfold Chain
      rw [if_neg hne]
      exact ⟨T, b, rfl, hT⟩
    have kid : ∀ i : Nat, ¬ (f0 = bName ∨ f0 = bInt) → i < f2.length → Good S D (rd_T24 f2 (i : Int)) := fun i hn hi => hkids.resolve_left hn i hi
    rcases hk with h | h | ⟨h, hl⟩ | ⟨h, hl⟩ | ⟨h, hop, hl⟩ | ⟨h, hop, hl⟩ | ⟨h, hl⟩ | ⟨h, hl, hm⟩
    · have h : f0 = bName := h
      subst h
      exact other (by decide +kernel) 42 (by decide) (expr_name f1 A _ c w)
    · have h : f0 = bInt := h
      subst h
      exact other (by decide +kernel) 44 (by decide) (expr_int f1 A _ c w)
    · have h : f0 = bParen := h
      have hl : f2.length = 1 := hl
      subst h
      refine (expr_paren S D IH f1 A c f2 w hl (kid 0 (by decide +kernel) (by omega)) hr hc hT).mono ?_
      rintro e w' ⟨b, v', rfl, h1, h2, h3⟩
      refine ⟨_, rfl, ?_, h3⟩
      unfold Chain
      rw [if_pos rfl]
      exact ⟨b, v', rfl, h1, h2⟩
    · have h : f0 = bSel := h
      have hl : f2.length = 1 := hl
      subst h
      exact other (by decide +kernel) 61 (by decide) (expr_sel S D IH f1 A c f2 w hl (kid 0 (by decide +kernel) (by omega)) hr hc hT)
    · have h : f0 = bUn := h
      have hl : f2.length = 1 := hl
      have hop : OpText S f1 := hop
      subst h
      by_cases hs : f1.toList = ([42] : List UInt8)
      · have e : f1 = ⟨#[42]⟩ := by
          rw [Go.Lib.toList_data] at hs
          cases f1 with
          | mk d => cases d with
            | mk l => simp at hs; rw [hs]
        subst e
        exact other (by decide +kernel) 76 (by decide) (expr_star S D IH A c f2 w hl (kid 0 (by decide +kernel) (by omega)) hr hc hT)
      · exact other (by decide +kernel) 79 (by decide) (expr_un S D IH f1 A c f2 w hop hs hl (kid 0 (by decide +kernel) (by omega)) hr hc hT)
    · have h : f0 = bBin := h
      have hl : f2.length = 2 := hl
      have hop : OpText S f1 := hop
      subst h
      exact other (by decide +kernel) 84 (by decide) (expr_bin S D IH f1 A c f2 w hop hl (kid 0 (by decide +kernel) (by omega)) (kid 1 (by decide +kernel) (by omega)) hr hc hT)
    · have h : f0 = bIdx := h
      have hl : f2.length = 2 := hl
      subst h
      exact other (by decide +kernel) 67 (by decide) (expr_idx S D IH f1 A c f2 w hl (kid 0 (by decide +kernel) (by omega)) (kid 1 (by decide +kernel) (by omega)) hr hc hT)
    · have h : f0 = bCall := h
      have hl : 1 ≤ f2.length := hl
      have hm : f2.length ≤ 1000000 := hm
      subst h
      exact other (by decide +kernel) 87 (by decide) (expr_call S D IH f1 A c f2 w hl hm (fun i hi => kid i (by decide +kernel) hi) hr hc hT)
end Go.Proofs.YtdcaabjkklppjaaGreatDoor.A
