/- The lines of a group's comments, without their markers, as the group's Text gathers them: the plain functions. -/
import Derived.Test.YtcjiafjahfmdoaaDoorA9
import Derived.Test.YtcjiafjahfmdoaaDoorA15
import Derived.Test.YtcjiafjahfmdoaaDoorA16
import Derived.Test.YtcjiafjahfmdoaaDoorA17
namespace Go.Proofs.YtcjiafjahfmdoaaDoor.A
open Go.RowKit Go.Proofs.YtcjiafjahfmdoaaDoorW.PrintWords Go.Proofs.YtcjiafjahfmdoaaDoorW.PrintLast Go.Proofs.YtcjiafjahfmdoaaDoorW.PrintMore
set_option linter.unusedVariables false
set_option linter.unusedSimpArgs false

mutual
def textLines.l0 : Nat → List ByteArray → List ByteArray → Int → Int → Option (List ByteArray)
  | 0, _, _, _, _ => none
  | k + 1, x6, x42, x43, x44 => if x44 < x43 then (if 0 ≤ x44 then (if x44 < (x42.length : Int) then (if 1 < ((rdOf ByteArray.empty x42 x44).size : Int) then (if (bt (rdOf ByteArray.empty x42 x44) 1) = 47 then (if 2 ≤ ((rdOf ByteArray.empty x42 x44).size : Int) then (if (((rdOf ByteArray.empty x42 x44).extract 2 (rdOf ByteArray.empty x42 x44).size).size : Int) = 0 then (textLines.j1 k x6 ((rdOf ByteArray.empty x42 x44).extract 2 (rdOf ByteArray.empty x42 x44).size) x42 x43 x44) else (if 0 < (((rdOf ByteArray.empty x42 x44).extract 2 (rdOf ByteArray.empty x42 x44).size).size : Int) then (if (bt ((rdOf ByteArray.empty x42 x44).extract 2 (rdOf ByteArray.empty x42 x44).size) 0) = 32 then (if 1 ≤ (((rdOf ByteArray.empty x42 x44).extract 2 (rdOf ByteArray.empty x42 x44).size).size : Int) then (textLines.j1 k x6 (((rdOf ByteArray.empty x42 x44).extract 2 (rdOf ByteArray.empty x42 x44).size).extract 1 ((rdOf ByteArray.empty x42 x44).extract 2 (rdOf ByteArray.empty x42 x44).size).size) x42 x43 x44) else (none)) else ((goprinter_go_ast_isDirective.f k ((rdOf ByteArray.empty x42 x44).extract 2 (rdOf ByteArray.empty x42 x44).size)).bind fun t172 => (if t172 = true then (textLines.l0 k x6 x42 x43 (wrap64 (x44 + 1))) else (textLines.j1 k x6 ((rdOf ByteArray.empty x42 x44).extract 2 (rdOf ByteArray.empty x42 x44).size) x42 x43 x44)))) else (none))) else (none)) else (if (bt (rdOf ByteArray.empty x42 x44) 1) = 42 then (if 2 ≤ (wrap64 (((rdOf ByteArray.empty x42 x44).size : Int) - 2)) then (if (wrap64 (((rdOf ByteArray.empty x42 x44).size : Int) - 2)) ≤ ((rdOf ByteArray.empty x42 x44).size : Int) then (textLines.j1 k x6 ((rdOf ByteArray.empty x42 x44).extract 2 ((wrap64 (((rdOf ByteArray.empty x42 x44).size : Int) - 2)) : Int).toNat) x42 x43 x44) else (none)) else (none)) else (textLines.j1 k x6 (rdOf ByteArray.empty x42 x44) x42 x43 x44))) else (none)) else (none)) else (none)) else (some x6)
def textLines.j1 : Nat → List ByteArray → ByteArray → List ByteArray → Int → Int → Option (List ByteArray)
  | 0, _, _, _, _, _ => none
  | k + 1, x6, x8, x42, x43, x44 => (goprinter_go_ast_zzSplit.f k x8 (⟨#[10]⟩ : ByteArray)).bind fun t173 => (textLines.l1 k x6 x42 x43 x44 t173 (t173.length : Int) 0)
def textLines.l1 : Nat → List ByteArray → List ByteArray → Int → Int → List ByteArray → Int → Int → Option (List ByteArray)
  | 0, _, _, _, _, _, _, _ => none
  | k + 1, x6, x42, x43, x44, x73, x74, x75 => if x75 < x74 then (if 0 ≤ x75 then (if x75 < (x73.length : Int) then ((goprinter_go_ast_stripTrailingWhitespace.f k (rdOf ByteArray.empty x73 x75)).bind fun t177 => (if x6.length < 8796093022208 then (textLines.l1 k (x6 ++ [t177]) x42 x43 x44 x73 x74 (wrap64 (x75 + 1))) else (none))) else (none)) else (none)) else (textLines.l0 k x6 x42 x43 (wrap64 (x44 + 1)))
end
def textLines.f (k : Nat) (l0 : List ByteArray) : Option (List ByteArray) := textLines.l0 k (([] : List ByteArray)) l0 (l0.length : Int) 0
theorem textLines.mono_l : ∀ k, (∀ y0 y1 y2 y3, LeO (textLines.l0 k y0 y1 y2 y3) (textLines.l0 (k + 1) y0 y1 y2 y3)) ∧ (∀ y0 y1 y2 y3 y4, LeO (textLines.j1 k y0 y1 y2 y3 y4) (textLines.j1 (k + 1) y0 y1 y2 y3 y4)) ∧ (∀ y0 y1 y2 y3 y4 y5 y6, LeO (textLines.l1 k y0 y1 y2 y3 y4 y5 y6) (textLines.l1 (k + 1) y0 y1 y2 y3 y4 y5 y6))
  | 0 => ⟨fun _ _ _ _ r h => by simp [textLines.l0] at h, fun _ _ _ _ _ r h => by simp [textLines.j1] at h, fun _ _ _ _ _ _ _ r h => by simp [textLines.l1] at h⟩
  | k + 1 => by
    obtain ⟨ih0, ih1, ih2⟩ := textLines.mono_l k
    refine ⟨?_, ?_, ?_⟩
    · intro y0 y1 y2 y3
      unfold textLines.l0
      repeat' first
      | (with_reducible exact ih0 _ _ _ _)
      | (with_reducible exact ih1 _ _ _ _ _)
      | (with_reducible exact ih2 _ _ _ _ _ _ _)
      | (with_reducible exact goprinter_go_ast_isDirective.mono _ _)
      | (with_reducible exact goprinter_go_ast_stripTrailingWhitespace.mono _ _)
      | (with_reducible exact goprinter_go_ast_zzSplit.mono _ _ _)
      | (with_reducible exact LeO.refl _)
      | (with_reducible exact LeO.none _)
      | (with_reducible refine LeO.ite ?_ ?_)
      | (with_reducible refine LeO.bind ?_ (fun _ => ?_))
      | exact ih0 _ _ _ _
      | exact ih1 _ _ _ _ _
      | exact ih2 _ _ _ _ _ _ _
      | exact goprinter_go_ast_isDirective.mono _ _
      | exact goprinter_go_ast_stripTrailingWhitespace.mono _ _
      | exact goprinter_go_ast_zzSplit.mono _ _ _
      | exact LeO.none _
      | refine LeO.ite ?_ ?_
      | refine LeO.bind ?_ (fun _ => ?_)
    · intro y0 y1 y2 y3 y4
      unfold textLines.j1
      repeat' first
      | (with_reducible exact ih0 _ _ _ _)
      | (with_reducible exact ih1 _ _ _ _ _)
      | (with_reducible exact ih2 _ _ _ _ _ _ _)
      | (with_reducible exact goprinter_go_ast_isDirective.mono _ _)
      | (with_reducible exact goprinter_go_ast_stripTrailingWhitespace.mono _ _)
      | (with_reducible exact goprinter_go_ast_zzSplit.mono _ _ _)
      | (with_reducible exact LeO.refl _)
      | (with_reducible exact LeO.none _)
      | (with_reducible refine LeO.ite ?_ ?_)
      | (with_reducible refine LeO.bind ?_ (fun _ => ?_))
      | exact ih0 _ _ _ _
      | exact ih1 _ _ _ _ _
      | exact ih2 _ _ _ _ _ _ _
      | exact goprinter_go_ast_isDirective.mono _ _
      | exact goprinter_go_ast_stripTrailingWhitespace.mono _ _
      | exact goprinter_go_ast_zzSplit.mono _ _ _
      | exact LeO.none _
      | refine LeO.ite ?_ ?_
      | refine LeO.bind ?_ (fun _ => ?_)
    · intro y0 y1 y2 y3 y4 y5 y6
      unfold textLines.l1
      repeat' first
      | (with_reducible exact ih0 _ _ _ _)
      | (with_reducible exact ih1 _ _ _ _ _)
      | (with_reducible exact ih2 _ _ _ _ _ _ _)
      | (with_reducible exact goprinter_go_ast_isDirective.mono _ _)
      | (with_reducible exact goprinter_go_ast_stripTrailingWhitespace.mono _ _)
      | (with_reducible exact goprinter_go_ast_zzSplit.mono _ _ _)
      | (with_reducible exact LeO.refl _)
      | (with_reducible exact LeO.none _)
      | (with_reducible refine LeO.ite ?_ ?_)
      | (with_reducible refine LeO.bind ?_ (fun _ => ?_))
      | exact ih0 _ _ _ _
      | exact ih1 _ _ _ _ _
      | exact ih2 _ _ _ _ _ _ _
      | exact goprinter_go_ast_isDirective.mono _ _
      | exact goprinter_go_ast_stripTrailingWhitespace.mono _ _
      | exact goprinter_go_ast_zzSplit.mono _ _ _
      | exact LeO.none _
      | refine LeO.ite ?_ ?_
      | refine LeO.bind ?_ (fun _ => ?_)
theorem textLines.mono : ∀ a0 k, LeO (textLines.f k a0) (textLines.f (k + 1) a0) := by
  intro a0 k
  obtain ⟨ih0, ih1, ih2⟩ := textLines.mono_l k
  unfold textLines.f
  repeat' first
      | (with_reducible exact ih0 _ _ _ _)
      | (with_reducible exact ih1 _ _ _ _ _)
      | (with_reducible exact ih2 _ _ _ _ _ _ _)
      | (with_reducible exact goprinter_go_ast_isDirective.mono _ _)
      | (with_reducible exact goprinter_go_ast_stripTrailingWhitespace.mono _ _)
      | (with_reducible exact goprinter_go_ast_zzSplit.mono _ _ _)
      | (with_reducible exact LeO.refl _)
      | (with_reducible exact LeO.none _)
      | (with_reducible refine LeO.ite ?_ ?_)
      | (with_reducible refine LeO.bind ?_ (fun _ => ?_))
      | exact ih0 _ _ _ _
      | exact ih1 _ _ _ _ _
      | exact ih2 _ _ _ _ _ _ _
      | exact goprinter_go_ast_isDirective.mono _ _
      | exact goprinter_go_ast_stripTrailingWhitespace.mono _ _
      | exact goprinter_go_ast_zzSplit.mono _ _ _
      | exact LeO.none _
      | refine LeO.ite ?_ ?_
      | refine LeO.bind ?_ (fun _ => ?_)

end Go.Proofs.YtcjiafjahfmdoaaDoor.A
