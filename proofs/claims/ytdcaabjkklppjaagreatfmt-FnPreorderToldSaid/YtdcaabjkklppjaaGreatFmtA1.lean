-- Written by a program of this session (gprint.py) out of the kit's print of the translation. Not trusted: Lean checks it.
import Derived.Test.YtdcaabjkklppjaaGreatFmtA0
namespace Go.Proofs.YtdcaabjkklppjaaGreatFmt.A
open Go.RowKit Go.Proofs.YtdcaabjkklppjaaGreatFmtW.PrintWords Go.Proofs.YtdcaabjkklppjaaGreatFmtW.PrintLast Go.Proofs.YtdcaabjkklppjaaGreatFmtW.PrintMore
attribute [local go_sem] max2_int min2_int max_two min_two max_three min_three max_four min_four   -- for this text's walks alone
set_option linter.unusedVariables false
set_option linter.unusedSimpArgs false

theorem eqA29 (d : Nat) (w : World) (x0 y0 : ByteArray) (x1 y1 : ByteArray) (x2 y2 : Int) :
    (Op.equalIn (d + 2) 29 (.agg #[.string x0, .string x1, .int .i64 x2]) (.agg #[.string y0, .string y1, .int .i64 y2])).run Tryz.prog w = .ok (x0.toList == y0.toList && (x1.toList == y1.toList && (x2 == y2))) w := by
  refine eqA_of Tryz.underlying29 (by kernel_rfl) ?_
  refine eqf_cons (by rfl) (by go_simp; rfl) (by go_simp; rfl) (by go_simp) ?_
  refine eqf_cons (by rfl) (by go_simp; rfl) (by go_simp; rfl) (by go_simp) ?_
  exact eqf_last (by rfl) (by go_simp; rfl) (by go_simp; rfl) (by go_simp)
end Go.Proofs.YtdcaabjkklppjaaGreatFmt.A
