/- walker.Visit, and impl.Walked by the contract of ast.Walk. -/
import Derived.Test.YtdcaabjkklppjaaGreatFmtGInr
namespace Go.Proofs.YtdcaabjkklppjaaGreatFmt.A
open Go.RowKit Go.Proofs.YtdcaabjkklppjaaGreatFmtW.PrintWords Go.Proofs.YtdcaabjkklppjaaGreatFmtW.PrintLast Go.Proofs.YtdcaabjkklppjaaGreatFmtW.PrintMore
set_option linter.unusedVariables false
set_option linter.unusedSimpArgs false
attribute [local go_sem ↓] Go.wp_at_zero Go.wp_at_succ

theorem Seen.keep {W W' : World} {v : Value} {k t : ByteArray} (h : Seen W v k t) (hb : Below W.heap.size W W') : Seen W' v k t := by
  have hc : ∀ {a : Addr} {u : Value}, W.cell? a = some u → W'.cell? a = some u := fun h => (hb.cell (World.block_lt_of_cell? W _ h)).trans h
  cases h with
  | nil => exact .nil
  | name b t h => exact .name b t (hc h)
  | lit b t h => exact .lit b t (hc h)
  | paren b => exact .paren b
  | sel b => exact .sel b
  | idx b => exact .idx b
  | star b => exact .star b
  | un b => exact .un b
  | bin b => exact .bin b
  | call b => exact .call b
theorem Seen.alloc {W : World} {v : Value} {k t : ByteArray} (h : Seen W v k t) (o : Obj) : Seen (W.alloc o) v k t := h.keep ((Below.refl _ _).alloc (Nat.le_refl _) o)
theorem grown_drew {W w8 : World} {r : Option Nat} (h : W.drew.grownBy w8 r) : W.grownBy w8 r := ⟨h.os, h.tape, h.output, h.size, h.block⟩
theorem drew_al (w : World) (o : Obj) : (w.alloc o).drew = w.drew.alloc o := rfl
theorem below_undrew {B : Nat} {w w' : World} (h : Below B w.drew w') : Below B w w' := ⟨h.os, h.tape, h.output, h.size, h.block⟩
theorem meth51 (f : Value) (w : World) : (method 429 51 f "Visit").run Tryz.prog w = .ok (98, f) w := by kernel_rfl
theorem call98 (args : Array Value) (w : World) : (callFunc 98 args).run Tryz.prog w = .ok (.enter 98 args) w := by kernel_rfl
/-- The walker's value. -/
abbrev wV (Po : Nat) (skip : ByteArray) (d : Int) : Value := .agg #[.pointer (some ⟨Po, 0, none⟩), .int .i64 d, .string skip]
end Go.Proofs.YtdcaabjkklppjaaGreatFmt.A
