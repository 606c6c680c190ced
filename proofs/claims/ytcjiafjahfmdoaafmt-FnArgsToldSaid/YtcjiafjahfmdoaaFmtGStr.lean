/- strings.IndexFunc, TrimLeftFunc at unicode.IsSpace, wherever the tables hold what their initialisers lay. -/
import Derived.Test.YtcjiafjahfmdoaaFmtLays
import Derived.Test.YtcjiafjahfmdoaaFmtGUqa
import Derived.Shelf.Strings.FuncGrows
import Derived.Shelf.Unicode.IsSpaceAny
namespace Go.Proofs.YtcjiafjahfmdoaaFmt.A
open Go.RowKit Go.Shelf Go.Lib
set_option linter.unusedVariables false

theorem space_grows (w : World) (h : Tabs w) : PredGrows Tryf.prog 28 #[] Lib.isSpaceR w := fun W x hx hb => by
  have h2 := Any.unicode_IsSpace_any Tryf.lays199 (x : Int) W (by omega) (by omega) (h.below hb).white
  rw [Lib.isSpaceZ_nat] at h2
  exact h2
theorem enters28 : ∀ args w, (callFunc 28 args).run Tryf.prog w = .ok (.enter 28 args) w := enters_of Tryf.func28 (by kernel_rfl) rfl

def strings_IndexFunc.f (a0 : ByteArray) : Option Int := some (Lib.idxFunc Lib.isSpaceR true a0)
theorem strings_IndexFunc.calls (a0 : ByteArray) (r : Int) (w : World) (hT : Tabs w) (h : strings_IndexFunc.f a0 = some r) :
    Calls Tryf.prog 32 #[.string a0, .func (.func 28) #[] #[]] w fun e w' => e = .returned (.int .i64 r) ∧ Below w.heap.size w w' := by
  have hr := Option.some.inj h
  subst hr
  exact Any.strings_IndexFunc_grows Tryf.laysGw15 28 #[] enters28 Lib.isSpaceR a0 w (space_grows w hT)
def strings_TrimLeftFunc.f (a0 : ByteArray) : Option ByteArray := some (Lib.trimLeftF Lib.isSpaceR a0)
theorem strings_TrimLeftFunc.calls (a0 : ByteArray) (r : ByteArray) (w : World) (hT : Tabs w) (h : strings_TrimLeftFunc.f a0 = some r) :
    Calls Tryf.prog 30 #[.string a0, .func (.func 28) #[] #[]] w fun e w' => e = .returned (.string r) ∧ Below w.heap.size w w' := by
  have hr := Option.some.inj h
  subst hr
  exact Any.strings_TrimLeftFunc_grows Tryf.lays272 28 #[] enters28 Lib.isSpaceR a0 w (space_grows w hT)
end Go.Proofs.YtcjiafjahfmdoaaFmt.A
