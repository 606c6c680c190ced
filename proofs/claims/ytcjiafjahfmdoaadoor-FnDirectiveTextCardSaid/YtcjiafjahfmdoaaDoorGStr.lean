/- strings.IndexFunc, TrimLeftFunc and TrimRightFunc at unicode.IsSpace, wherever the tables hold what their initialisers lay. -/
import Derived.Test.YtcjiafjahfmdoaaDoorLays
import Derived.Test.YtcjiafjahfmdoaaDoorA0
import Derived.Shelf.Strings.FuncGrows
import Derived.Shelf.Unicode.IsSpaceAny
namespace Go.Proofs.YtcjiafjahfmdoaaDoor.A
open Go.RowKit Go.Shelf Go.Lib
set_option linter.unusedVariables false

/-- The tables that the calls read. -/
structure Tabs (W : World) : Prop where
  white : Lib.WhiteTab (Tryd.lays199_ren.g 6) W
  utf8 : Lib.Utf8Tabs (Tryd.lays238_ren.g 3) (Tryd.lays238_ren.g 4) W
theorem Tabs.below {W W' : World} (h : Tabs W) (hb : Below W.heap.size W W') : Tabs W' := ⟨WhiteTab_below h.white hb, Utf8Tabs_below h.utf8 hb⟩

theorem space_grows (w : World) (h : Tabs w) : PredGrows Tryd.prog 28 #[] Lib.isSpaceR w := fun W x hx hb => by
  have h2 := Any.unicode_IsSpace_any Tryd.lays199 (x : Int) W (by omega) (by omega) (h.below hb).white
  rw [Lib.isSpaceZ_nat] at h2
  exact h2
theorem enters28 : ∀ args w, (callFunc 28 args).run Tryd.prog w = .ok (.enter 28 args) w := enters_of Tryd.func28 (by kernel_rfl) rfl

def strings_IndexFunc.f (a0 : ByteArray) : Option Int := some (Lib.idxFunc Lib.isSpaceR true a0)
theorem strings_IndexFunc.calls (a0 : ByteArray) (r : Int) (w : World) (hT : Tabs w) (h : strings_IndexFunc.f a0 = some r) :
    Calls Tryd.prog 37 #[.string a0, .func (.func 28) #[] #[]] w fun e w' => e = .returned (.int .i64 r) ∧ Below w.heap.size w w' := by
  have hr := Option.some.inj h
  subst hr
  exact Any.strings_IndexFunc_grows Tryd.laysGw15 28 #[] enters28 Lib.isSpaceR a0 w (space_grows w hT)
def strings_TrimLeftFunc.f (a0 : ByteArray) : Option ByteArray := some (Lib.trimLeftF Lib.isSpaceR a0)
theorem strings_TrimLeftFunc.calls (a0 : ByteArray) (r : ByteArray) (w : World) (hT : Tabs w) (h : strings_TrimLeftFunc.f a0 = some r) :
    Calls Tryd.prog 38 #[.string a0, .func (.func 28) #[] #[]] w fun e w' => e = .returned (.string r) ∧ Below w.heap.size w w' := by
  have hr := Option.some.inj h
  subst hr
  exact Any.strings_TrimLeftFunc_grows Tryd.lays272 28 #[] enters28 Lib.isSpaceR a0 w (space_grows w hT)
def strings_TrimRightFunc.f (a0 : ByteArray) : Option ByteArray := if a0.size ≤ 9223372036854775807 then some (Lib.trimRightF Lib.isSpaceR a0) else none
theorem strings_TrimRightFunc.calls (a0 : ByteArray) (r : ByteArray) (w : World) (hT : Tabs w) (h : strings_TrimRightFunc.f a0 = some r) :
    Calls Tryd.prog 27 #[.string a0, .func (.func 28) #[] #[]] w fun e w' => e = .returned (.string r) ∧ Below w.heap.size w w' := by
  unfold strings_TrimRightFunc.f at h
  split at h
  next hs =>
    have hr := Option.some.inj h
    subst hr
    exact Any.strings_TrimRightFunc_grows Tryd.lays238 28 #[] enters28 Lib.isSpaceR a0 w hs hT.utf8 (space_grows w hT)
  next => cases h
end Go.Proofs.YtcjiafjahfmdoaaDoor.A
