/- The walks of FnExported: both sides answer whether the first rune is a capital letter, wherever the four tables hold what their initialisers lay. -/
import Derived.Test.YteaelkeiocogfaaDoorLays
import Derived.Test.YteaelkeiocogfaaDoorCards
import Derived.Shelf.Unicode.PredsPay
import Derived.Shelf.Unicode.DecodeAny
import Derived.Lib.LaidU8
import Derived.Lib.LaidTab
import Derived.WalkKit
import Derived.WalkMore
import Derived.Below
namespace Go.Proofs.YteaelkeiocogfaaDoor.fnExported
open Go.Shelf Go.Lib Go.RowKit
set_option linter.unusedVariables false

theorem gProps : Tryd.prog.globalNamed "unicode.properties" = some (Tryd.lays201_ren.g 7) := by kernel_rfl

/-- The tables that the call reads. -/
structure Tabs (W : World) : Prop where
  props : Lib.TabIs Tryd.prog W "unicode.properties" .u8 Lib.propertiesTab
  upper : RVar (Tryd.lays201_ren.g 9) upperT W
  utf8 : Lib.Utf8Tabs (Tryd.lays197_ren.g 3) (Tryd.lays197_ren.g 4) W

theorem Tabs.below {W W' : World} (h : Tabs W) (hb : Below W.heap.size W W') : Tabs W' :=
  ⟨TabIs_below gProps h.props hb, RVar_below h.upper hb, Utf8Tabs_below h.utf8 hb⟩

/-- The answer: the first rune is a capital letter. -/
def capB (s : ByteArray) : Bool := isUpperU ((Lib.decodeGo s).1 : Int)

theorem decode_bounds (s : ByteArray) : (-2147483648 : Int) ≤ ((Lib.decodeGo s).1 : Int) ∧ ((Lib.decodeGo s).1 : Int) ≤ 2147483647 := by
  unfold Lib.decodeGo
  split
  · exact ⟨by decide, by decide⟩
  · have := decode_le s 0
    omega

theorem decode_call (s : ByteArray) (w : World) (h : Tabs w) :
    Calls Tryd.prog 10 #[.string s] w fun e w' => e = .returned (.tuple #[.int .i32 (Lib.decodeGo s).1, .int .i64 (Lib.decodeGo s).2]) ∧ Below w.heap.size w w' :=
  Any.utf8_DecodeRuneInString Tryd.lays197 s w h.utf8
theorem upper_call (r : Int) (w : World) (h : Tabs w) (h0 : -2147483648 ≤ r) (h1 : r ≤ 2147483647) :
    Calls Tryd.prog 7 #[.int .i32 r] w fun e w' => e = .returned (.bool (isUpperU r)) ∧ Below w.heap.size w w' :=
  Any.unicode_IsUpper_all Tryd.lays201 gProps r w h0 h1 h.props h.upper

theorem token_call (s : ByteArray) (w : World) (h : Tabs w) :
    Calls Tryd.prog 8 #[.string s] w fun e w' => e = .returned (.bool (capB s)) ∧ Below w.heap.size w w' := by
  have hd := decode_call s w h
  have hb := decode_bounds s
  have hu := fun w' (h' : Tabs w') => upper_call ((Lib.decodeGo s).1 : Int) w' h' hb.1 hb.2
  have hc : isUpperU ((Lib.decodeGo s).1 : Int) = capB s := rfl
  generalize ((Lib.decodeGo s).1 : Int) = R at hd hu hc
  generalize ((Lib.decodeGo s).2 : Int) = K at hd
  go_enter Tryd.func8, Tryd.ntmps8
  go_wp2_with (first
    | (go_at_call 10; refine hd.mono ?_; rintro e w1 ⟨rfl, hb1⟩; have hu1 := hu w1 (h.below hb1))
    | (go_at_call 7; refine hu1.mono ?_; rintro e w2 ⟨rfl, hb2⟩))
  go_ret
  exact ⟨rfl, hb1.trans (hb2.mono hb1.size)⟩

theorem ast_call (s : ByteArray) (w : World) (h : Tabs w) :
    Calls Tryd.prog 6 #[.string s] w fun e w' => e = .returned (.bool (capB s)) ∧ Below w.heap.size w w' := by
  have hd := token_call s w h
  go_enter Tryd.func6, Tryd.ntmps6
  go_wp2_with (go_at_call 8; refine hd.mono ?_; rintro e w1 ⟨rfl, hb1⟩)
  go_ret
  exact ⟨rfl, hb1⟩

theorem impl_call (s : ByteArray) (w : World) (h : Tabs w) :
    Calls Tryd.prog 4 #[.string s] w fun e w' => e = .returned (.bool (capB s)) ∧ Below w.heap.size w w' := by
  have hd := ast_call s w h
  go_enter Tryd.func4, Tryd.ntmps4
  go_wp2_with (go_at_call 6; refine hd.mono ?_; rintro e w1 ⟨rfl, hb1⟩)
  go_ret
  exact ⟨rfl, hb1⟩

theorem cap_empty (s : ByteArray) (h : ¬ 0 < s.size) : capB s = false := by
  unfold capB Lib.decodeGo
  rw [if_pos (by omega)]
  kernel_rfl

theorem iter_below (w : World) (s : ByteArray) (p : Nat) : Below w.heap.size w (w.iter s p) := (Below.refl _ _).alloc (Nat.le_refl _) _

theorem spec_call (s : ByteArray) (w : World) (h : Tabs w) :
    Calls Tryd.prog 5 #[.string s] w fun e w' => e = .returned (.bool (capB s)) ∧ Below w.heap.size w w' := by
  by_cases hp : 0 < s.size
  · have hnx : ∀ ty, (Instr.next (.pointer (some ⟨w.heap.size, 0, none⟩)) true ty).run Tryd.prog (w.iter s 0) = _ := fun ty => run_next_any w s 0 ty hp
    have hb := decode_bounds s
    have hc : isUpperU ((Lib.decodeGo s).1 : Int) = capB s := rfl
    have hdg : Lib.decodeGo s = Utf8.decode s 0 := by unfold Lib.decodeGo; rw [if_neg (by omega)]
    rw [hdg] at hb hc
    have hu := fun p => upper_call ((Utf8.decode s 0).1 : Int) (w.iter s p) (h.below (iter_below w s p)) hb.1 hb.2
    go_enter Tryd.func5, Tryd.ntmps5
    go_wp2
    go_loopw [7] (fun _ w' => w' = w.iter s 0) (fun _ _ => 0)
    case atStart => rfl
    case round =>
      subst hrel
      go_wp2_with (go_at_call 7; refine (hu _).mono ?_; rintro e w2 ⟨rfl, hb2⟩)
      go_ret
      exact ⟨rfl, (iter_below w s _).trans (hb2.mono (by simp [World.iter]))⟩
  · have hnx : ∀ ty, (Instr.next (.pointer (some ⟨w.heap.size, 0, none⟩)) true ty).run Tryd.prog (w.iter s 0) = _ := fun ty => run_next_end w s 0 ty hp
    go_enter Tryd.func5, Tryd.ntmps5
    go_wp2
    go_loopw [7] (fun _ w' => w' = w.iter s 0) (fun _ _ => 0)
    case atStart => rfl
    case round =>
      subst hrel
      go_wp2
      go_ret
      exact ⟨by rw [cap_empty s hp]; rfl, iter_below w s _⟩

theorem walk (s : ByteArray) (w : World) (h : Tabs w) :
    Calls Tryd.prog 3 #[.string s] w fun e w' => e = .returned (.bool true) ∧ Below w.heap.size w w' := by
  have hi := impl_call s w h
  have hs := fun w' (h' : Tabs w') => spec_call s w' h'
  by_cases h1 : (s.size : Int) > 2147483647
  · go_enter Tryd.func3, Tryd.ntmps3
    go_wp2_with fail
    go_ret
    exact ⟨rfl, Below.refl _ _⟩
  · by_cases h2 : (s.size : Int) > 1000
    · go_enter Tryd.func3, Tryd.ntmps3
      go_wp2_with fail
      go_ret
      exact ⟨rfl, Below.refl _ _⟩
    · go_enter Tryd.func3, Tryd.ntmps3
      go_wp2_with (first
        | (go_at_call 4; refine hi.mono ?_; rintro e w1 ⟨rfl, hb1⟩; have hs1 := hs w1 (h.below hb1))
        | (go_at_call 5; refine hs1.mono ?_; rintro e w2 ⟨rfl, hb2⟩))
      go_ret
      exact ⟨rfl, hb1.trans (hb2.mono hb1.size)⟩
end Go.Proofs.YteaelkeiocogfaaDoor.fnExported
