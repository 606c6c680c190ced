-- Written by a program of this session (gprint.py) out of the kit's print of the translation. Not trusted: Lean checks it.
import Derived.Test.YtdmeackaiamkcaaProg
import Derived.Below
import Derived.Deep.Draws
import Derived.Deep.AppendLies
import Derived.Maps.AppendAt
import Derived.OwnWalk
import Derived.Laws.BytesArg
import Derived.Laws.MakeOwn
import Derived.Laws.OwnMore
import Derived.Deep.OwnRows
import Derived.Tactics
import Derived.Lib.ConvBytes
import Derived.Laws.Slices
import Derived.WalkKit
import Derived.KernelRfl
import Derived.RowKit3
import Derived.Deep.LoopGhost
import Derived.Deep.QuietTactic
import Derived.BigQuiet
import Derived.WideLaws
import Derived.Deep.DeepCutAuto
import Derived.Deep.CutBlock
import Derived.Deep.RegionHeld3
import Derived.Laws.Rows
import Derived.Lib.AppendStr
import Derived.ArgAppend
import Derived.Laws.IdiomCopy
import Derived.OrdersHeld
import Derived.Laws.BitsLemmas
import Derived.RowKit
import Derived.Test.YtdmeackaiamkcaaWWords
import Derived.Test.YtdmeackaiamkcaaWLast
import Derived.Test.YtdmeackaiamkcaaWTab
import Derived.Test.YtdmeackaiamkcaaWFour
import Derived.Test.YtdmeackaiamkcaaWQPut
import Derived.Test.YtdmeackaiamkcaaWApart
import Derived.Test.YtdmeackaiamkcaaWArr
import Derived.Test.YtdmeackaiamkcaaWZeros
import Derived.Test.YtdmeackaiamkcaaWFoot
import Derived.Test.YtdmeackaiamkcaaWKept
import Derived.Test.YtdmeackaiamkcaaWShare
import Derived.Test.YtdmeackaiamkcaaWN
import Derived.Test.YtdmeackaiamkcaaWFootNe
import Derived.Test.YtdmeackaiamkcaaWAt
import Derived.Test.YtdmeackaiamkcaaWEqStruct
import Derived.Test.YtdmeackaiamkcaaWRepsOne
import Derived.Test.YtdmeackaiamkcaaWInv
import Derived.Test.YtdmeackaiamkcaaWInvWords
import Derived.Test.YtdmeackaiamkcaaWGuard
import Derived.Test.YtdmeackaiamkcaaWNEv
import Derived.Test.YtdmeackaiamkcaaWMore
namespace Go.Proofs.Ytdmeackaiamkcaa.A
open Go.RowKit Go.Proofs.YtdmeackaiamkcaaW.PrintWords Go.Proofs.YtdmeackaiamkcaaW.PrintLast Go.Proofs.YtdmeackaiamkcaaW.PrintMore
attribute [local go_sem] max2_int min2_int max_two min_two max_three min_three max_four min_four   -- for this text's walks alone
set_option linter.unusedVariables false
set_option linter.unusedSimpArgs false



def errW : Option Int → Value
  | none => .nilIface
  | some c => .iface 0 (.int .i64 c)
theorem errW_none : errW none = .nilIface := rfl
theorem errW_some (c : Int) : errW (some c) = .iface 0 (.int .i64 c) := rfl

-- the values' own types
/-! #### struct type 26 -/
structure S26 where
  f0 : ByteArray
  f1 : Int
  f2 : Int
  f3 : ByteArray
def z26 : S26 := ⟨(⟨#[]⟩ : ByteArray), (0 : Int), (0 : Int), (⟨#[]⟩ : ByteArray)⟩
def k26 : Kd S26 := Kd.iso (Kd.pair Kd.string (Kd.pair (Kd.int .i64) (Kd.pair (Kd.int .i64) Kd.string))) (fun x : S26 => (x.f0, x.f1, x.f2, x.f3))
theorem k26_open {w : World} {x : S26} {cs : List Value} (h : k26.K w x cs) : cs = [.string x.f0, .int .i64 x.f1, .int .i64 x.f2, .string x.f3] := by
  obtain ⟨_, _, rfl, rfl, ⟨_, _, rfl, rfl, ⟨_, _, rfl, rfl, rfl⟩⟩⟩ := h
  exact rfl
theorem k26_openM {w : World} {base : Nat} {ok : Nat → Prop} {x : S26} {cs : List Value} (h : k26.M w base ok x cs) : cs = [.string x.f0, .int .i64 x.f1, .int .i64 x.f2, .string x.f3] := by
  obtain ⟨_, _, rfl, rfl, ⟨_, _, rfl, rfl, ⟨_, _, rfl, rfl, rfl⟩⟩⟩ := h
  exact rfl
theorem k26_mk (w : World) (x : S26)  : k26.K w x [.string x.f0, .int .i64 x.f1, .int .i64 x.f2, .string x.f3] := ⟨[.string x.f0], [.int .i64 x.f1, .int .i64 x.f2, .string x.f3], rfl, rfl, ⟨[.int .i64 x.f1], [.int .i64 x.f2, .string x.f3], rfl, rfl, ⟨[.int .i64 x.f2], [.string x.f3], rfl, rfl, rfl⟩⟩⟩
theorem k26_mkM (w : World) (base : Nat) (ok : Nat → Prop) (x : S26)  : k26.M w base ok x [.string x.f0, .int .i64 x.f1, .int .i64 x.f2, .string x.f3] := ⟨[.string x.f0], [.int .i64 x.f1, .int .i64 x.f2, .string x.f3], rfl, rfl, ⟨[.int .i64 x.f1], [.int .i64 x.f2, .string x.f3], rfl, rfl, ⟨[.int .i64 x.f2], [.string x.f3], rfl, rfl, rfl⟩⟩⟩
def rd_T26 (xs : List S26) (i : Int) : S26 := xs.getD i.toNat z26
theorem at_T26 {w : World} {A : Option Addr} {n : Nat} {xs : List S26} (h : Kd.C k26 w A n xs) (i : Int) (h0 : 0 ≤ i) (h1 : i < n) : ∃ ad , A = some ad ∧ w.cell? (ad.add (i.toNat * 4)) = some (.string (rd_T26 xs i).f0) ∧ w.cell? ⟨(ad.add (i.toNat * 4)).block, (ad.add (i.toNat * 4)).off + 1, none⟩ = some (.int .i64 (rd_T26 xs i).f1) ∧ w.cell? ⟨(ad.add (i.toNat * 4)).block, (ad.add (i.toNat * 4)).off + 2, none⟩ = some (.int .i64 (rd_T26 xs i).f2) ∧ w.cell? ⟨(ad.add (i.toNat * 4)).block, (ad.add (i.toNat * 4)).off + 3, none⟩ = some (.string (rd_T26 xs i).f3) := by
  obtain ⟨ad, c, e, _, hK, hc0⟩ := Kd.C_get h z26 i h0 h1
  have hc : ∀ j u, c[j]? = some u → w.cell? (ad.add (i.toNat * 4 + j)) = some u := hc0
  obtain rfl := k26_open hK
  exact ⟨ad, e, hc 0 _ rfl, by rw [← add_field _ _ 1 (by omega)]; exact hc 1 _ rfl, by rw [← add_field _ _ 2 (by omega)]; exact hc 2 _ rfl, by rw [← add_field _ _ 3 (by omega)]; exact hc 3 _ rfl⟩

end Go.Proofs.Ytdmeackaiamkcaa.A
