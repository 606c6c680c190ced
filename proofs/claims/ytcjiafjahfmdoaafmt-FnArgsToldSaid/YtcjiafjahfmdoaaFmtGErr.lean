/- fmt.Errorf at the one format that ParseArgs hands it: an error, never nil, wherever fmt's text is told. -/
import Derived.Test.YtcjiafjahfmdoaaFmtGUqa
import Derived.Test.YtcjiafjahfmdoaaFmtCards
import Derived.Stop.CallBack
import Derived.Stop.IfaceNil
import Derived.Stop.Told
import Derived.Stop.Texts
import Derived.WalkKit
import Derived.WalkSpells
import Derived.Stop.Walk2
namespace Go.Proofs
open Go.Extern.Stop Go.Stop Go.Extern
@[go_sem] theorem Tryf.call34 (args : Array Value) (w : World) : (callFunc 34 args).run Tryf.prog w = ((FmtStop.errorf #[9, 75] #[49] args).run Tryf.prog w).andThen fun v w' => .ok (.value v) w' :=
  run_callFunc_extern Tryf.func34 (by kernel_rfl) (by kernel_rfl) (by kernel_rfl) (by kernel_rfl) args w
@[go_sem] theorem Tryf.guard (name : String) (w : World) : (FmtStop.guard name).run Tryf.prog w = .ok () w := by kernel_rfl
abbrev Tryf.form : ByteArray := ⟨#[105, 110, 118, 97, 108, 105, 100, 32, 113, 117, 111, 116, 101, 100, 32, 115, 116, 114, 105, 110, 103, 32, 105, 110, 32, 47, 47, 37, 115, 58, 37, 115, 58, 32, 37, 115]⟩
@[go_sem] theorem Tryf.ptr1 (w : World) : (FmtStop.ptrTo "errors.errorString").run Tryf.prog w = .ok 85 w := by kernel_rfl
@[go_sem] theorem Tryf.elem85 (w : World) : (elemOf 85).run Tryf.prog w = .ok 87 w := by kernel_rfl
theorem Tryf.fmt1 : FmtStop.printed? Tryf.form 3 = some [(0, 115, false), (1, 115, false), (2, 115, false)] := by kernel_rfl
theorem Tryf.fmt1r (w : World) : (FmtDoors.printed Tryf.form 3).run Tryf.prog w = .ok [(0, 115, false), (1, 115, false), (2, 115, false)] w := by kernel_rfl
def Tryf.shape9 : List UInt8 := [12, 6, 0, 0, 0, 0, 0, 0, 0, 115, 116, 114, 105, 110, 103]
theorem Tryf.op9_115 (name : String) (x : ByteArray) (w : World) : (FmtStop.operand name true 115 false (.iface 9 (.string x))).run Tryf.prog w = .ok (Tryf.shape9, FmtStop.pack x.data.toList) w := by kernel_rfl
end Go.Proofs
namespace Go.Proofs.YtcjiafjahfmdoaaFmt.A
set_option linter.unusedVariables false
set_option linter.unusedSimpArgs false
open Go.RowKit Go.Shelf Go.Stop Go.Extern Go.Extern.Stop Go.Proofs.YtcjiafjahfmdoaaFmtW.PrintWords Go.Proofs.YtcjiafjahfmdoaaFmtW.PrintLast Go.Proofs.YtcjiafjahfmdoaaFmtW.PrintMore
attribute [local go_sem] Tryf.fmt1 Tryf.fmt1r Tryf.op9_115

set_option maxHeartbeats 1000000 in
theorem errorf_any (F : Interp) (T N S : ByteArray) (b : Nat) (w : World) (hG : F.told.answers w.tape) (h0 : w.cell? ⟨b, 0, none⟩ = some (.iface 9 (.string T))) (h1 : w.cell? ⟨b, 1, none⟩ = some (.iface 9 (.string N))) (h2 : w.cell? ⟨b, 2, none⟩ = some (.iface 9 (.string S))) :
    Calls Tryf.prog 24 #[.string Tryf.form, .slice (some ⟨b, 0, none⟩) 3 3] w fun e w' => (∃ t x, e = .returned (.iface t x)) ∧ Below w.heap.size w w' := by
  have hF' := answers_open hG
  clear hG
  generalize F.told = G at hF'
  go_enter Tryf.func24, Tryf.ntmps24
  go_wp2
  go_ret
  exact ⟨⟨_, _, rfl⟩, ((Below.refl _ _).drew).alloc (by simp) _⟩
end Go.Proofs.YtcjiafjahfmdoaaFmt.A
