/- What strconv's unquoting calls: index, contains, utf8.ValidString. -/
import Derived.Test.YtcjiafjahfmdoaaFmtA0
import Derived.Test.YtcjiafjahfmdoaaFmtLays
import Derived.Lib.Bytealg
import Derived.Lib.IndexAny
namespace Go.Proofs.YtcjiafjahfmdoaaFmt.A
set_option linter.unusedVariables false
set_option linter.unusedSimpArgs false
open Go.RowKit Go.Shelf Go.Proofs.YtcjiafjahfmdoaaFmtW.PrintWords Go.Proofs.YtcjiafjahfmdoaaFmtW.PrintLast Go.Proofs.YtcjiafjahfmdoaaFmtW.PrintMore

/-- What the calls read: the tables, and strconv's one error. -/
structure Tabs (W : World) : Prop where
  white : Lib.WhiteTab (Tryf.lays199_ren.g 6) W
  utf8 : Lib.Utf8Tabs (Tryf.lays196_ren.g 3) (Tryf.lays196_ren.g 4) W
  err : ∃ p, W.cell? ⟨0, 0, none⟩ = some (.iface 85 (.pointer (some p)))

theorem Tabs.below {W W' : World} (h : Tabs W) (hb : Below W.heap.size W W') : Tabs W' :=
  ⟨WhiteTab_below h.white hb, Utf8Tabs_below h.utf8 hb, h.err.imp fun p hp => (hb.cell (World.block_lt_of_cell? W _ hp)).trans hp⟩

theorem index_any (s : ByteArray) (c : Int) (w : World) :
    Calls Tryf.prog 39 #[.string s, .int .u8 c] w fun e w' => e = .returned (.int .i64 (Lib.indexByte s.data.toList c.toNat.toUInt8)) ∧ w' = w := by
  have hx : Sem.run Tryf.prog (callFunc 46 #[.string s, .int .u8 c]) w = .ok (.value (.int .i64 (Lib.indexByte s.data.toList c.toNat.toUInt8))) w := by
    rw [run_callFunc_extern Tryf.func46 (by kernel_rfl) (by kernel_rfl) (by kernel_rfl) (e := Extern.BytealgIndexByte.indexByte) (by kernel_rfl), Lib.run_indexByteString]
    rfl
  go_enter Tryf.func39, Tryf.ntmps39
  go_wp2
  go_ret
  exact ⟨rfl, rfl⟩

theorem contains_any (s : ByteArray) (c : Int) (w : World) :
    Calls Tryf.prog 40 #[.string s, .int .u8 c] w fun e w' => e = .returned (.bool (s.data.toList.contains c.toNat.toUInt8)) ∧ w' = w := by
  have hi := index_any s c w
  have hc := Lib.contains_iff_indexByte s.data.toList c.toNat.toUInt8
  have hg := Lib.indexByte_ge s.data.toList c.toNat.toUInt8
  generalize Lib.indexByte s.data.toList c.toNat.toUInt8 = j at hi hc hg
  have hb : (j != -1) = s.data.toList.contains c.toNat.toUInt8 := by
    rw [hc]
    by_cases h : j = -1
    · subst h
      rfl
    · rw [show (j != -1) = true by simpa using h]
      exact (decide_eq_true (by omega)).symm
  clear hc hg
  generalize s.data.toList.contains c.toNat.toUInt8 = v at hb ⊢
  go_enter Tryf.func40, Tryf.ntmps40
  go_wp2_with (go_at_call 39; refine hi.mono ?_; clear hi; rintro e w1 ⟨rfl, rfl⟩)
  go_ret
  exact ⟨rfl, rfl⟩

theorem valid_any (l : List UInt8) (h : ∀ b ∈ l, b.toNat < 128) (hs : l.length ≤ 1000000000) (w : World) (hT : Tabs w) :
    Calls Tryf.prog 41 #[.string ⟨l.toArray⟩] w fun e w' => e = .returned (.bool true) ∧ Below w.heap.size w w' := by
  have hv : Lib.validD l = true := by
    have := Lib.validD_ascii l.length l (fun b hb => h b (List.mem_of_mem_take hb))
    rw [this, List.drop_length]
    rfl
  have := Any.utf8_ValidString Tryf.lays196 ⟨l.toArray⟩ w (by show l.length ≤ _; omega) hT.utf8
  rw [show (ByteArray.mk l.toArray).data.toList = l from rfl, hv] at this
  exact this

theorem decode_any (s : ByteArray) (x : UInt8) (w : World) (h0 : s.data.toList[0]? = some x) (hx : x.toNat < 128) :
    Calls Tryf.prog 27 #[.string s] w fun e w' => e = .returned (.tuple #[.int .i32 x.toNat, .int .i64 1]) ∧ w' = w :=
  Any.utf8_DecodeRuneInString_ascii Tryf.lays197 s x w h0 hx
end Go.Proofs.YtcjiafjahfmdoaaFmt.A
