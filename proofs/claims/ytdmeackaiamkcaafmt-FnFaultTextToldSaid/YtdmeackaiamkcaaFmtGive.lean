import Derived.Test.YtdmeackaiamkcaaFmtText
import Derived.Test.YtdmeackaiamkcaaFmtA1
namespace Go.Proofs.YtdmeackaiamkcaaFmt.A
open Go.RowKit Go.Proofs.YtdmeackaiamkcaaFmtW.PrintWords Go.Proofs.YtdmeackaiamkcaaFmtW.PrintLast Go.Proofs.YtdmeackaiamkcaaFmtW.PrintMore
set_option linter.unusedVariables false
set_option linter.unusedSimpArgs false

/-- What the calls that meet a table or fmt ask of the world. -/
structure GiveEnv (F : Go.Stop.Interp) (w : World) : Prop where
  pow : Pow w
  told : F.told.answers w.tape
theorem GiveEnv.below {F : Go.Stop.Interp} {w w' : World} (h : GiveEnv F w) (hb : Below w.heap.size w w') : GiveEnv F w' := ⟨h.pow.below hb, by rw [hb.tape]; exact h.told⟩

def strconv_Itoa_6.f (n : Int) : Option ByteArray := if -9223372036854775808 ≤ n ∧ n ≤ 9223372036854775807 then some (num n) else none
theorem strconv_Itoa_6.calls {F : Go.Stop.Interp} (n : Int) (r : ByteArray) (w : World) (h : strconv_Itoa_6.f n = some r) (he : GiveEnv F w) :
    Calls Tryf.prog 6 #[.int .i64 n] w fun e w' => e = .returned (.string r) ∧ Below w.heap.size w w' := by
  unfold strconv_Itoa_6.f at h
  split at h
  next hb =>
    have h := Option.some.inj h
    subst h
    exact itoa_call n hb.1 hb.2 w he.pow
  next => cases h

def impl_FaultText.f (f : ByteArray) (line col : Int) (msg : ByteArray) : Option ByteArray :=
  if 0 < f.size ∧ f.size ≤ 1000000 ∧ msg.size ≤ 1000000 ∧ 0 < line ∧ line ≤ 1000000 ∧ 0 ≤ col ∧ col ≤ 1000000 then some ((posText f line col ++ ⟨#[58, 32]⟩) ++ msg) else none

set_option maxHeartbeats 1000000 in
theorem impl_FaultText.calls {F : Go.Stop.Interp} (f : ByteArray) (line col : Int) (msg : ByteArray) (r : ByteArray) (w : World) (h : impl_FaultText.f f line col msg = some r) (he : GiveEnv F w) :
    Calls Tryf.prog 7 #[.agg #[.string f, .int .i64 line, .int .i64 col, .string msg]] w fun e w' => e = .returned (.string r) ∧ Below w.heap.size w w' := by
  unfold impl_FaultText.f at h
  split at h
  next hb =>
    obtain ⟨h0, h1, h2, h3, h4, h5, h6⟩ := hb
    have HR := Aside0.mk (Option.some.inj h)
    have hE := fun w' (hb : Below w.heap.size w w') => error_call F f 0 line col msg w' (he.below hb).told h0 h1 h2 h3 h4 h5 h6 (he.below hb).pow
    have hP := fun w' => impl_positionOf.calls f line col msg f 0 line col w' rfl
    rw [HR.out] at hE
    clear h HR he
    go_enter Tryf.func7, Tryf.ntmps7
    go_wp2_with (first
      | ((with_reducible refine gate_dst (N := 1) rfl ?_); refine box_event ?hg (N := 1) ?hd (cs := #[.string f, .int .i64 line, .int .i64 col, .string msg]) (t := 23) ?hr ?_; (case hd => rfl); (case hg => rfl); (case hr => first | (go_simp; done) | (go_simp; rfl)); intro gb hgb w2 hbox hb; have x0 : w2.cell? ⟨gb, 0, none⟩ = some (.string f) := (blk_cell hbox 0).trans rfl; have x1 : w2.cell? ⟨gb, 1, none⟩ = some (.int .i64 line) := (blk_cell hbox 1).trans rfl; have x2 : w2.cell? ⟨gb, 2, none⟩ = some (.int .i64 col) := (blk_cell hbox 2).trans rfl; have x3 : w2.cell? ⟨gb, 3, none⟩ = some (.string msg) := (blk_cell hbox 3).trans rfl; have hlt := Aside0.mk (World.block_lt_of_cell? w2 _ x3); have HB := Aside0.mk hb; clear hbox hb hgb))
    go_region_with (first
      | (go_at_call 9; refine (hP _).mono ?_; rintro e w3 ⟨rfl, hb3⟩; have y3 : w3.cell? ⟨gb, 3, none⟩ = some (.string msg) := (hb3.cell (by exact hlt.out)).trans x3; have HB3 := Aside0.mk (HB.out.drew.trans (hb3.mono HB.out.size)); clear hb3)
      | (go_at_call 10; refine (hE _ HB3.out).mono ?_; rintro e w4 ⟨rfl, hb4⟩; have HB4 := Aside0.mk (HB3.out.trans (hb4.mono HB3.out.size)); clear hb4))
    all_goals
      go_wp2_with fail
      go_ret
      exact ⟨rfl, HB4.out⟩
  next => cases h
end Go.Proofs.YtdmeackaiamkcaaFmt.A
