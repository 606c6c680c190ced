import Derived.Test.YtdmeackaiamkcaaFmtFacts
import Derived.Test.YtdmeackaiamkcaaFmtWMore
import Derived.Shelf.Strconv.Itoa3
import Derived.Stop.FmtTextKit
import Derived.Stop.FmtTextVerbs
import Derived.Stop.Told
import Derived.Stop.Texts
import Derived.Lib.LaidTab
import Derived.WalkKit
import Derived.WalkSpells
import Derived.Deep.QuietTactic
import Derived.BigQuiet
import Derived.BigRegion
import Derived.Below
import Derived.Shelf.Unicode.PredsPay
namespace Go.Proofs.YtdmeackaiamkcaaFmt
open Go.Proofs.YtdmeackaiamkcaaFmtW.PrintWords
open Go.RowKit Go.Kit Go.Extern.Stop Go.Stop Go.Extern
set_option linter.unusedVariables false
set_option linter.unusedSimpArgs false

/-- What fmt is asked for the column. -/
def fReading (c : Int) : List (List UInt8) := [[58, 37, 100], Tryf.shape3, digits 8 (c % 18446744073709551616).toNat]
theorem t_parse : (FmtText.parse [58, 37, 100]).map FmtText.glue = some [.lit [58], .verb {} 100] := by rfl
theorem t_text (c : Int) (hw : (Lit.int .i64 c).wf = true) : FmtText.text "fmt.Sprintf" (fReading c) = some (58 :: Lib.itoa c) := by
  have hi := FmtText.operand_int_at (sh := Tryf.shape3) (k := .i64) rfl rfl c hw
  rw [fReading, FmtText.text_sprintf_glued t_parse (FmtText.operands_cons hi FmtText.operands_nil)]
  simp [FmtText.render, FmtText.printArg_d _ _ hw]

def num (n : Int) : ByteArray := ⟨(Lib.itoa n).toArray⟩

theorem told_text (F : Interp) (c : Int) (hw : (Lit.int .i64 c).wf = true) : FmtStop.textOf (F.told "fmt.Sprintf" (fReading c) 0) = ⟨#[58]⟩ ++ num c := by
  have hl := FmtText.itoa_length_le hw
  have ht := told_string F (t_text c hw) (by simp; omega)
  rw [← textOf_list] at ht
  apply ByteArray.ext
  apply Array.ext'
  rw [ht]
  simp [num]

abbrev Pow (W : World) : Prop := Lib.TabIs Tryf.prog W "internal/strconv.uint64pow10" .u64 Lib.pow10Tab

theorem gPow : Tryf.prog.globalNamed "internal/strconv.uint64pow10" = some 0 := by kernel_rfl
theorem Pow.below {w w' : World} (h : Pow w) (hb : Below w.heap.size w w') : Pow w' := TabIs_below gPow h hb
theorem below_alloc0 (w : World) (o : Obj) : Below w.heap.size w (w.alloc o) := (Below.refl _ _).alloc (Nat.le_refl _) o
theorem below_grow {B : Nat} {a w : World} (h : Below B a w) (hB : B ≤ w.heap.size) (os : Array Obj) : Below B a (Go.Sort.grow w os) :=
  h.trans ⟨rfl, rfl, rfl, by simp, fun k hk => Go.Sort.heap_grow_old _ _ (by omega)⟩

theorem itoa_call (n : Int) (h0 : -9223372036854775808 ≤ n) (h1 : n ≤ 9223372036854775807) (w : World) (h : Pow w) :
    Calls Tryf.prog 6 #[.int .i64 n] w fun e w' => e = .returned (.string (num n)) ∧ Below w.heap.size w w' :=
  (Any.strconv_Itoa Tryf.laysM171 n h0 h1 w h).mono fun e w' ⟨he, k, os, hw⟩ => ⟨he, by
    subst hw
    exact below_grow (Go.Proofs.YtdmeackaiamkcaaFmtW.PrintWords.pw_below_drewN (Below.refl _ _) k) (Nat.le_refl _) os⟩

theorem valid_call (b : Nat) (line : Int) (w : World) (hc : w.cell? ⟨b, 2, none⟩ = some (.int .i64 line)) :
    Calls Tryf.prog 12 #[.pointer (some ⟨b, 0, none⟩)] w fun e w' => e = .returned (.bool (decide (line > 0))) ∧ w' = w := by
  go_enter Tryf.func12, Tryf.ntmps12
  go_wp2
  go_ret
  exact ⟨rfl, rfl⟩

/-- The text of a place in a file: name, line, and the column if there is one. -/
def posText (f : ByteArray) (line col : Int) : ByteArray := if col = 0 then (f ++ ⟨#[58]⟩) ++ num line else ((f ++ ⟨#[58]⟩) ++ num line) ++ (⟨#[58]⟩ ++ num col)

theorem num_size (n : Int) (h0 : -9223372036854775808 ≤ n) (h1 : n ≤ 9223372036854775807) : (num n).size ≤ 21 := by
  have e1 : IntKind.i64.min = -9223372036854775808 := rfl
  have e2 : IntKind.i64.max = 9223372036854775807 := rfl
  have hw : (Lit.int .i64 n).wf = true := by simp [Lit.wf, e1, e2]; omega
  have := FmtText.itoa_length_le hw
  simpa [num, ByteArray.size] using this

theorem app_size (a b : ByteArray) : (a ++ b).size = a.size + b.size := ByteArray.size_append

theorem notEmpty {s : ByteArray} (h : 0 < s.size) : s.toList.isEmpty = false := by
  rw [Go.Lib.toList_data]
  cases s with
  | mk d =>
    cases hd : d.toList with
    | nil =>
      have h0 : d.size = 0 := by simpa using congrArg List.length hd
      exact absurd (show 0 < d.size from h) (by omega)
    | cons x l => rfl

set_option maxHeartbeats 1000000 in
theorem string_short (f : ByteArray) (off line : Int) (w : World) (hf : 0 < f.size) (hfs : f.size ≤ 1000000) (hl : 0 < line) (hl1 : line ≤ 1000000) (hP : Pow w) :
    Calls Tryf.prog 13 #[.agg #[.string f, .int .i64 off, .int .i64 line, .int .i64 0]] w fun e w' => e = .returned (.string ((f ++ ⟨#[58]⟩) ++ num line)) ∧ Below w.heap.size w w' := by
  have hI := fun w' (h : Pow w') => itoa_call line (by omega) (by omega) w' h
  have hV := fun w' h => valid_call w.heap.size line w' h
  have hPB : ∀ w', Below w.heap.size w w' → Pow w' := fun w' hb => Pow.below hP hb
  have hd : decide (line > 0) = true := decide_eq_true hl
  rw [hd] at hV
  have hfe := notEmpty hf
  have hn := num_size line (by omega) (by omega)
  have s1 : (f ++ ⟨#[58]⟩).size = f.size + 1 := by rw [app_size]; rfl
  have s2 : ((f ++ ⟨#[58]⟩) ++ num line).size = f.size + 1 + (num line).size := by rw [app_size, s1]
  have he2 : ((f ++ ⟨#[58]⟩) ++ num line).toList.isEmpty = false := notEmpty (by omega)
  go_enter Tryf.func13, Tryf.ntmps13
  go_wp2_with (first
    | (go_at_call 12; refine (hV _ (by simp)).mono ?_; rintro e w1 ⟨rfl, rfl⟩)
    | (go_at_call 6; refine (hI _ (hPB _ (below_alloc0 w _))).mono ?_; rintro e w1 ⟨rfl, hb1⟩; have hc3 : w1.cell? ⟨w.heap.size, 3, none⟩ = some (.int .i64 0) := (hb1.cell (p := ⟨w.heap.size, 3, none⟩) (by simp)).trans (by simp)))
  go_ret
  exact ⟨rfl, (below_alloc0 w _).trans (hb1.mono (by simp))⟩

set_option maxHeartbeats 1000000 in
theorem string_long (G : Interp) (f : ByteArray) (off line col : Int) (w : World) (hG : G.answers w.tape) (hf : 0 < f.size) (hfs : f.size ≤ 1000000) (hl : 0 < line) (hl1 : line ≤ 1000000) (hz : ¬ col = 0) (hP : Pow w)
    (hT : Aside0 (0 < (FmtStop.textOf (G "fmt.Sprintf" (fReading col) 0)).size ∧ (FmtStop.textOf (G "fmt.Sprintf" (fReading col) 0)).size ≤ 1000)) :
    Calls Tryf.prog 13 #[.agg #[.string f, .int .i64 off, .int .i64 line, .int .i64 col]] w fun e w' => e = .returned (.string (((f ++ ⟨#[58]⟩) ++ num line) ++ FmtStop.textOf (G "fmt.Sprintf" (fReading col) 0))) ∧ Below w.heap.size w w' := by
  have hI := fun w' (h : Pow w') => itoa_call line (by omega) (by omega) w' h
  have hV := fun w' h => valid_call w.heap.size line w' h
  have hPB : ∀ w', Below w.heap.size w w' → Pow w' := fun w' hb => Pow.below hP hb
  have hd : decide (line > 0) = true := decide_eq_true hl
  rw [hd] at hV
  have hfe := notEmpty hf
  have hn := num_size line (by omega) (by omega)
  have s1 : (f ++ ⟨#[58]⟩).size = f.size + 1 := by rw [app_size]; rfl
  have s2 : ((f ++ ⟨#[58]⟩) ++ num line).size = f.size + 1 + (num line).size := by rw [app_size, s1]
  have hz1 : (col != 0) = true := by simpa using hz
  have hT1 : (FmtStop.textOf (G "fmt.Sprintf" [[58, 37, 100], Tryf.shape3, digits 8 (col % 18446744073709551616).toNat] 0)).size ≤ 1000 := hT.out.2
  have hT2 : (f ++ ⟨#[58]⟩ ++ num line ++ FmtStop.textOf (G "fmt.Sprintf" [[58, 37, 100], Tryf.shape3, digits 8 (col % 18446744073709551616).toNat] 0)).toList.isEmpty = false := notEmpty (by rw [app_size, s2]; omega)
  clear hP hd hl
  go_enter Tryf.func13, Tryf.ntmps13
  go_wp2_with (first
    | (go_at_call 12; refine (hV _ (by simp)).mono ?_; rintro e w1 ⟨rfl, rfl⟩)
    | (go_at_call 6; refine (hI _ (hPB _ (below_alloc0 w _))).mono ?_; rintro e w1 ⟨rfl, hb1⟩; have hc3 : w1.cell? ⟨w.heap.size, 3, none⟩ = some (.int .i64 col) := (hb1.cell (p := ⟨w.heap.size, 3, none⟩) (by simp)).trans (by simp); have hF' := answers_open (show G.answers w1.tape by rw [hb1.tape]; exact hG); clear hG hI hV hPB))
  go_ret
  exact ⟨rfl, (((below_alloc0 w _).trans (hb1.mono (by simp))).alloc (by have := hb1.size; simp at this; omega) _).drew⟩

/-- The text of a place in a file. -/
theorem string_call (F : Interp) (f : ByteArray) (off line col : Int) (w : World) (hF : F.told.answers w.tape) (hf : 0 < f.size) (hfs : f.size ≤ 1000000) (hl : 0 < line) (hl1 : line ≤ 1000000) (hc0 : 0 ≤ col) (hc1 : col ≤ 1000000) (hP : Pow w) :
    Calls Tryf.prog 13 #[.agg #[.string f, .int .i64 off, .int .i64 line, .int .i64 col]] w fun e w' => e = .returned (.string (posText f line col)) ∧ Below w.heap.size w w' := by
  by_cases hz : col = 0
  · have e : posText f line col = (f ++ ⟨#[58]⟩) ++ num line := if_pos hz
    rw [e]
    subst hz
    exact string_short f off line w hf hfs hl hl1 hP
  · have hwc : (Lit.int .i64 col).wf = true := by
      have e1 : IntKind.i64.min = -9223372036854775808 := rfl
      have e2 : IntKind.i64.max = 9223372036854775807 := rfl
      simp [Lit.wf, e1, e2]
      omega
    have e : posText f line col = ((f ++ ⟨#[58]⟩) ++ num line) ++ FmtStop.textOf (F.told "fmt.Sprintf" (fReading col) 0) := by rw [told_text F col hwc]; exact if_neg hz
    have s3 : (FmtStop.textOf (F.told "fmt.Sprintf" (fReading col) 0)).size = 1 + (num col).size := by rw [told_text F col hwc, app_size]; rfl
    have hnc := num_size col (by omega) (by omega)
    rw [e]
    exact string_long F.told f off line col w hF hf hfs hl hl1 hz hP ⟨by omega⟩

theorem posText_size (f : ByteArray) (line col : Int) (hfs : f.size ≤ 1000000) (hl : 0 < line) (hl1 : line ≤ 1000000) (hc0 : 0 ≤ col) (hc1 : col ≤ 1000000) : (posText f line col).size ≤ 1001000 := by
  have h1 := num_size line (by omega) (by omega)
  have h2 := num_size col (by omega) (by omega)
  have e : (⟨#[58]⟩ : ByteArray).size = 1 := rfl
  unfold posText
  split
  · rw [app_size, app_size, e]; omega
  · rw [app_size, app_size, app_size, app_size, e]; omega

set_option maxHeartbeats 1000000 in
theorem error_call (F : Interp) (f : ByteArray) (off line col : Int) (msg : ByteArray) (w : World) (hF : F.told.answers w.tape) (hf : 0 < f.size) (hfs : f.size ≤ 1000000) (hms : msg.size ≤ 1000000) (hl : 0 < line) (hl1 : line ≤ 1000000) (hc0 : 0 ≤ col) (hc1 : col ≤ 1000000) (hP : Pow w) :
    Calls Tryf.prog 10 #[.agg #[.string f, .int .i64 off, .int .i64 line, .int .i64 col, .string msg]] w fun e w' => e = .returned (.string ((posText f line col ++ ⟨#[58, 32]⟩) ++ msg)) ∧ Below w.heap.size w w' := by
  have hS := fun w' (hb : Below w.heap.size w w') => string_call F f off line col w' (by rw [hb.tape]; exact hF) hf hfs hl hl1 hc0 hc1 (Pow.below hP hb)
  have hps := posText_size f line col hfs hl hl1 hc0 hc1
  have s1 : (posText f line col ++ ⟨#[58, 32]⟩).size = (posText f line col).size + 2 := by rw [app_size]; rfl
  have hfe := notEmpty hf
  generalize posText f line col = T at *
  clear hP hF
  have hW := Nat.le_refl w.heap.size
  go_enter Tryf.func10, Tryf.ntmps10
  go_wp2_with (first
    | ((with_reducible refine gate_dst (N := 1) rfl ?_); refine box_event ?hg (N := 1) ?hd (cs := #[.string f, .int .i64 off, .int .i64 line, .int .i64 col, .string msg]) (t := 33) ?hr ?_; (case hd => rfl); (case hg => rfl); (case hr => first | (go_simp; done) | (go_simp; rfl)); intro gb hgb w2 hbox hb; have x0 : w2.cell? ⟨gb, 0, none⟩ = some (.string f) := (blk_cell hbox 0).trans rfl; have x1 : w2.cell? ⟨gb, 1, none⟩ = some (.int .i64 off) := (blk_cell hbox 1).trans rfl; have x2 : w2.cell? ⟨gb, 2, none⟩ = some (.int .i64 line) := (blk_cell hbox 2).trans rfl; have x3 : w2.cell? ⟨gb, 3, none⟩ = some (.int .i64 col) := (blk_cell hbox 3).trans rfl; have x4 : w2.cell? ⟨gb, 4, none⟩ = some (.string msg) := (blk_cell hbox 4).trans rfl; have hlt := Aside0.mk (World.block_lt_of_cell? w2 _ x4); have HB := Aside0.mk hb; clear hbox hb hgb))
  go_region_with ((go_at_call 13; refine (hS _ (by first | exact HB.out | exact HB.out.drew)).mono ?_; rintro e w3 ⟨rfl, hb3⟩; have y4 : w3.cell? ⟨gb, 4, none⟩ = some (.string msg) := (hb3.cell (by exact hlt.out)).trans x4; have HB3 := Aside0.mk hb3; clear hb3))
  all_goals
    go_wp2_with fail
    go_ret
    exact ⟨rfl, HB.out.drew.trans (HB3.out.mono HB.out.size)⟩
end Go.Proofs.YtdmeackaiamkcaaFmt
