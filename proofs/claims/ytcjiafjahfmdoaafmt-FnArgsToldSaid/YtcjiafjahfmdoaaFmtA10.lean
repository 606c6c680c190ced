-- Written by a program of this session (gprint.py) out of the kit's print of the translation. Not trusted: Lean checks it.
import Derived.Test.YtcjiafjahfmdoaaFmtA0
namespace Go.Proofs.YtcjiafjahfmdoaaFmt.A
open Go.RowKit Go.Proofs.YtcjiafjahfmdoaaFmtW.PrintWords Go.Proofs.YtcjiafjahfmdoaaFmtW.PrintLast Go.Proofs.YtcjiafjahfmdoaaFmtW.PrintMore
attribute [local go_sem] max2_int min2_int max_two min_two max_three min_three max_four min_four   -- for this text's walks alone
set_option linter.unusedVariables false
set_option linter.unusedSimpArgs false

-- NOT PRINTED: function 44 (unicode_is16)

-- NOT PRINTED: function 45 (unicode_is32)

-- NOT PRINTED: function 37 (unicode_isExcludingLatin)

-- NOT PRINTED: function 28 (unicode_IsSpace)

-- NOT PRINTED: function 38 (strings_indexFunc)

-- NOT PRINTED: function 30 (strings_TrimLeftFunc)

/-- A state of type 59 at block g of W; what its slices lead to came in by w0. -/
def IsS59 (w0 W : World) (g : Nat) (f0 : ByteArray) (f1 : Int) : Prop := W.heap[g]? = some (.cells #[.string f0, .int .i64 f1] 59 (0, 0)) ∧ w0.heap.size ≤ g
theorem IsS59.grown {w0 W : World} {g : Nat} {f0 : ByteArray} {f1 : Int} {W1 : World} {row : Option Nat} (h : IsS59 w0 W g f0 f1) (hw : W.grownBy W1 row) (hne : some g ≠ row) : IsS59 w0 W1 g f0 f1 := by
  obtain ⟨hb, hg⟩ := h
  exact ⟨blk_grown hb hw hne, hg⟩
theorem IsS59.own_neN {w0 W : World} {g : Nat} {f0 : ByteArray} {f1 : Int} {α : Type} {d : Kd α} {e : Nat} {base : Nat} {ok : Nat → Prop} {v : Value} {xs : List α} (h : IsS59 w0 W g f0 f1) (ho : Kd.N d e W base ok v xs) (ht : e ≠ 59) : some g ≠ v.ownBlock := by
  obtain ⟨hb, hg⟩ := h
  exact Kd.N_ne ho hb ht
theorem IsS59.fresh {w0 W : World} {g : Nat} {f0 : ByteArray} {f1 : Int} (h : IsS59 w0 W g f0 f1) : ∀ k, W.heap.size ≤ k → k ≠ g := by
  obtain ⟨hb, hg⟩ := h
  exact Kd.freshB hb
theorem IsS59.kept {w0 W : World} {g : Nat} {f0 : ByteArray} {f1 : Int} {W1 : World} {S : Nat → Prop} (h : IsS59 w0 W g f0 f1) (hk : Kept W W1 S) (hne : ¬ S g) : IsS59 w0 W1 g f0 f1 := by
  obtain ⟨hb, hg⟩ := h
  exact ⟨blk_kept hb hk hne, hg⟩
theorem IsS59.below {w0 W : World} {g : Nat} {f0 : ByteArray} {f1 : Int} {W1 : World} (h : IsS59 w0 W g f0 f1) (hw : Below W.heap.size W W1) : IsS59 w0 W1 g f0 f1 := h.grown (grown_of_below hw none) (by simp)
theorem IsS59.alloc {w0 W : World} {g : Nat} {f0 : ByteArray} {f1 : Int} (h : IsS59 w0 W g f0 f1) (o : Obj) : IsS59 w0 (W.alloc o) g f0 f1 := h.below (below_alloc (Below.refl _ _) o)
theorem IsS59.drewN {w0 W : World} {g : Nat} {f0 : ByteArray} {f1 : Int} (h : IsS59 w0 W g f0 f1) (m : Nat) : IsS59 w0 (W.drewN m) g f0 f1 := h
theorem IsS59.drew {w0 W : World} {g : Nat} {f0 : ByteArray} {f1 : Int} (h : IsS59 w0 W g f0 f1) : IsS59 w0 W.drew g f0 f1 := h
theorem IsS59.at_ {w0 W : World} {g : Nat} {f0 : ByteArray} {f1 : Int} {w' : World} {m : Nat} (hq : W.drewN m = w') (h : IsS59 w0 W g f0 f1) : IsS59 w0 w' g f0 f1 := by subst hq; exact IsS59.drewN h m
theorem IsS59.apart {w0 W : World} {g : Nat} {f0 : ByteArray} {f1 : Int} {α : Type} {d : Kd α} {e : Nat} {base : Nat} {ok : Nat → Prop} {v : Value} {xs : List α} (h : IsS59 w0 W g f0 f1) (ho : d.R e W base ok v xs) (ht : ∀ q, q ∈ e :: d.E → q ≠ 59) : d.R e W base (fun k => ok k ∧ k ≠ g) v xs := by
  obtain ⟨hb, hg⟩ := h
  exact Kd.R_types ho hb ht
theorem IsS59.own_ne {w0 W : World} {g : Nat} {f0 : ByteArray} {f1 : Int} {α : Type} {d : Kd α} {e : Nat} {base : Nat} {ok : Nat → Prop} {v : Value} {xs : List α} (h : IsS59 w0 W g f0 f1) (ho : d.R e W base ok v xs) (ht : e ≠ 59) : some g ≠ v.ownBlock := by
  obtain ⟨hb, hg⟩ := h
  exact Kd.R_ne ho hb ht
theorem IsS59.apartQ {w0 W : World} {g : Nat} {f0 : ByteArray} {f1 : Int} {α : Type} {d : Kd α} {e : Nat} {base : Nat} {ok : Nat → Prop} {v : Value} {xs : List α} (h : IsS59 w0 W g f0 f1) (ho : d.Q e W base ok v xs) (ht : ∀ q, q ∈ e :: d.E → q ≠ 59) : d.Q e W base (fun k => ok k ∧ k ≠ g) v xs := by
  obtain ⟨hb, hg⟩ := h
  exact Kd.Q_types ho hb ht
theorem IsS59.own_neQ {w0 W : World} {g : Nat} {f0 : ByteArray} {f1 : Int} {α : Type} {d : Kd α} {e : Nat} {base : Nat} {ok : Nat → Prop} {v : Value} {xs : List α} (h : IsS59 w0 W g f0 f1) (ho : d.Q e W base ok v xs) (ht : e ≠ 59) : some g ≠ v.ownBlock := by
  obtain ⟨hb, hg⟩ := h
  exact Kd.Q_ne ho hb ht
theorem IsS59.apartS {w0 W : World} {g : Nat} {f0 : ByteArray} {f1 : Int} {α : Type} {d : Kd α} {e : Nat} {base : Nat} {ok : Nat → Prop} {v : Value} {xs : List α} (h : IsS59 w0 W g f0 f1) (ho : d.S e W base ok v xs) (ht : ∀ q, q ∈ e :: d.E → q ≠ 59) : d.S e W base (fun k => ok k ∧ k ≠ g) v xs := by
  obtain ⟨hb, hg⟩ := h
  exact Kd.S_types ho hb ht
theorem IsS59.own_neS {w0 W : World} {g : Nat} {f0 : ByteArray} {f1 : Int} {α : Type} {d : Kd α} {e : Nat} {base : Nat} {ok : Nat → Prop} {v : Value} {xs : List α} (h : IsS59 w0 W g f0 f1) (ho : d.S e W base ok v xs) (ht : e ≠ 59) : some g ≠ v.ownBlock := by
  obtain ⟨hb, hg⟩ := h
  exact Kd.S_ne ho hb ht
theorem IsS59.lt {w0 W : World} {g : Nat} {f0 : ByteArray} {f1 : Int} (h : IsS59 w0 W g f0 f1) : g < W.heap.size := by
  obtain ⟨hb, hg⟩ := h
  exact blk_lt hb
theorem IsS59.ge {w0 W : World} {g : Nat} {f0 : ByteArray} {f1 : Int} (h : IsS59 w0 W g f0 f1) : w0.heap.size ≤ g := by
  obtain ⟨hb, hg⟩ := h
  exact hg
theorem IsS59.ne_blk {w0 W : World} {g : Nat} {f0 : ByteArray} {f1 : Int} {a : Nat} {cs : Array Value} {t : TypeId} {fr : Nat × Nat} (h : IsS59 w0 W g f0 f1) (hb2 : W.heap[a]? = some (.cells cs t fr)) (ht : t ≠ 59) : g ≠ a := by
  obtain ⟨hb, hg⟩ := h
  rintro rfl
  rw [hb] at hb2
  injection hb2 with hb2
  injection hb2 with _ ht2
  exact ht ht2.symm
theorem IsS59.far {w0 W : World} {g : Nat} {f0 : ByteArray} {f1 : Int} {p : Addr} (h : IsS59 w0 W g f0 f1) (hne : g ≠ p.block) (u : Value) : IsS59 w0 (W.setCell p u) g f0 f1 := by
  obtain ⟨hb, hg⟩ := h
  exact ⟨blk_far hb hne u, hg⟩
theorem cellS59_0 {W : World} {g : Nat} {f0 : ByteArray} {f1 : Int} (h : W.heap[g]? = some (.cells #[.string f0, .int .i64 f1] 59 (0, 0))) : W.cell? ⟨g, 0, none⟩ = some (.string f0) := (blk_cell h 0).trans rfl
theorem IsS59.set_0 {w0 W : World} {g : Nat} {f0 : ByteArray} {f1 : Int} (h : IsS59 w0 W g f0 f1) (x : ByteArray) : IsS59 w0 (W.setCell ⟨g, 0, none⟩ (.string x)) g x f1 := by
  obtain ⟨hb, hg⟩ := h
  exact ⟨by simpa using blk_set hb 0 (.string x), hg⟩
theorem cellS59_1 {W : World} {g : Nat} {f0 : ByteArray} {f1 : Int} (h : W.heap[g]? = some (.cells #[.string f0, .int .i64 f1] 59 (0, 0))) : W.cell? ⟨g, 1, none⟩ = some (.int .i64 f1) := (blk_cell h 1).trans rfl
theorem IsS59.set_1 {w0 W : World} {g : Nat} {f0 : ByteArray} {f1 : Int} (h : IsS59 w0 W g f0 f1) (x : Int) : IsS59 w0 (W.setCell ⟨g, 1, none⟩ (.int .i64 x)) g f0 x := by
  obtain ⟨hb, hg⟩ := h
  exact ⟨by simpa using blk_set hb 1 (.int .i64 x), hg⟩
theorem IsS59.new (w0 W : World) (f0 : ByteArray) (f1 : Int) (hB : Below w0.heap.size w0 W) : IsS59 w0 (W.alloc (.cells #[.string f0, .int .i64 f1] 59)) W.heap.size f0 f1 := ⟨by simpa using heap_alloc_new W _, hB.size⟩

/-! ### goprinter_go_ast_directiveScanner_skip: function 31 -/
def goprinter_go_ast_directiveScanner_skip.f (s0_0 : ByteArray) (s0_1 : Int) (a1 : Int) : Option (ByteArray × Int) := if 0 ≤ a1 then (if a1 ≤ (s0_0.size : Int) then (some (s0_0.extract (a1 : Int).toNat s0_0.size, wrap64 (s0_1 + a1))) else (none)) else (none)
set_option maxHeartbeats 8000000 in
set_option maxRecDepth 100000 in
theorem goprinter_go_ast_directiveScanner_skip.calls (g : Nat) (s0_0 : ByteArray) (s0_1 : Int) (a1 : Int) (r1 : ByteArray) (r2 : Int) (w0 w : World) (hI : IsS59 w0 w g s0_0 s0_1) (hB : Below w0.heap.size w0 w) (h : goprinter_go_ast_directiveScanner_skip.f s0_0 s0_1 a1 = some (r1, r2)) :
    Calls Tryf.prog 31 #[.pointer (some ⟨g, 0, none⟩), .int .i64 a1] w fun e w' => e = .returned (.tuple #[]) ∧ IsS59 w0 w' g r1 r2 ∧ Below w0.heap.size w0 w' ∧ KeepBut w w' g none := by
  have HI0 := Aside0.mk hI
  have HK := Aside0.mk (KeepBut.refl w g none)
  have HL := Aside0.mk hB.size
  clear hI
  have HW0 := Aside0.mk hB.size
  have HB := Aside0.mk hB
  clear hB
  have H : (if 0 ≤ a1 then (if a1 ≤ (s0_0.size : Int) then (some (s0_0.extract (a1 : Int).toNat s0_0.size, wrap64 (s0_1 + a1))) else (none)) else (none)) = some (r1, r2) := h
  clear h
  by_cases c3 : 0 ≤ a1
  · rw [if_pos c3] at H
    have c3b0 := eq_true c3
    have c3b1 : decide (0 ≤ a1) = true := decide_eq_true c3
    clear c3
    by_cases c4 : a1 ≤ (s0_0.size : Int)
    · rw [if_pos c4] at H
      have c4b0 := eq_true c4
      have c4b1 : decide (a1 ≤ (s0_0.size : Int)) = true := decide_eq_true c4
      clear c4
      simp only [Option.some.injEq, Prod.mk.injEq] at H
      obtain ⟨rfl, rfl⟩ := H
      obtain ⟨HGz5, hgz5⟩ := HI0.out
      have hcz5_0 := cellS59_0 HGz5
      have hcz5_1 := cellS59_1 HGz5
      have hfz5_0 := blk_frozen HGz5 0
      have hfz5_1 := blk_frozen HGz5 1
      clear HGz5 hgz5
      go_enter Tryf.func31, Tryf.ntmps31
      go_wp2
      first | go_end0 | ((try simp only [Exit.inBlock, Exit.then]); refine bodyPost_ret (results_none rfl _ _ _) rfl ?_)
      exact ⟨by first | rfl | (simp [errW_none, errW_some] <;> rfl) | (simp [*, errW_none, errW_some] <;> rfl), by repeat (first | (with_reducible first | exact HI0.out | apply IsS59.alloc | apply IsS59.drewN | apply IsS59.drew | apply IsS59.set_0 | apply IsS59.set_1) | exact HI0.out), by repeat (first | (with_reducible first | exact HB.out | apply below_alloc | apply pw_below_drewN | apply below_drew1 | refine below_set ?_ (IsS59.ge HI0.out)) | exact HB.out), by repeat (first | (with_reducible first | exact HK.out | apply KeepBut.set_ | apply keep_drewN | apply keep_drew | apply keep_alloc) | exact HK.out)⟩
    · rw [if_neg c4] at H
      exact absurd H (by simp)
  · rw [if_neg c3] at H
    exact absurd H (by simp)

-- NOT PRINTED: function 21 (goprinter_go_ast_directiveScanner_skipSpace)

/-! ### goprinter_go_ast_directiveScanner_take: function 26 -/
def goprinter_go_ast_directiveScanner_take.f (s0_0 : ByteArray) (s0_1 : Int) (a1 : Int) : Option (ByteArray × ByteArray × Int) := if 0 ≤ a1 then (if a1 ≤ (s0_0.size : Int) then ((goprinter_go_ast_directiveScanner_skip.f s0_0 s0_1 a1).bind fun bt142 => (some (s0_0.extract 0 (a1 : Int).toNat, bt142.1, bt142.2))) else (none)) else (none)
set_option maxHeartbeats 8000000 in
set_option maxRecDepth 100000 in
theorem goprinter_go_ast_directiveScanner_take.calls (g : Nat) (s0_0 : ByteArray) (s0_1 : Int) (a1 : Int) (r1 : ByteArray) (r2 : ByteArray) (r3 : Int) (w0 w : World) (hI : IsS59 w0 w g s0_0 s0_1) (hB : Below w0.heap.size w0 w) (h : goprinter_go_ast_directiveScanner_take.f s0_0 s0_1 a1 = some (r1, r2, r3)) :
    Calls Tryf.prog 26 #[.pointer (some ⟨g, 0, none⟩), .int .i64 a1] w fun e w' => e = .returned (.string r1) ∧ IsS59 w0 w' g r2 r3 ∧ Below w0.heap.size w0 w' ∧ KeepBut w w' g none := by
  have HI0 := Aside0.mk hI
  have HK := Aside0.mk (KeepBut.refl w g none)
  have HL := Aside0.mk hB.size
  clear hI
  have HW0 := Aside0.mk hB.size
  have HB := Aside0.mk hB
  clear hB
  have H : (if 0 ≤ a1 then (if a1 ≤ (s0_0.size : Int) then ((goprinter_go_ast_directiveScanner_skip.f s0_0 s0_1 a1).bind fun bt142 => (some (s0_0.extract 0 (a1 : Int).toNat, bt142.1, bt142.2))) else (none)) else (none)) = some (r1, r2, r3) := h
  clear h
  by_cases c3 : 0 ≤ a1
  · rw [if_pos c3] at H
    have c3b0 := eq_true c3
    have c3b1 : decide (0 ≤ a1) = true := decide_eq_true c3
    clear c3
    by_cases c4 : a1 ≤ (s0_0.size : Int)
    · rw [if_pos c4] at H
      have c4b0 := eq_true c4
      have c4b1 : decide (a1 ≤ (s0_0.size : Int)) = true := decide_eq_true c4
      clear c4
      replace H := Option.bind_eq_some_iff.mp H
      obtain ⟨⟨t142, t143⟩, A50, H⟩ := H
      replace H : (some (s0_0.extract 0 (a1 : Int).toNat, t142, t143)) = some (r1, r2, r3) := H
      have A5 := Aside0.mk A50
      clear A50
      simp only [Option.some.injEq, Prod.mk.injEq] at H
      obtain ⟨rfl, rfl, rfl⟩ := H
      obtain ⟨HGz6, hgz6⟩ := HI0.out
      have hcz6_0 := cellS59_0 HGz6
      have hcz6_1 := cellS59_1 HGz6
      have hfz6_0 := blk_frozen HGz6 0
      have hfz6_1 := blk_frozen HGz6 1
      clear HGz6 hgz6
      go_enter Tryf.func26, Tryf.ntmps26
      go_wp2_with (first | ((with_reducible refine gate_callee (f := 31) rfl ?_); refine goesL_ (some 14) rfl rfl Tryf.func31 (by kernel_rfl) rfl #[.pointer (some ⟨g, 0, none⟩), .int .i64 a1] rfl (by (try simp only [List.map_toArray, List.map_cons, List.map_nil]); first | done | rfl | (simp only [List.length_drop, List.length_take]; rfl)) ?_; (with_reducible refine (goprinter_go_ast_directiveScanner_skip.calls g s0_0 s0_1 a1 t142 t143 w0 _ ?side1 ?side2 A5.out).mono ?_); (case side1 => repeat (first | (with_reducible first | exact HI0.out | apply IsS59.alloc | apply IsS59.drewN | apply IsS59.drew | apply IsS59.set_0 | apply IsS59.set_1) | exact HI0.out)); (case side2 => repeat (first | (with_reducible first | exact HB.out | apply below_alloc | apply pw_below_drewN | apply below_drew1 | refine below_set ?_ (IsS59.ge HI0.out)) | exact HB.out)); rintro e w7 ⟨rfl, hi, hb, hk⟩; refine ⟨_, rfl, ?_⟩; have n0_ := Aside0.mk (KeepBut.trans (by repeat (first | (with_reducible first | exact HK.out | apply KeepBut.set_ | apply keep_drewN | apply keep_drew | apply keep_alloc) | exact HK.out)) hk (.inl rfl)); have n1_ := Aside0.mk (hb); have n2_ := Aside0.mk (hi); clear HK; clear HB; clear HI0; have HK := n0_; have HB := n1_; have HI0 := n2_; clear n0_ n1_ n2_; (try clear hb); (try clear hb2); (try clear hk); (try clear hi)))
      go_ret
      exact ⟨by first | rfl | (simp [errW_none, errW_some] <;> rfl) | (simp [*, errW_none, errW_some] <;> rfl), by repeat (first | (with_reducible first | exact HI0.out | apply IsS59.alloc | apply IsS59.drewN | apply IsS59.drew | apply IsS59.set_0 | apply IsS59.set_1) | exact HI0.out), by repeat (first | (with_reducible first | exact HB.out | apply below_alloc | apply pw_below_drewN | apply below_drew1 | refine below_set ?_ (IsS59.ge HI0.out)) | exact HB.out), by repeat (first | (with_reducible first | exact HK.out | apply KeepBut.set_ | apply keep_drewN | apply keep_drew | apply keep_alloc) | exact HK.out)⟩
    · rw [if_neg c4] at H
      exact absurd H (by simp)
  · rw [if_neg c3] at H
    exact absurd H (by simp)

-- NOT PRINTED: function 32 (strings_IndexFunc)

-- NOT PRINTED: function 22 (goprinter_go_ast_directiveScanner_takeNonSpace)

-- NOT PRINTED: function 36 (utf8_decodeRuneInStringSlow)

-- NOT PRINTED: function 27 (utf8_DecodeRuneInString)

-- NOT PRINTED: function 46 (bytealg_IndexByteString)

-- NOT PRINTED: function 39 (strconv_index)

-- NOT PRINTED: function 40 (strconv_contains)

end Go.Proofs.YtcjiafjahfmdoaaFmt.A
