/- The methods Pos and End of the nodes of an expression. -/
import Derived.Test.YtbojpbfckgjgbaaGreatA0
import Derived.Test.YtbojpbfckgjgbaaGreatA1
namespace Go.Proofs.YtbojpbfckgjgbaaGreat.A
open Go.RowKit Go.Proofs.YtbojpbfckgjgbaaGreatW.PrintWords Go.Proofs.YtbojpbfckgjgbaaGreatW.PrintLast Go.Proofs.YtbojpbfckgjgbaaGreatW.PrintMore
set_option linter.unusedVariables false
set_option linter.unusedSimpArgs false


/-- A method's answer, in each world that has the blocks of the kind K as this one has them. -/
def Ans (K : Nat → Prop) (W : World) (f : Nat) (x : Value) (p : Int) : Prop := ∀ W' : World, W.heap.size ≤ W'.heap.size → (∀ k, K k → k < W.heap.size → W'.heap[k]? = W.heap[k]?) → Calls Tryz.prog f #[x] W' fun e w => e = .returned (.int .i64 p) ∧ Below W'.heap.size W' w
/-- A value of an expression: what its methods answer. -/
def PosOf (K : Nat → Prop) (W : World) (v : Value) (p q : Int) : Prop := ∃ T b fp fe, v = .iface T (.pointer (some ⟨b, 0, none⟩)) ∧
  (∀ w, (method 266 T (.pointer (some ⟨b, 0, none⟩)) "Pos").run Tryz.prog w = .ok (fp, .pointer (some ⟨b, 0, none⟩)) w) ∧ (∀ w, (method 266 T (.pointer (some ⟨b, 0, none⟩)) "End").run Tryz.prog w = .ok (fe, .pointer (some ⟨b, 0, none⟩)) w) ∧
  (∀ args w, (callFunc fp args).run Tryz.prog w = .ok (.enter fp args) w) ∧ (∀ args w, (callFunc fe args).run Tryz.prog w = .ok (.enter fe args) w) ∧
  Ans K W fp (.pointer (some ⟨b, 0, none⟩)) p ∧ Ans K W fe (.pointer (some ⟨b, 0, none⟩)) q
theorem Ans.keep {K K' : Nat → Prop} {W W' : World} {f : Nat} {x : Value} {p : Int} (h : Ans K W f x p) (hz : W.heap.size ≤ W'.heap.size) (hk : ∀ k, K k → k < W.heap.size → K' k ∧ W'.heap[k]? = W.heap[k]?) : Ans K' W' f x p := by
  intro W2 hz2 h2
  refine h W2 (Nat.le_trans hz hz2) (fun k hK hl => ?_)
  obtain ⟨h3, h4⟩ := hk k hK hl
  exact (h2 k h3 (Nat.lt_of_lt_of_le hl hz)).trans h4
theorem PosOf.keep {K K' : Nat → Prop} {W W' : World} {v : Value} {p q : Int} (h : PosOf K W v p q) (hz : W.heap.size ≤ W'.heap.size) (hk : ∀ k, K k → k < W.heap.size → K' k ∧ W'.heap[k]? = W.heap[k]?) : PosOf K' W' v p q := by
  obtain ⟨T, b, fp, fe, h1, h2, h3, h4, h5, h6, h7⟩ := h
  exact ⟨T, b, fp, fe, h1, h2, h3, h4, h5, h6.keep hz hk, h7.keep hz hk⟩
theorem PosOf.form {K : Nat → Prop} {W : World} {v : Value} {p q : Int} (h : PosOf K W v p q) : ∃ T b, v = .iface T (.pointer (some ⟨b, 0, none⟩)) := by
  obtain ⟨T, b, fp, fe, h1, _⟩ := h
  exact ⟨T, b, h1⟩
theorem lt_blk {W : World} {b : Nat} {o : Obj} (h : W.heap[b]? = some o) : b < W.heap.size := (Array.getElem?_eq_some_iff.1 h).1

theorem meth42Pos (x : Value) (w : World) : (method 266 42 x "Pos").run Tryz.prog w = .ok (31, x) w := by kernel_rfl
theorem call31 (args : Array Value) (w : World) : (callFunc 31 args).run Tryz.prog w = .ok (.enter 31 args) w := by kernel_rfl

theorem meth42End (x : Value) (w : World) : (method 266 42 x "End").run Tryz.prog w = .ok (30, x) w := by kernel_rfl
theorem call30 (args : Array Value) (w : World) : (callFunc 30 args).run Tryz.prog w = .ok (.enter 30 args) w := by kernel_rfl

set_option maxHeartbeats 1000000 in
set_option maxRecDepth 100000 in
theorem m_lit_Pos (K : Nat → Prop) (W : World) (b : Nat) (p : Int) (vk : Value) (t : ByteArray) (hb : W.heap[b]? = some (.cells #[.int .i64 p, .int .i64 0, vk, .string t] 46 (0, 0))) (kb : K b) : Ans K W 31 (.pointer (some ⟨b, 0, none⟩)) p := by
  intro W2 hz hk
  have hb2 := (hk b kb (lt_blk hb)).trans hb
  have c0 := (blk_cell hb2 0).trans (show _ = some (.int .i64 p : Value) from rfl)
  clear hb hk hz kb hb2
  go_enter Tryz.func31, Tryz.ntmps31
  go_wp2
  go_ret
  exact ⟨rfl, Below.refl _ _⟩

set_option maxHeartbeats 1000000 in
set_option maxRecDepth 100000 in
theorem m_lit_End (K : Nat → Prop) (W : World) (b : Nat) (p : Int) (vk : Value) (t : ByteArray) (hb : W.heap[b]? = some (.cells #[.int .i64 p, .int .i64 0, vk, .string t] 46 (0, 0))) (kb : K b) (hp : 1 ≤ p ∧ p ≤ 1000000) (ht : t.size ≤ 1000) : Ans K W 30 (.pointer (some ⟨b, 0, none⟩)) (p + (t.size : Int)) := by
  intro W2 hz hk
  have hb2 := (hk b kb (lt_blk hb)).trans hb
  have c0 := (blk_cell hb2 0).trans (show _ = some (.int .i64 p : Value) from rfl)
  have c1 := (blk_cell hb2 1).trans (show _ = some (.int .i64 0 : Value) from rfl)
  have c2 := (blk_cell hb2 2).trans (show _ = some (vk : Value) from rfl)
  have c3 := (blk_cell hb2 3).trans (show _ = some (.string t : Value) from rfl)
  obtain ⟨l1, l2⟩ := hp
  clear hb hk hz kb hb2
  go_enter Tryz.func30, Tryz.ntmps30
  go_wp2
  repeat (go_quiet (fail); try go_wp2)
  go_ret
  exact ⟨rfl, by repeat (first | exact Below.refl _ _ | apply pw_below_drewN | apply below_drew1 | apply below_drew)⟩

theorem meth47Pos (x : Value) (w : World) : (method 266 47 x "Pos").run Tryz.prog w = .ok (36, x) w := by kernel_rfl
theorem call36 (args : Array Value) (w : World) : (callFunc 36 args).run Tryz.prog w = .ok (.enter 36 args) w := by kernel_rfl

theorem meth47End (x : Value) (w : World) : (method 266 47 x "End").run Tryz.prog w = .ok (35, x) w := by kernel_rfl
theorem call35 (args : Array Value) (w : World) : (callFunc 35 args).run Tryz.prog w = .ok (.enter 35 args) w := by kernel_rfl

set_option maxHeartbeats 1000000 in
set_option maxRecDepth 100000 in
theorem m_par_Pos (K : Nat → Prop) (W : World) (b : Nat) (p : Int) (x : Value) (q : Int) (hb : W.heap[b]? = some (.cells #[.int .i64 p, x, .int .i64 q] 49 (0, 0))) (kb : K b) : Ans K W 36 (.pointer (some ⟨b, 0, none⟩)) p := by
  intro W2 hz hk
  have hb2 := (hk b kb (lt_blk hb)).trans hb
  have c0 := (blk_cell hb2 0).trans (show _ = some (.int .i64 p : Value) from rfl)
  clear hb hk hz kb hb2
  go_enter Tryz.func36, Tryz.ntmps36
  go_wp2
  go_ret
  exact ⟨rfl, Below.refl _ _⟩

set_option maxHeartbeats 1000000 in
set_option maxRecDepth 100000 in
theorem m_par_End (K : Nat → Prop) (W : World) (b : Nat) (p : Int) (x : Value) (q : Int) (hb : W.heap[b]? = some (.cells #[.int .i64 p, x, .int .i64 q] 49 (0, 0))) (kb : K b) (hq : 1 ≤ q ∧ q ≤ 1000000) : Ans K W 35 (.pointer (some ⟨b, 0, none⟩)) (q + 1) := by
  intro W2 hz hk
  have hb2 := (hk b kb (lt_blk hb)).trans hb
  have c2 := (blk_cell hb2 2).trans (show _ = some (.int .i64 q : Value) from rfl)
  obtain ⟨l1, l2⟩ := hq
  clear hb hk hz kb hb2
  go_enter Tryz.func35, Tryz.ntmps35
  go_wp2
  go_ret
  exact ⟨rfl, Below.refl _ _⟩

theorem meth50Pos (x : Value) (w : World) : (method 266 50 x "Pos").run Tryz.prog w = .ok (39, x) w := by kernel_rfl
theorem call39 (args : Array Value) (w : World) : (callFunc 39 args).run Tryz.prog w = .ok (.enter 39 args) w := by kernel_rfl

theorem meth50End (x : Value) (w : World) : (method 266 50 x "End").run Tryz.prog w = .ok (38, x) w := by kernel_rfl
theorem call38 (args : Array Value) (w : World) : (callFunc 38 args).run Tryz.prog w = .ok (.enter 38 args) w := by kernel_rfl

set_option maxHeartbeats 1000000 in
set_option maxRecDepth 100000 in
theorem m_sel_Pos (K : Nat → Prop) (W : World) (b : Nat) (x : Value) (bi : Nat) (hb : W.heap[b]? = some (.cells #[x, .pointer (some ⟨bi, 0, none⟩)] 56 (0, 0))) (kb : K b) (r r2 : Int) (hx : PosOf K W x r r2) : Ans K W 39 (.pointer (some ⟨b, 0, none⟩)) r := by
  intro W2 hz hk
  have hb2 := (hk b kb (lt_blk hb)).trans hb
  have c0 := (blk_cell hb2 0).trans (show _ = some (x : Value) from rfl)
  obtain ⟨T, bx, fp, fe, rfl, g1, g2, g3, g4, g5, g6⟩ := hx
  have HC := Aside0.mk (g5 W2 hz hk)
  clear g5 g6 g2 g4
  clear hb hk hz kb hb2
  go_enter Tryz.func39, Tryz.ntmps39
  go_wp2_with (refine HC.out.mono ?_; rintro e w1 ⟨rfl, hb1⟩; have HB1 := Aside0.mk hb1; clear hb1)
  go_ret
  exact ⟨rfl, HB1.out⟩

set_option maxHeartbeats 1000000 in
set_option maxRecDepth 100000 in
theorem m_sel_End (K : Nat → Prop) (W : World) (b : Nat) (x : Value) (bi : Nat) (hb : W.heap[b]? = some (.cells #[x, .pointer (some ⟨bi, 0, none⟩)] 56 (0, 0))) (kb : K b) (r : Int) (hx : Ans K W 41 (.pointer (some ⟨bi, 0, none⟩)) r) : Ans K W 38 (.pointer (some ⟨b, 0, none⟩)) r := by
  intro W2 hz hk
  have hb2 := (hk b kb (lt_blk hb)).trans hb
  have c1 := (blk_cell hb2 1).trans (show _ = some (.pointer (some ⟨bi, 0, none⟩) : Value) from rfl)
  have HC := Aside0.mk (hx W2 hz hk)
  clear hx
  clear hb hk hz kb hb2
  go_enter Tryz.func38, Tryz.ntmps38
  go_wp2_with (go_at_call 41; refine HC.out.mono ?_; rintro e w1 ⟨rfl, hb1⟩; have HB1 := Aside0.mk hb1; clear hb1)
  go_ret
  exact ⟨rfl, HB1.out⟩

theorem meth51Pos (x : Value) (w : World) : (method 266 51 x "Pos").run Tryz.prog w = .ok (42, x) w := by kernel_rfl
theorem call42 (args : Array Value) (w : World) : (callFunc 42 args).run Tryz.prog w = .ok (.enter 42 args) w := by kernel_rfl

theorem meth51End (x : Value) (w : World) : (method 266 51 x "End").run Tryz.prog w = .ok (41, x) w := by kernel_rfl
theorem call41 (args : Array Value) (w : World) : (callFunc 41 args).run Tryz.prog w = .ok (.enter 41 args) w := by kernel_rfl

set_option maxHeartbeats 1000000 in
set_option maxRecDepth 100000 in
theorem m_name_Pos (K : Nat → Prop) (W : World) (b : Nat) (p : Int) (t : ByteArray) (vo : Value) (hb : W.heap[b]? = some (.cells #[.int .i64 p, .string t, vo] 54 (0, 0))) (kb : K b) : Ans K W 42 (.pointer (some ⟨b, 0, none⟩)) p := by
  intro W2 hz hk
  have hb2 := (hk b kb (lt_blk hb)).trans hb
  have c0 := (blk_cell hb2 0).trans (show _ = some (.int .i64 p : Value) from rfl)
  clear hb hk hz kb hb2
  go_enter Tryz.func42, Tryz.ntmps42
  go_wp2
  go_ret
  exact ⟨rfl, Below.refl _ _⟩

set_option maxHeartbeats 1000000 in
set_option maxRecDepth 100000 in
theorem m_name_End (K : Nat → Prop) (W : World) (b : Nat) (p : Int) (t : ByteArray) (vo : Value) (hb : W.heap[b]? = some (.cells #[.int .i64 p, .string t, vo] 54 (0, 0))) (kb : K b) (hp : 1 ≤ p ∧ p ≤ 1000000) (ht : t.size ≤ 1000) : Ans K W 41 (.pointer (some ⟨b, 0, none⟩)) (p + (t.size : Int)) := by
  intro W2 hz hk
  have hb2 := (hk b kb (lt_blk hb)).trans hb
  have c0 := (blk_cell hb2 0).trans (show _ = some (.int .i64 p : Value) from rfl)
  have c1 := (blk_cell hb2 1).trans (show _ = some (.string t : Value) from rfl)
  have c2 := (blk_cell hb2 2).trans (show _ = some (vo : Value) from rfl)
  obtain ⟨l1, l2⟩ := hp
  clear hb hk hz kb hb2
  go_enter Tryz.func41, Tryz.ntmps41
  go_wp2
  repeat (go_quiet (fail); try go_wp2)
  go_ret
  exact ⟨rfl, by repeat (first | exact Below.refl _ _ | apply pw_below_drewN | apply below_drew1 | apply below_drew)⟩

theorem meth57Pos (x : Value) (w : World) : (method 266 57 x "Pos").run Tryz.prog w = .ok (47, x) w := by kernel_rfl
theorem call47 (args : Array Value) (w : World) : (callFunc 47 args).run Tryz.prog w = .ok (.enter 47 args) w := by kernel_rfl

theorem meth57End (x : Value) (w : World) : (method 266 57 x "End").run Tryz.prog w = .ok (46, x) w := by kernel_rfl
theorem call46 (args : Array Value) (w : World) : (callFunc 46 args).run Tryz.prog w = .ok (.enter 46 args) w := by kernel_rfl

set_option maxHeartbeats 1000000 in
set_option maxRecDepth 100000 in
theorem m_idx_Pos (K : Nat → Prop) (W : World) (b : Nat) (x : Value) (p : Int) (vy : Value) (q : Int) (hb : W.heap[b]? = some (.cells #[x, .int .i64 p, vy, .int .i64 q] 59 (0, 0))) (kb : K b) (r r2 : Int) (hx : PosOf K W x r r2) : Ans K W 47 (.pointer (some ⟨b, 0, none⟩)) r := by
  intro W2 hz hk
  have hb2 := (hk b kb (lt_blk hb)).trans hb
  have c0 := (blk_cell hb2 0).trans (show _ = some (x : Value) from rfl)
  obtain ⟨T, bx, fp, fe, rfl, g1, g2, g3, g4, g5, g6⟩ := hx
  have HC := Aside0.mk (g5 W2 hz hk)
  clear g5 g6 g2 g4
  clear hb hk hz kb hb2
  go_enter Tryz.func47, Tryz.ntmps47
  go_wp2_with (refine HC.out.mono ?_; rintro e w1 ⟨rfl, hb1⟩; have HB1 := Aside0.mk hb1; clear hb1)
  go_ret
  exact ⟨rfl, HB1.out⟩

set_option maxHeartbeats 1000000 in
set_option maxRecDepth 100000 in
theorem m_idx_End (K : Nat → Prop) (W : World) (b : Nat) (x : Value) (p : Int) (vy : Value) (q : Int) (hb : W.heap[b]? = some (.cells #[x, .int .i64 p, vy, .int .i64 q] 59 (0, 0))) (kb : K b) (hq : 1 ≤ q ∧ q ≤ 1000000) : Ans K W 46 (.pointer (some ⟨b, 0, none⟩)) (q + 1) := by
  intro W2 hz hk
  have hb2 := (hk b kb (lt_blk hb)).trans hb
  have c3 := (blk_cell hb2 3).trans (show _ = some (.int .i64 q : Value) from rfl)
  obtain ⟨l1, l2⟩ := hq
  clear hb hk hz kb hb2
  go_enter Tryz.func46, Tryz.ntmps46
  go_wp2
  go_ret
  exact ⟨rfl, Below.refl _ _⟩

theorem meth60Pos (x : Value) (w : World) : (method 266 60 x "Pos").run Tryz.prog w = .ok (50, x) w := by kernel_rfl
theorem call50 (args : Array Value) (w : World) : (callFunc 50 args).run Tryz.prog w = .ok (.enter 50 args) w := by kernel_rfl

theorem meth60End (x : Value) (w : World) : (method 266 60 x "End").run Tryz.prog w = .ok (49, x) w := by kernel_rfl
theorem call49 (args : Array Value) (w : World) : (callFunc 49 args).run Tryz.prog w = .ok (.enter 49 args) w := by kernel_rfl

set_option maxHeartbeats 1000000 in
set_option maxRecDepth 100000 in
theorem m_sli_Pos (K : Nat → Prop) (W : World) (b : Nat) (x : Value) (p : Int) (vy : Value) (vz : Value) (vm : Value) (vs : Value) (q : Int) (hb : W.heap[b]? = some (.cells #[x, .int .i64 p, vy, vz, vm, vs, .int .i64 q] 62 (0, 0))) (kb : K b) (r r2 : Int) (hx : PosOf K W x r r2) : Ans K W 50 (.pointer (some ⟨b, 0, none⟩)) r := by
  intro W2 hz hk
  have hb2 := (hk b kb (lt_blk hb)).trans hb
  have c0 := (blk_cell hb2 0).trans (show _ = some (x : Value) from rfl)
  obtain ⟨T, bx, fp, fe, rfl, g1, g2, g3, g4, g5, g6⟩ := hx
  have HC := Aside0.mk (g5 W2 hz hk)
  clear g5 g6 g2 g4
  clear hb hk hz kb hb2
  go_enter Tryz.func50, Tryz.ntmps50
  go_wp2_with (refine HC.out.mono ?_; rintro e w1 ⟨rfl, hb1⟩; have HB1 := Aside0.mk hb1; clear hb1)
  go_ret
  exact ⟨rfl, HB1.out⟩

set_option maxHeartbeats 1000000 in
set_option maxRecDepth 100000 in
theorem m_sli_End (K : Nat → Prop) (W : World) (b : Nat) (x : Value) (p : Int) (vy : Value) (vz : Value) (vm : Value) (vs : Value) (q : Int) (hb : W.heap[b]? = some (.cells #[x, .int .i64 p, vy, vz, vm, vs, .int .i64 q] 62 (0, 0))) (kb : K b) (hq : 1 ≤ q ∧ q ≤ 1000000) : Ans K W 49 (.pointer (some ⟨b, 0, none⟩)) (q + 1) := by
  intro W2 hz hk
  have hb2 := (hk b kb (lt_blk hb)).trans hb
  have c6 := (blk_cell hb2 6).trans (show _ = some (.int .i64 q : Value) from rfl)
  obtain ⟨l1, l2⟩ := hq
  clear hb hk hz kb hb2
  go_enter Tryz.func49, Tryz.ntmps49
  go_wp2
  go_ret
  exact ⟨rfl, Below.refl _ _⟩

theorem meth63Pos (x : Value) (w : World) : (method 266 63 x "Pos").run Tryz.prog w = .ok (53, x) w := by kernel_rfl
theorem call53 (args : Array Value) (w : World) : (callFunc 53 args).run Tryz.prog w = .ok (.enter 53 args) w := by kernel_rfl

theorem meth63End (x : Value) (w : World) : (method 266 63 x "End").run Tryz.prog w = .ok (52, x) w := by kernel_rfl
theorem call52 (args : Array Value) (w : World) : (callFunc 52 args).run Tryz.prog w = .ok (.enter 52 args) w := by kernel_rfl

set_option maxHeartbeats 1000000 in
set_option maxRecDepth 100000 in
theorem m_asr_Pos (K : Nat → Prop) (W : World) (b : Nat) (x : Value) (p : Int) (vy : Value) (q : Int) (hb : W.heap[b]? = some (.cells #[x, .int .i64 p, vy, .int .i64 q] 65 (0, 0))) (kb : K b) (r r2 : Int) (hx : PosOf K W x r r2) : Ans K W 53 (.pointer (some ⟨b, 0, none⟩)) r := by
  intro W2 hz hk
  have hb2 := (hk b kb (lt_blk hb)).trans hb
  have c0 := (blk_cell hb2 0).trans (show _ = some (x : Value) from rfl)
  obtain ⟨T, bx, fp, fe, rfl, g1, g2, g3, g4, g5, g6⟩ := hx
  have HC := Aside0.mk (g5 W2 hz hk)
  clear g5 g6 g2 g4
  clear hb hk hz kb hb2
  go_enter Tryz.func53, Tryz.ntmps53
  go_wp2_with (refine HC.out.mono ?_; rintro e w1 ⟨rfl, hb1⟩; have HB1 := Aside0.mk hb1; clear hb1)
  go_ret
  exact ⟨rfl, HB1.out⟩

set_option maxHeartbeats 1000000 in
set_option maxRecDepth 100000 in
theorem m_asr_End (K : Nat → Prop) (W : World) (b : Nat) (x : Value) (p : Int) (vy : Value) (q : Int) (hb : W.heap[b]? = some (.cells #[x, .int .i64 p, vy, .int .i64 q] 65 (0, 0))) (kb : K b) (hq : 1 ≤ q ∧ q ≤ 1000000) : Ans K W 52 (.pointer (some ⟨b, 0, none⟩)) (q + 1) := by
  intro W2 hz hk
  have hb2 := (hk b kb (lt_blk hb)).trans hb
  have c3 := (blk_cell hb2 3).trans (show _ = some (.int .i64 q : Value) from rfl)
  obtain ⟨l1, l2⟩ := hq
  clear hb hk hz kb hb2
  go_enter Tryz.func52, Tryz.ntmps52
  go_wp2
  go_ret
  exact ⟨rfl, Below.refl _ _⟩

theorem meth66Pos (x : Value) (w : World) : (method 266 66 x "Pos").run Tryz.prog w = .ok (56, x) w := by kernel_rfl
theorem call56 (args : Array Value) (w : World) : (callFunc 56 args).run Tryz.prog w = .ok (.enter 56 args) w := by kernel_rfl

theorem meth66End (x : Value) (w : World) : (method 266 66 x "End").run Tryz.prog w = .ok (55, x) w := by kernel_rfl
theorem call55 (args : Array Value) (w : World) : (callFunc 55 args).run Tryz.prog w = .ok (.enter 55 args) w := by kernel_rfl

set_option maxHeartbeats 1000000 in
set_option maxRecDepth 100000 in
theorem m_cal_Pos (K : Nat → Prop) (W : World) (b : Nat) (x : Value) (p : Int) (va : Value) (ve : Value) (q : Int) (hb : W.heap[b]? = some (.cells #[x, .int .i64 p, va, ve, .int .i64 q] 68 (0, 0))) (kb : K b) (r r2 : Int) (hx : PosOf K W x r r2) : Ans K W 56 (.pointer (some ⟨b, 0, none⟩)) r := by
  intro W2 hz hk
  have hb2 := (hk b kb (lt_blk hb)).trans hb
  have c0 := (blk_cell hb2 0).trans (show _ = some (x : Value) from rfl)
  obtain ⟨T, bx, fp, fe, rfl, g1, g2, g3, g4, g5, g6⟩ := hx
  have HC := Aside0.mk (g5 W2 hz hk)
  clear g5 g6 g2 g4
  clear hb hk hz kb hb2
  go_enter Tryz.func56, Tryz.ntmps56
  go_wp2_with (refine HC.out.mono ?_; rintro e w1 ⟨rfl, hb1⟩; have HB1 := Aside0.mk hb1; clear hb1)
  go_ret
  exact ⟨rfl, HB1.out⟩

set_option maxHeartbeats 1000000 in
set_option maxRecDepth 100000 in
theorem m_cal_End (K : Nat → Prop) (W : World) (b : Nat) (x : Value) (p : Int) (va : Value) (ve : Value) (q : Int) (hb : W.heap[b]? = some (.cells #[x, .int .i64 p, va, ve, .int .i64 q] 68 (0, 0))) (kb : K b) (hq : 1 ≤ q ∧ q ≤ 1000000) : Ans K W 55 (.pointer (some ⟨b, 0, none⟩)) (q + 1) := by
  intro W2 hz hk
  have hb2 := (hk b kb (lt_blk hb)).trans hb
  have c4 := (blk_cell hb2 4).trans (show _ = some (.int .i64 q : Value) from rfl)
  obtain ⟨l1, l2⟩ := hq
  clear hb hk hz kb hb2
  go_enter Tryz.func55, Tryz.ntmps55
  go_wp2
  go_ret
  exact ⟨rfl, Below.refl _ _⟩

theorem meth69Pos (x : Value) (w : World) : (method 266 69 x "Pos").run Tryz.prog w = .ok (59, x) w := by kernel_rfl
theorem call59 (args : Array Value) (w : World) : (callFunc 59 args).run Tryz.prog w = .ok (.enter 59 args) w := by kernel_rfl

theorem meth69End (x : Value) (w : World) : (method 266 69 x "End").run Tryz.prog w = .ok (58, x) w := by kernel_rfl
theorem call58 (args : Array Value) (w : World) : (callFunc 58 args).run Tryz.prog w = .ok (.enter 58 args) w := by kernel_rfl

set_option maxHeartbeats 1000000 in
set_option maxRecDepth 100000 in
theorem m_sta_Pos (K : Nat → Prop) (W : World) (b : Nat) (p : Int) (x : Value) (hb : W.heap[b]? = some (.cells #[.int .i64 p, x] 71 (0, 0))) (kb : K b) : Ans K W 59 (.pointer (some ⟨b, 0, none⟩)) p := by
  intro W2 hz hk
  have hb2 := (hk b kb (lt_blk hb)).trans hb
  have c0 := (blk_cell hb2 0).trans (show _ = some (.int .i64 p : Value) from rfl)
  clear hb hk hz kb hb2
  go_enter Tryz.func59, Tryz.ntmps59
  go_wp2
  go_ret
  exact ⟨rfl, Below.refl _ _⟩

set_option maxHeartbeats 1000000 in
set_option maxRecDepth 100000 in
theorem m_sta_End (K : Nat → Prop) (W : World) (b : Nat) (p : Int) (x : Value) (hb : W.heap[b]? = some (.cells #[.int .i64 p, x] 71 (0, 0))) (kb : K b) (r r2 : Int) (hx : PosOf K W x r2 r) : Ans K W 58 (.pointer (some ⟨b, 0, none⟩)) r := by
  intro W2 hz hk
  have hb2 := (hk b kb (lt_blk hb)).trans hb
  have c1 := (blk_cell hb2 1).trans (show _ = some (x : Value) from rfl)
  obtain ⟨T, bx, fp, fe, rfl, g1, g2, g3, g4, g5, g6⟩ := hx
  have HC := Aside0.mk (g6 W2 hz hk)
  clear g5 g6 g1 g3
  clear hb hk hz kb hb2
  go_enter Tryz.func58, Tryz.ntmps58
  go_wp2_with (refine HC.out.mono ?_; rintro e w1 ⟨rfl, hb1⟩; have HB1 := Aside0.mk hb1; clear hb1)
  go_ret
  exact ⟨rfl, HB1.out⟩

theorem meth72Pos (x : Value) (w : World) : (method 266 72 x "Pos").run Tryz.prog w = .ok (62, x) w := by kernel_rfl
theorem call62 (args : Array Value) (w : World) : (callFunc 62 args).run Tryz.prog w = .ok (.enter 62 args) w := by kernel_rfl

theorem meth72End (x : Value) (w : World) : (method 266 72 x "End").run Tryz.prog w = .ok (61, x) w := by kernel_rfl
theorem call61 (args : Array Value) (w : World) : (callFunc 61 args).run Tryz.prog w = .ok (.enter 61 args) w := by kernel_rfl

set_option maxHeartbeats 1000000 in
set_option maxRecDepth 100000 in
theorem m_una_Pos (K : Nat → Prop) (W : World) (b : Nat) (p : Int) (vo : Value) (x : Value) (hb : W.heap[b]? = some (.cells #[.int .i64 p, vo, x] 74 (0, 0))) (kb : K b) : Ans K W 62 (.pointer (some ⟨b, 0, none⟩)) p := by
  intro W2 hz hk
  have hb2 := (hk b kb (lt_blk hb)).trans hb
  have c0 := (blk_cell hb2 0).trans (show _ = some (.int .i64 p : Value) from rfl)
  clear hb hk hz kb hb2
  go_enter Tryz.func62, Tryz.ntmps62
  go_wp2
  go_ret
  exact ⟨rfl, Below.refl _ _⟩

set_option maxHeartbeats 1000000 in
set_option maxRecDepth 100000 in
theorem m_una_End (K : Nat → Prop) (W : World) (b : Nat) (p : Int) (vo : Value) (x : Value) (hb : W.heap[b]? = some (.cells #[.int .i64 p, vo, x] 74 (0, 0))) (kb : K b) (r r2 : Int) (hx : PosOf K W x r2 r) : Ans K W 61 (.pointer (some ⟨b, 0, none⟩)) r := by
  intro W2 hz hk
  have hb2 := (hk b kb (lt_blk hb)).trans hb
  have c2 := (blk_cell hb2 2).trans (show _ = some (x : Value) from rfl)
  obtain ⟨T, bx, fp, fe, rfl, g1, g2, g3, g4, g5, g6⟩ := hx
  have HC := Aside0.mk (g6 W2 hz hk)
  clear g5 g6 g1 g3
  clear hb hk hz kb hb2
  go_enter Tryz.func61, Tryz.ntmps61
  go_wp2_with (refine HC.out.mono ?_; rintro e w1 ⟨rfl, hb1⟩; have HB1 := Aside0.mk hb1; clear hb1)
  go_ret
  exact ⟨rfl, HB1.out⟩

theorem meth75Pos (x : Value) (w : World) : (method 266 75 x "Pos").run Tryz.prog w = .ok (65, x) w := by kernel_rfl
theorem call65 (args : Array Value) (w : World) : (callFunc 65 args).run Tryz.prog w = .ok (.enter 65 args) w := by kernel_rfl

theorem meth75End (x : Value) (w : World) : (method 266 75 x "End").run Tryz.prog w = .ok (64, x) w := by kernel_rfl
theorem call64 (args : Array Value) (w : World) : (callFunc 64 args).run Tryz.prog w = .ok (.enter 64 args) w := by kernel_rfl

set_option maxHeartbeats 1000000 in
set_option maxRecDepth 100000 in
theorem m_bin_Pos (K : Nat → Prop) (W : World) (b : Nat) (x : Value) (p : Int) (vo : Value) (y : Value) (hb : W.heap[b]? = some (.cells #[x, .int .i64 p, vo, y] 77 (0, 0))) (kb : K b) (r r2 : Int) (hx : PosOf K W x r r2) : Ans K W 65 (.pointer (some ⟨b, 0, none⟩)) r := by
  intro W2 hz hk
  have hb2 := (hk b kb (lt_blk hb)).trans hb
  have c0 := (blk_cell hb2 0).trans (show _ = some (x : Value) from rfl)
  obtain ⟨T, bx, fp, fe, rfl, g1, g2, g3, g4, g5, g6⟩ := hx
  have HC := Aside0.mk (g5 W2 hz hk)
  clear g5 g6 g2 g4
  clear hb hk hz kb hb2
  go_enter Tryz.func65, Tryz.ntmps65
  go_wp2_with (refine HC.out.mono ?_; rintro e w1 ⟨rfl, hb1⟩; have HB1 := Aside0.mk hb1; clear hb1)
  go_ret
  exact ⟨rfl, HB1.out⟩

set_option maxHeartbeats 1000000 in
set_option maxRecDepth 100000 in
theorem m_bin_End (K : Nat → Prop) (W : World) (b : Nat) (x : Value) (p : Int) (vo : Value) (y : Value) (hb : W.heap[b]? = some (.cells #[x, .int .i64 p, vo, y] 77 (0, 0))) (kb : K b) (r r2 : Int) (hx : PosOf K W y r2 r) : Ans K W 64 (.pointer (some ⟨b, 0, none⟩)) r := by
  intro W2 hz hk
  have hb2 := (hk b kb (lt_blk hb)).trans hb
  have c3 := (blk_cell hb2 3).trans (show _ = some (y : Value) from rfl)
  obtain ⟨T, bx, fp, fe, rfl, g1, g2, g3, g4, g5, g6⟩ := hx
  have HC := Aside0.mk (g6 W2 hz hk)
  clear g5 g6 g1 g3
  clear hb hk hz kb hb2
  go_enter Tryz.func64, Tryz.ntmps64
  go_wp2_with (refine HC.out.mono ?_; rintro e w1 ⟨rfl, hb1⟩; have HB1 := Aside0.mk hb1; clear hb1)
  go_ret
  exact ⟨rfl, HB1.out⟩

theorem meth78Pos (x : Value) (w : World) : (method 266 78 x "Pos").run Tryz.prog w = .ok (68, x) w := by kernel_rfl
theorem call68 (args : Array Value) (w : World) : (callFunc 68 args).run Tryz.prog w = .ok (.enter 68 args) w := by kernel_rfl

theorem meth78End (x : Value) (w : World) : (method 266 78 x "End").run Tryz.prog w = .ok (67, x) w := by kernel_rfl
theorem call67 (args : Array Value) (w : World) : (callFunc 67 args).run Tryz.prog w = .ok (.enter 67 args) w := by kernel_rfl

set_option maxHeartbeats 1000000 in
set_option maxRecDepth 100000 in
theorem m_kv_Pos (K : Nat → Prop) (W : World) (b : Nat) (x : Value) (p : Int) (y : Value) (hb : W.heap[b]? = some (.cells #[x, .int .i64 p, y] 80 (0, 0))) (kb : K b) (r r2 : Int) (hx : PosOf K W x r r2) : Ans K W 68 (.pointer (some ⟨b, 0, none⟩)) r := by
  intro W2 hz hk
  have hb2 := (hk b kb (lt_blk hb)).trans hb
  have c0 := (blk_cell hb2 0).trans (show _ = some (x : Value) from rfl)
  obtain ⟨T, bx, fp, fe, rfl, g1, g2, g3, g4, g5, g6⟩ := hx
  have HC := Aside0.mk (g5 W2 hz hk)
  clear g5 g6 g2 g4
  clear hb hk hz kb hb2
  go_enter Tryz.func68, Tryz.ntmps68
  go_wp2_with (refine HC.out.mono ?_; rintro e w1 ⟨rfl, hb1⟩; have HB1 := Aside0.mk hb1; clear hb1)
  go_ret
  exact ⟨rfl, HB1.out⟩

set_option maxHeartbeats 1000000 in
set_option maxRecDepth 100000 in
theorem m_kv_End (K : Nat → Prop) (W : World) (b : Nat) (x : Value) (p : Int) (y : Value) (hb : W.heap[b]? = some (.cells #[x, .int .i64 p, y] 80 (0, 0))) (kb : K b) (r r2 : Int) (hx : PosOf K W y r2 r) : Ans K W 67 (.pointer (some ⟨b, 0, none⟩)) r := by
  intro W2 hz hk
  have hb2 := (hk b kb (lt_blk hb)).trans hb
  have c2 := (blk_cell hb2 2).trans (show _ = some (y : Value) from rfl)
  obtain ⟨T, bx, fp, fe, rfl, g1, g2, g3, g4, g5, g6⟩ := hx
  have HC := Aside0.mk (g6 W2 hz hk)
  clear g5 g6 g1 g3
  clear hb hk hz kb hb2
  go_enter Tryz.func67, Tryz.ntmps67
  go_wp2_with (refine HC.out.mono ?_; rintro e w1 ⟨rfl, hb1⟩; have HB1 := Aside0.mk hb1; clear hb1)
  go_ret
  exact ⟨rfl, HB1.out⟩

theorem meth81Pos (x : Value) (w : World) : (method 266 81 x "Pos").run Tryz.prog w = .ok (71, x) w := by kernel_rfl
theorem call71 (args : Array Value) (w : World) : (callFunc 71 args).run Tryz.prog w = .ok (.enter 71 args) w := by kernel_rfl

theorem meth81End (x : Value) (w : World) : (method 266 81 x "End").run Tryz.prog w = .ok (70, x) w := by kernel_rfl
theorem call70 (args : Array Value) (w : World) : (callFunc 70 args).run Tryz.prog w = .ok (.enter 70 args) w := by kernel_rfl

set_option maxHeartbeats 1000000 in
set_option maxRecDepth 100000 in
theorem m_com_Pos (K : Nat → Prop) (W : World) (b : Nat) (x : Value) (p : Int) (va : Value) (q : Int) (vi : Value) (hb : W.heap[b]? = some (.cells #[x, .int .i64 p, va, .int .i64 q, vi] 83 (0, 0))) (kb : K b) (r r2 : Int) (hx : PosOf K W x r r2) : Ans K W 71 (.pointer (some ⟨b, 0, none⟩)) r := by
  intro W2 hz hk
  have hb2 := (hk b kb (lt_blk hb)).trans hb
  have c0 := (blk_cell hb2 0).trans (show _ = some (x : Value) from rfl)
  obtain ⟨T, bx, fp, fe, rfl, g1, g2, g3, g4, g5, g6⟩ := hx
  have HC := Aside0.mk (g5 W2 hz hk)
  clear g5 g6 g2 g4
  clear hb hk hz kb hb2
  go_enter Tryz.func71, Tryz.ntmps71
  go_wp2_with (refine HC.out.mono ?_; rintro e w1 ⟨rfl, hb1⟩; have HB1 := Aside0.mk hb1; clear hb1)
  go_ret
  exact ⟨rfl, HB1.out⟩

set_option maxHeartbeats 1000000 in
set_option maxRecDepth 100000 in
theorem m_com_End (K : Nat → Prop) (W : World) (b : Nat) (x : Value) (p : Int) (va : Value) (q : Int) (vi : Value) (hb : W.heap[b]? = some (.cells #[x, .int .i64 p, va, .int .i64 q, vi] 83 (0, 0))) (kb : K b) (hq : 1 ≤ q ∧ q ≤ 1000000) : Ans K W 70 (.pointer (some ⟨b, 0, none⟩)) (q + 1) := by
  intro W2 hz hk
  have hb2 := (hk b kb (lt_blk hb)).trans hb
  have c3 := (blk_cell hb2 3).trans (show _ = some (.int .i64 q : Value) from rfl)
  obtain ⟨l1, l2⟩ := hq
  clear hb hk hz kb hb2
  go_enter Tryz.func70, Tryz.ntmps70
  go_wp2
  go_ret
  exact ⟨rfl, Below.refl _ _⟩

set_option maxHeartbeats 1000000 in
set_option maxRecDepth 100000 in
theorem m_bra_Pos (K : Nat → Prop) (W : World) (b : Nat) (p : Int) (va : Value) (q : Int) (vi : Value) (hb : W.heap[b]? = some (.cells #[.nilIface, .int .i64 p, va, .int .i64 q, vi] 83 (0, 0))) (kb : K b) : Ans K W 71 (.pointer (some ⟨b, 0, none⟩)) p := by
  intro W2 hz hk
  have hb2 := (hk b kb (lt_blk hb)).trans hb
  have c0 := (blk_cell hb2 0).trans (show _ = some (.nilIface : Value) from rfl)
  have c1 := (blk_cell hb2 1).trans (show _ = some (.int .i64 p : Value) from rfl)
  clear hb hk hz kb hb2
  go_enter Tryz.func71, Tryz.ntmps71
  go_wp2
  go_ret
  exact ⟨rfl, Below.refl _ _⟩

set_option maxHeartbeats 1000000 in
set_option maxRecDepth 100000 in
theorem m_bra_End (K : Nat → Prop) (W : World) (b : Nat) (p : Int) (va : Value) (q : Int) (vi : Value) (hb : W.heap[b]? = some (.cells #[.nilIface, .int .i64 p, va, .int .i64 q, vi] 83 (0, 0))) (kb : K b) (hq : 1 ≤ q ∧ q ≤ 1000000) : Ans K W 70 (.pointer (some ⟨b, 0, none⟩)) (q + 1) := by
  intro W2 hz hk
  have hb2 := (hk b kb (lt_blk hb)).trans hb
  have c3 := (blk_cell hb2 3).trans (show _ = some (.int .i64 q : Value) from rfl)
  obtain ⟨l1, l2⟩ := hq
  clear hb hk hz kb hb2
  go_enter Tryz.func70, Tryz.ntmps70
  go_wp2
  go_ret
  exact ⟨rfl, Below.refl _ _⟩

theorem meth84Pos (x : Value) (w : World) : (method 266 84 x "Pos").run Tryz.prog w = .ok (74, x) w := by kernel_rfl
theorem call74 (args : Array Value) (w : World) : (callFunc 74 args).run Tryz.prog w = .ok (.enter 74 args) w := by kernel_rfl

theorem meth84End (x : Value) (w : World) : (method 266 84 x "End").run Tryz.prog w = .ok (73, x) w := by kernel_rfl
theorem call73 (args : Array Value) (w : World) : (callFunc 73 args).run Tryz.prog w = .ok (.enter 73 args) w := by kernel_rfl

set_option maxHeartbeats 1000000 in
set_option maxRecDepth 100000 in
theorem m_arr_Pos (K : Nat → Prop) (W : World) (b : Nat) (p : Int) (vl : Value) (x : Value) (hb : W.heap[b]? = some (.cells #[.int .i64 p, vl, x] 86 (0, 0))) (kb : K b) : Ans K W 74 (.pointer (some ⟨b, 0, none⟩)) p := by
  intro W2 hz hk
  have hb2 := (hk b kb (lt_blk hb)).trans hb
  have c0 := (blk_cell hb2 0).trans (show _ = some (.int .i64 p : Value) from rfl)
  clear hb hk hz kb hb2
  go_enter Tryz.func74, Tryz.ntmps74
  go_wp2
  go_ret
  exact ⟨rfl, Below.refl _ _⟩

set_option maxHeartbeats 1000000 in
set_option maxRecDepth 100000 in
theorem m_arr_End (K : Nat → Prop) (W : World) (b : Nat) (p : Int) (vl : Value) (x : Value) (hb : W.heap[b]? = some (.cells #[.int .i64 p, vl, x] 86 (0, 0))) (kb : K b) (r r2 : Int) (hx : PosOf K W x r2 r) : Ans K W 73 (.pointer (some ⟨b, 0, none⟩)) r := by
  intro W2 hz hk
  have hb2 := (hk b kb (lt_blk hb)).trans hb
  have c2 := (blk_cell hb2 2).trans (show _ = some (x : Value) from rfl)
  obtain ⟨T, bx, fp, fe, rfl, g1, g2, g3, g4, g5, g6⟩ := hx
  have HC := Aside0.mk (g6 W2 hz hk)
  clear g5 g6 g1 g3
  clear hb hk hz kb hb2
  go_enter Tryz.func73, Tryz.ntmps73
  go_wp2_with (refine HC.out.mono ?_; rintro e w1 ⟨rfl, hb1⟩; have HB1 := Aside0.mk hb1; clear hb1)
  go_ret
  exact ⟨rfl, HB1.out⟩

theorem meth87Pos (x : Value) (w : World) : (method 266 87 x "Pos").run Tryz.prog w = .ok (77, x) w := by kernel_rfl
theorem call77 (args : Array Value) (w : World) : (callFunc 77 args).run Tryz.prog w = .ok (.enter 77 args) w := by kernel_rfl

theorem meth87End (x : Value) (w : World) : (method 266 87 x "End").run Tryz.prog w = .ok (76, x) w := by kernel_rfl
theorem call76 (args : Array Value) (w : World) : (callFunc 76 args).run Tryz.prog w = .ok (.enter 76 args) w := by kernel_rfl

set_option maxHeartbeats 1000000 in
set_option maxRecDepth 100000 in
theorem m_mapt_Pos (K : Nat → Prop) (W : World) (b : Nat) (p : Int) (vk : Value) (x : Value) (hb : W.heap[b]? = some (.cells #[.int .i64 p, vk, x] 89 (0, 0))) (kb : K b) : Ans K W 77 (.pointer (some ⟨b, 0, none⟩)) p := by
  intro W2 hz hk
  have hb2 := (hk b kb (lt_blk hb)).trans hb
  have c0 := (blk_cell hb2 0).trans (show _ = some (.int .i64 p : Value) from rfl)
  clear hb hk hz kb hb2
  go_enter Tryz.func77, Tryz.ntmps77
  go_wp2
  go_ret
  exact ⟨rfl, Below.refl _ _⟩

set_option maxHeartbeats 1000000 in
set_option maxRecDepth 100000 in
theorem m_mapt_End (K : Nat → Prop) (W : World) (b : Nat) (p : Int) (vk : Value) (x : Value) (hb : W.heap[b]? = some (.cells #[.int .i64 p, vk, x] 89 (0, 0))) (kb : K b) (r r2 : Int) (hx : PosOf K W x r2 r) : Ans K W 76 (.pointer (some ⟨b, 0, none⟩)) r := by
  intro W2 hz hk
  have hb2 := (hk b kb (lt_blk hb)).trans hb
  have c2 := (blk_cell hb2 2).trans (show _ = some (x : Value) from rfl)
  obtain ⟨T, bx, fp, fe, rfl, g1, g2, g3, g4, g5, g6⟩ := hx
  have HC := Aside0.mk (g6 W2 hz hk)
  clear g5 g6 g1 g3
  clear hb hk hz kb hb2
  go_enter Tryz.func76, Tryz.ntmps76
  go_wp2_with (refine HC.out.mono ?_; rintro e w1 ⟨rfl, hb1⟩; have HB1 := Aside0.mk hb1; clear hb1)
  go_ret
  exact ⟨rfl, HB1.out⟩

theorem meth90Pos (x : Value) (w : World) : (method 266 90 x "Pos").run Tryz.prog w = .ok (80, x) w := by kernel_rfl
theorem call80 (args : Array Value) (w : World) : (callFunc 80 args).run Tryz.prog w = .ok (.enter 80 args) w := by kernel_rfl

theorem meth90End (x : Value) (w : World) : (method 266 90 x "End").run Tryz.prog w = .ok (79, x) w := by kernel_rfl
theorem call79 (args : Array Value) (w : World) : (callFunc 79 args).run Tryz.prog w = .ok (.enter 79 args) w := by kernel_rfl

set_option maxHeartbeats 1000000 in
set_option maxRecDepth 100000 in
theorem m_cha_Pos (K : Nat → Prop) (W : World) (b : Nat) (p : Int) (vr : Value) (vd : Value) (x : Value) (hb : W.heap[b]? = some (.cells #[.int .i64 p, vr, vd, x] 93 (0, 0))) (kb : K b) : Ans K W 80 (.pointer (some ⟨b, 0, none⟩)) p := by
  intro W2 hz hk
  have hb2 := (hk b kb (lt_blk hb)).trans hb
  have c0 := (blk_cell hb2 0).trans (show _ = some (.int .i64 p : Value) from rfl)
  clear hb hk hz kb hb2
  go_enter Tryz.func80, Tryz.ntmps80
  go_wp2
  go_ret
  exact ⟨rfl, Below.refl _ _⟩

set_option maxHeartbeats 1000000 in
set_option maxRecDepth 100000 in
theorem m_cha_End (K : Nat → Prop) (W : World) (b : Nat) (p : Int) (vr : Value) (vd : Value) (x : Value) (hb : W.heap[b]? = some (.cells #[.int .i64 p, vr, vd, x] 93 (0, 0))) (kb : K b) (r r2 : Int) (hx : PosOf K W x r2 r) : Ans K W 79 (.pointer (some ⟨b, 0, none⟩)) r := by
  intro W2 hz hk
  have hb2 := (hk b kb (lt_blk hb)).trans hb
  have c3 := (blk_cell hb2 3).trans (show _ = some (x : Value) from rfl)
  obtain ⟨T, bx, fp, fe, rfl, g1, g2, g3, g4, g5, g6⟩ := hx
  have HC := Aside0.mk (g6 W2 hz hk)
  clear g5 g6 g1 g3
  clear hb hk hz kb hb2
  go_enter Tryz.func79, Tryz.ntmps79
  go_wp2_with (refine HC.out.mono ?_; rintro e w1 ⟨rfl, hb1⟩; have HB1 := Aside0.mk hb1; clear hb1)
  go_ret
  exact ⟨rfl, HB1.out⟩

theorem meth94Pos (x : Value) (w : World) : (method 266 94 x "Pos").run Tryz.prog w = .ok (83, x) w := by kernel_rfl
theorem call83 (args : Array Value) (w : World) : (callFunc 83 args).run Tryz.prog w = .ok (.enter 83 args) w := by kernel_rfl

theorem meth94End (x : Value) (w : World) : (method 266 94 x "End").run Tryz.prog w = .ok (82, x) w := by kernel_rfl
theorem call82 (args : Array Value) (w : World) : (callFunc 82 args).run Tryz.prog w = .ok (.enter 82 args) w := by kernel_rfl

set_option maxHeartbeats 1000000 in
set_option maxRecDepth 100000 in
theorem m_ell_Pos (K : Nat → Prop) (W : World) (b : Nat) (p : Int) (hb : W.heap[b]? = some (.cells #[.int .i64 p, .nilIface] 96 (0, 0))) (kb : K b) : Ans K W 83 (.pointer (some ⟨b, 0, none⟩)) p := by
  intro W2 hz hk
  have hb2 := (hk b kb (lt_blk hb)).trans hb
  have c0 := (blk_cell hb2 0).trans (show _ = some (.int .i64 p : Value) from rfl)
  clear hb hk hz kb hb2
  go_enter Tryz.func83, Tryz.ntmps83
  go_wp2
  go_ret
  exact ⟨rfl, Below.refl _ _⟩

set_option maxHeartbeats 1000000 in
set_option maxRecDepth 100000 in
theorem m_ell_End (K : Nat → Prop) (W : World) (b : Nat) (p : Int) (hb : W.heap[b]? = some (.cells #[.int .i64 p, .nilIface] 96 (0, 0))) (kb : K b) (hp : 1 ≤ p ∧ p ≤ 1000000) : Ans K W 82 (.pointer (some ⟨b, 0, none⟩)) (p + 3) := by
  intro W2 hz hk
  have hb2 := (hk b kb (lt_blk hb)).trans hb
  have c0 := (blk_cell hb2 0).trans (show _ = some (.int .i64 p : Value) from rfl)
  have c1 := (blk_cell hb2 1).trans (show _ = some (.nilIface : Value) from rfl)
  obtain ⟨l1, l2⟩ := hp
  clear hb hk hz kb hb2
  go_enter Tryz.func82, Tryz.ntmps82
  go_wp2
  go_ret
  exact ⟨rfl, Below.refl _ _⟩
end Go.Proofs.YtbojpbfckgjgbaaGreat.A
