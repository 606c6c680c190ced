/- impl.ParseDirective is parseF of its arguments, wherever the tables hold what their initialisers lay. -/
import Derived.Test.YtcjiafjahfmdoaaDoorA9
import Derived.Test.YtcjiafjahfmdoaaDoorA10
import Derived.WalkSpells
import Derived.Deep.RegionLaw
import Derived.Deep.DrawnRows
namespace Go.Proofs.YtcjiafjahfmdoaaDoor.A
set_option linter.unusedVariables false
set_option linter.unusedSimpArgs false
open Go.RowKit Go.Proofs.YtcjiafjahfmdoaaDoorW.PrintWords Go.Proofs.YtcjiafjahfmdoaaDoorW.PrintLast Go.Proofs.YtcjiafjahfmdoaaDoorW.PrintMore
attribute [local go_sem ↓] Go.wp_at_zero Go.wp_at_succ

abbrev Dir := ByteArray × ByteArray × ByteArray × Int × Int × Bool
def noDir : Dir := ((⟨#[]⟩ : ByteArray), (⟨#[]⟩ : ByteArray), (⟨#[]⟩ : ByteArray), 0, 0, false)
/-- The bytes up to behind the colon, but for it, are small letters and digits. -/
def alL : Nat → ByteArray → Int → Int → Option Bool
  | 0, _, _, _ => none
  | k + 1, s, j, i => if i ≤ wrap64 (j + 1) then (if i = j then alL k s j (wrap64 (i + 1)) else if 0 ≤ i then (if i < (s.size : Int) then ((goprinter_go_ast_isalnum.f (bt s i)).bind fun b => if b = true then alL k s j (wrap64 (i + 1)) else some false) else none) else none) else some true
def finF (pos : Int) (s : ByteArray) (p j : Int) : Option Dir :=
  (goprinter_go_ast_directiveScanner_take.f s p j).bind fun a => (goprinter_go_ast_directiveScanner_skip.f a.2.1 a.2.2 1).bind fun b => (goprinter_go_ast_directiveScanner_takeNonSpace.f b.1 b.2).bind fun c => (goprinter_go_ast_directiveScanner_skipSpace.f c.2.1 c.2.2).bind fun d => (strings_TrimRightFunc.f d.1).bind fun e => some (a.1, c.1, e, pos, d.2, true)
def tailF (k : Nat) (pos : Int) (c : ByteArray) : Option Dir :=
  (goprinter_go_ast_directiveScanner_skip.f c pos 2).bind fun a => (goprinter_go_ast_zzIndex.f k a.1 (⟨#[58]⟩ : ByteArray)).bind fun j => if j ≤ 0 then some noDir else if wrap64 (j + 1) ≥ (a.1.size : Int) then some noDir else (alL k a.1 j 0).bind fun ok => if ok = true then finF pos a.1 a.2 j else some noDir
def parseF (k : Nat) (pos : Int) (c : ByteArray) : Option Dir :=
  if (c.size : Int) ≥ 3 then (if bt c 0 = 47 then (if bt c 1 = 47 then ((goprinter_go_ast_isalnum.f (bt c 2)).bind fun a => if a = true then tailF k pos c else some noDir) else some noDir) else some noDir) else some noDir

def dirV (r : Dir) : Value := .tuple #[.agg #[.string r.1, .string r.2.1, .string r.2.2.1, .int .i64 r.2.2.2.1, .int .i64 r.2.2.2.2.1], .bool r.2.2.2.2.2]

abbrev zeroC : Array Value := #[.string (⟨#[]⟩ : ByteArray), .string (⟨#[]⟩ : ByteArray), .string (⟨#[]⟩ : ByteArray), .int .i64 0, .int .i64 0]
theorem put5 {W : World} {g : Nat} {x0 x1 x2 x3 x4 : Value} {t : TypeId} (h : W.heap[g]? = some (.cells #[x0, x1, x2, x3, x4] t (0, 0))) (a b c d e : Value) :
    (((((W.setCell ⟨g, 0, none⟩ a).setCell ⟨g, 1, none⟩ b).setCell ⟨g, 2, none⟩ c).setCell ⟨g, 3, none⟩ d).setCell ⟨g, 4, none⟩ e).heap[g]? = some (.cells #[a, b, c, d, e] t (0, 0)) :=
  blk_set (blk_set (blk_set (blk_set (blk_set h 0 a) 1 b) 2 c) 3 d) 4 e
theorem below5 {w W : World} {B g : Nat} (h : Below B w W) (hg : B ≤ g) (a b c d e : Value) : Below B w (((((W.setCell ⟨g, 0, none⟩ a).setCell ⟨g, 1, none⟩ b).setCell ⟨g, 2, none⟩ c).setCell ⟨g, 3, none⟩ d).setCell ⟨g, 4, none⟩ e) :=
  ((((h.setCell hg _).setCell hg _).setCell hg _).setCell hg _).setCell hg _
set_option maxHeartbeats 8000000 in
set_option maxRecDepth 100000 in
theorem ast_early1 (pos : Int) (c : ByteArray) (w : World) (h : ¬ (c.size : Int) ≥ 3) :
    Calls Tryd.prog 16 #[.int .i64 pos, .string c] w fun e w' => e = .returned (dirV noDir) ∧ Below w.heap.size w w' := by
  have h0 : decide (3 ≤ (c.size : Int)) = false := decide_eq_false h
  have h1 : decide (3 ≤ c.size) = false := decide_eq_false (by omega)
  clear h
  go_enter Tryd.func16, Tryd.ntmps16
  go_wp2
  refine bodyPost_ret (results_ct rfl _ _ w.heap.size 37 #[.string (⟨#[]⟩ : ByteArray), .string (⟨#[]⟩ : ByteArray), .string (⟨#[]⟩ : ByteArray), .int .i64 0, .int .i64 0] (0, 0) _ rfl (heap_alloc_new w _) Tryd.underlying37 rfl (by kernel_rfl)) rfl ?_
  exact ⟨rfl, below_alloc (Below.refl _ _) _⟩

set_option maxHeartbeats 8000000 in
set_option maxRecDepth 100000 in
theorem ast_early2 (pos : Int) (c : ByteArray) (w : World) (h : (c.size : Int) ≥ 3) (n0 : ¬ bt c 0 = 47) :
    Calls Tryd.prog 16 #[.int .i64 pos, .string c] w fun e w' => e = .returned (dirV noDir) ∧ Below w.heap.size w w' := by
  have h0 : decide (3 ≤ (c.size : Int)) = true := decide_eq_true h
  have h1 : decide (3 ≤ c.size) = true := decide_eq_true (by omega)
  have hx0 : ∀ h : 0 < c.size, ((c[0]'h).toNat : Int) = bt c 0 := bt_at c 0
  have q0 : (0 < c.size) = True := eq_true (by omega)
  have z0 : (bt c 0 == 47) = false := beq_eq_false_iff_ne.2 n0
  clear h n0
  go_enter Tryd.func16, Tryd.ntmps16
  go_wp2
  refine bodyPost_ret (results_ct rfl _ _ w.heap.size 37 #[.string (⟨#[]⟩ : ByteArray), .string (⟨#[]⟩ : ByteArray), .string (⟨#[]⟩ : ByteArray), .int .i64 0, .int .i64 0] (0, 0) _ rfl (heap_alloc_new w _) Tryd.underlying37 rfl (by kernel_rfl)) rfl ?_
  exact ⟨rfl, below_alloc (Below.refl _ _) _⟩

set_option maxHeartbeats 8000000 in
set_option maxRecDepth 100000 in
theorem ast_early3 (pos : Int) (c : ByteArray) (w : World) (h : (c.size : Int) ≥ 3) (n0 : bt c 0 = 47) (n1 : ¬ bt c 1 = 47) :
    Calls Tryd.prog 16 #[.int .i64 pos, .string c] w fun e w' => e = .returned (dirV noDir) ∧ Below w.heap.size w w' := by
  have h0 : decide (3 ≤ (c.size : Int)) = true := decide_eq_true h
  have h1 : decide (3 ≤ c.size) = true := decide_eq_true (by omega)
  have hx0 : ∀ h : 0 < c.size, ((c[0]'h).toNat : Int) = bt c 0 := bt_at c 0
  have hx1 : ∀ h : 1 < c.size, ((c[1]'h).toNat : Int) = bt c 1 := bt_at c 1
  have q0 : (0 < c.size) = True := eq_true (by omega)
  have q1 : (1 < c.size) = True := eq_true (by omega)
  have z0 : (bt c 0 == 47) = true := beq_iff_eq.2 n0
  have z1 : (bt c 1 == 47) = false := beq_eq_false_iff_ne.2 n1
  have s1 : (1 < (c.size : Int)) = True := eq_true (by omega)
  clear h n0 n1
  go_enter Tryd.func16, Tryd.ntmps16
  go_wp2
  refine bodyPost_ret (results_ct rfl _ _ w.heap.size 37 #[.string (⟨#[]⟩ : ByteArray), .string (⟨#[]⟩ : ByteArray), .string (⟨#[]⟩ : ByteArray), .int .i64 0, .int .i64 0] (0, 0) _ rfl (heap_alloc_new w _) Tryd.underlying37 rfl (by kernel_rfl)) rfl ?_
  exact ⟨rfl, below_alloc (Below.refl _ _) _⟩

set_option maxHeartbeats 8000000 in
set_option maxRecDepth 100000 in
theorem ast_early4 (pos : Int) (c : ByteArray) (w : World) (h : (c.size : Int) ≥ 3) (n0 : bt c 0 = 47) (n1 : bt c 1 = 47) (n2 : goprinter_go_ast_isalnum.f (bt c 2) = some false) :
    Calls Tryd.prog 16 #[.int .i64 pos, .string c] w fun e w' => e = .returned (dirV noDir) ∧ Below w.heap.size w w' := by
  have h0 : decide (3 ≤ (c.size : Int)) = true := decide_eq_true h
  have h1 : decide (3 ≤ c.size) = true := decide_eq_true (by omega)
  have hx0 : ∀ h : 0 < c.size, ((c[0]'h).toNat : Int) = bt c 0 := bt_at c 0
  have hx1 : ∀ h : 1 < c.size, ((c[1]'h).toNat : Int) = bt c 1 := bt_at c 1
  have hx2 : ∀ h : 2 < c.size, ((c[2]'h).toNat : Int) = bt c 2 := bt_at c 2
  have q0 : (0 < c.size) = True := eq_true (by omega)
  have q1 : (1 < c.size) = True := eq_true (by omega)
  have q2 : (2 < c.size) = True := eq_true (by omega)
  have z0 : (bt c 0 == 47) = true := beq_iff_eq.2 n0
  have z1 : (bt c 1 == 47) = true := beq_iff_eq.2 n1
  have s1 : (1 < (c.size : Int)) = True := eq_true (by omega)
  have s2 : (2 < (c.size : Int)) = True := eq_true (by omega)
  have HA := Aside0.mk n2
  clear h n0 n1 n2
  go_enter Tryd.func16, Tryd.ntmps16
  go_wp2_with (go_at_call 21; refine (goprinter_go_ast_isalnum.calls (bt c 2) false _ HA.out).mono ?_; rintro e w1 ⟨rfl, ⟨nd, rfl⟩⟩)
  have hb : ((w.alloc (.cells zeroC 37)).drewN nd).heap[w.heap.size]? = some (.cells zeroC 37 (0, 0)) := heap_alloc_new w _
  refine bodyPost_ret (results_ct rfl _ _ w.heap.size 37 zeroC (0, 0) _ rfl (put5 hb _ _ _ _ _) Tryd.underlying37 rfl (by kernel_rfl)) rfl ?_
  exact ⟨rfl, below5 (pw_below_drewN (below_alloc (Below.refl _ _) _) _) (Nat.le_refl _) _ _ _ _ _⟩

theorem new_facts (w : World) (nd : Nat) (c : ByteArray) (pos : Int) :
    IsS49 w (((w.alloc (.cells zeroC 37)).drewN nd).alloc (.cells #[.string c, .int .i64 pos] 49)) (w.heap.size + 1) c pos ∧ Below w.heap.size w (((w.alloc (.cells zeroC 37)).drewN nd).alloc (.cells #[.string c, .int .i64 pos] 49)) ∧
      (((w.alloc (.cells zeroC 37)).drewN nd).alloc (.cells #[.string c, .int .i64 pos] 49)).heap[w.heap.size]? = some (.cells zeroC 37 (0, 0)) := by
  have hb : Below w.heap.size w ((w.alloc (.cells zeroC 37)).drewN nd) := pw_below_drewN (below_alloc (Below.refl _ _) _) _
  have h1 := IsS49.new w ((w.alloc (.cells zeroC 37)).drewN nd) c pos hb
  have hs : ((w.alloc (.cells zeroC 37)).drewN nd).heap.size = w.heap.size + 1 := by simp
  rw [hs] at h1
  have hz : ((w.alloc (.cells zeroC 37)).drewN nd).heap[w.heap.size]? = some (.cells zeroC 37 (0, 0)) := heap_alloc_new w _
  exact ⟨h1, below_alloc hb _, blk_alloc hz _⟩
theorem zero_facts {W : World} {g t : Nat} (h : W.heap[g]? = some (.cells zeroC t (0, 0))) :
    W.cell? ⟨g, 0, none⟩ = some (.string ⟨#[]⟩) ∧ W.cell? ⟨g, 1, none⟩ = some (.string ⟨#[]⟩) ∧ W.cell? ⟨g, 2, none⟩ = some (.string ⟨#[]⟩) ∧ W.cell? ⟨g, 3, none⟩ = some (.int .i64 0) ∧ W.cell? ⟨g, 4, none⟩ = some (.int .i64 0) ∧
      W.frozen? ⟨g, 0, none⟩ = false ∧ W.frozen? ⟨g, 1, none⟩ = false ∧ W.frozen? ⟨g, 2, none⟩ = false ∧ W.frozen? ⟨g, 3, none⟩ = false ∧ W.frozen? ⟨g, 4, none⟩ = false :=
  ⟨blk_cell h 0, blk_cell h 1, blk_cell h 2, blk_cell h 3, blk_cell h 4, blk_frozen h 0, blk_frozen h 1, blk_frozen h 2, blk_frozen h 3, blk_frozen h 4⟩

set_option maxHeartbeats 16000000 in
set_option maxRecDepth 100000 in
theorem ast_tail (k : Nat) (pos : Int) (c : ByteArray) (r : Dir) (w : World) (hT : Tabs w) (h : (c.size : Int) ≥ 3) (n0 : bt c 0 = 47) (n1 : bt c 1 = 47) (n2 : goprinter_go_ast_isalnum.f (bt c 2) = some true) (hr : tailF k pos c = some r) :
    Calls Tryd.prog 16 #[.int .i64 pos, .string c] w fun e w' => e = .returned (dirV r) ∧ Below w.heap.size w w' := by
  have h0 : decide (3 ≤ (c.size : Int)) = true := decide_eq_true h
  have h1 : decide (3 ≤ c.size) = true := decide_eq_true (by omega)
  have hx0 : ∀ h : 0 < c.size, ((c[0]'h).toNat : Int) = bt c 0 := bt_at c 0
  have hx1 : ∀ h : 1 < c.size, ((c[1]'h).toNat : Int) = bt c 1 := bt_at c 1
  have hx2 : ∀ h : 2 < c.size, ((c[2]'h).toNat : Int) = bt c 2 := bt_at c 2
  have q0 : (0 < c.size) = True := eq_true (by omega)
  have q1 : (1 < c.size) = True := eq_true (by omega)
  have q2 : (2 < c.size) = True := eq_true (by omega)
  have z0 : (bt c 0 == 47) = true := beq_iff_eq.2 n0
  have z1 : (bt c 1 == 47) = true := beq_iff_eq.2 n1
  have s1 : (1 < (c.size : Int)) = True := eq_true (by omega)
  have s2 : (2 < (c.size : Int)) = True := eq_true (by omega)
  have HA := Aside0.mk n2
  have HT := Aside0.mk hT
  clear h n0 n1 n2 hT
  unfold tailF at hr
  obtain ⟨⟨rs, p⟩, hk0, hr⟩ := Option.bind_eq_some_iff.1 hr
  obtain ⟨j, hj, hr⟩ := Option.bind_eq_some_iff.1 hr
  have HK0 := Aside0.mk hk0
  have HJ := Aside0.mk hj
  simp only at hr
  clear hk0 hj
  by_cases hj0 : j ≤ 0
  · rw [if_pos hj0] at hr
    obtain rfl := Option.some.inj hr
    have d0 : decide (j ≤ 0) = true := decide_eq_true hj0
    clear hj0 hr
    go_enter Tryd.func16, Tryd.ntmps16
    go_wp2_with fail
    refine (goprinter_go_ast_isalnum.calls (bt c 2) true _ HA.out).mono ?_
    rintro e w1 ⟨rfl, ⟨nd, rfl⟩⟩
    go_wp2_with fail
    obtain ⟨hI0, hB0, BK0⟩ := new_facts w nd c pos
    refine (goprinter_go_ast_directiveScanner_skip.calls (w.heap.size + 1) c pos 2 rs p w _ hI0 hB0 HK0.out).mono ?_
    clear hI0 hB0
    rintro e w1 ⟨rfl, hI1, hB1, hK1⟩
    have BK1 : w1.heap[w.heap.size]? = some (.cells zeroC 37 (0, 0)) := hK1.blk BK0 (by omega) (by simp)
    clear BK0 hK1
    have hI1' := Aside0.mk hI1
    have hB1' := Aside0.mk hB1
    have BK1' := Aside0.mk BK1
    have c0 : w1.cell? ⟨w.heap.size + 1, 0, none⟩ = some (.string rs) := (blk_cell hI1.1 0).trans rfl
    obtain ⟨a0, a1, a2, a3, a4, f0, f1, f2, f3, f4⟩ := zero_facts BK1
    clear hI1 hB1 BK1
    go_wp2_with fail
    refine (goprinter_go_ast_zzIndex.calls k rs _ j _ HJ.out).mono ?_
    rintro e w2 ⟨rfl, ⟨nd2, rfl⟩⟩
    go_wp2
    refine bodyPost_ret (results_ct rfl _ _ w.heap.size 37 zeroC (0, 0) _ rfl (put5 (x0 := .string ⟨#[]⟩) (x1 := .string ⟨#[]⟩) (x2 := .string ⟨#[]⟩) (x3 := .int .i64 0) (x4 := .int .i64 0) (t := 37) BK1'.out _ _ _ _ _) Tryd.underlying37 rfl (by kernel_rfl)) rfl ?_
    exact ⟨rfl, below5 (pw_below_drewN hB1'.out _) (Nat.le_refl _) _ _ _ _ _⟩
  · rw [if_neg hj0] at hr
    have d0 : decide (j ≤ 0) = false := decide_eq_false hj0
    by_cases hj1 : wrap64 (j + 1) ≥ (rs.size : Int)
    · rw [if_pos hj1] at hr
      obtain rfl := Option.some.inj hr
      have d1 : decide ((rs.size : Int) ≤ wrap64 (j + 1)) = true := decide_eq_true hj1
      clear hj0 hj1 hr
      go_enter Tryd.func16, Tryd.ntmps16
      go_wp2_with fail
      refine (goprinter_go_ast_isalnum.calls (bt c 2) true _ HA.out).mono ?_
      rintro e w1 ⟨rfl, ⟨nd, rfl⟩⟩
      go_wp2_with fail
      obtain ⟨hI0, hB0, BK0⟩ := new_facts w nd c pos
      refine (goprinter_go_ast_directiveScanner_skip.calls (w.heap.size + 1) c pos 2 rs p w _ hI0 hB0 HK0.out).mono ?_
      clear hI0 hB0
      rintro e w1 ⟨rfl, hI1, hB1, hK1⟩
      have BK1 : w1.heap[w.heap.size]? = some (.cells zeroC 37 (0, 0)) := hK1.blk BK0 (by omega) (by simp)
      clear BK0 hK1
      have hI1' := Aside0.mk hI1
      have hB1' := Aside0.mk hB1
      have BK1' := Aside0.mk BK1
      have c0 : w1.cell? ⟨w.heap.size + 1, 0, none⟩ = some (.string rs) := (blk_cell hI1.1 0).trans rfl
      obtain ⟨a0, a1, a2, a3, a4, f0, f1, f2, f3, f4⟩ := zero_facts BK1
      clear hI1 hB1 BK1
      go_wp2_with fail
      refine (goprinter_go_ast_zzIndex.calls k rs _ j _ HJ.out).mono ?_
      rintro e w2 ⟨rfl, ⟨nd2, rfl⟩⟩
      go_wp2
      refine bodyPost_ret (results_ct rfl _ _ w.heap.size 37 zeroC (0, 0) _ rfl (put5 (x0 := .string ⟨#[]⟩) (x1 := .string ⟨#[]⟩) (x2 := .string ⟨#[]⟩) (x3 := .int .i64 0) (x4 := .int .i64 0) (t := 37) BK1'.out _ _ _ _ _) Tryd.underlying37 rfl (by kernel_rfl)) rfl ?_
      exact ⟨rfl, below5 (pw_below_drewN hB1'.out _) (Nat.le_refl _) _ _ _ _ _⟩
    · rw [if_neg hj1] at hr
      have d1 : decide ((rs.size : Int) ≤ wrap64 (j + 1)) = false := decide_eq_false (by omega)
      obtain ⟨ok, hok, hr⟩ := Option.bind_eq_some_iff.1 hr
      have HOK := Aside0.mk hok
      have HR := Aside0.mk hr
      clear hj0 hj1 hr hok
      go_enter Tryd.func16, Tryd.ntmps16
      go_wp2_with fail
      refine (goprinter_go_ast_isalnum.calls (bt c 2) true _ HA.out).mono ?_
      rintro e w1 ⟨rfl, ⟨nd, rfl⟩⟩
      go_wp2_with fail
      obtain ⟨hI0, hB0, BK0⟩ := new_facts w nd c pos
      refine (goprinter_go_ast_directiveScanner_skip.calls (w.heap.size + 1) c pos 2 rs p w _ hI0 hB0 HK0.out).mono ?_
      clear hI0 hB0
      rintro e w1 ⟨rfl, hI1, hB1, hK1⟩
      have BK1 : w1.heap[w.heap.size]? = some (.cells zeroC 37 (0, 0)) := hK1.blk BK0 (by omega) (by simp)
      clear BK0 hK1
      have hI1' := Aside0.mk hI1
      have hB1' := Aside0.mk hB1
      have BK1' := Aside0.mk BK1
      have c0 : w1.cell? ⟨w.heap.size + 1, 0, none⟩ = some (.string rs) := (blk_cell hI1.1 0).trans rfl
      obtain ⟨a0, a1, a2, a3, a4, f0, f1, f2, f3, f4⟩ := zero_facts BK1
      clear hI1 hB1 BK1
      go_wp2_with fail
      refine (goprinter_go_ast_zzIndex.calls k rs _ j _ HJ.out).mono ?_
      rintro e w2 ⟨rfl, ⟨nd2, rfl⟩⟩
      go_wp2
      go_loopg [8] k (fun kq v8 w' => ∃ i : Int, v8 = .int .i64 i ∧ Aside0 (alL kq rs j i = some ok) ∧ Aside0 (IsS49 w w' (w.heap.size + 1) rs p) ∧ Aside0 (Below w.heap.size w w') ∧ Aside0 (w'.heap[w.heap.size]? = some (.cells zeroC 37 (0, 0))))
      case atStart => exact ⟨0, rfl, HOK, hI1', ⟨pw_below_drewN hB1'.out _⟩, BK1'⟩
      case round =>
        clear c0 a0 a1 a2 a3 a4 f0 f1 f2 f3 f4 hI1' hB1' BK1' HOK
        obtain ⟨i, rfl, HL, hI1', hB1', BK1'⟩ := hrel
        have hI1 := hI1'.out
        have c0 : wr.cell? ⟨w.heap.size + 1, 0, none⟩ = some (.string rs) := (blk_cell hI1.1 0).trans rfl
        obtain ⟨a0, a1, a2, a3, a4, f0, f1, f2, f3, f4⟩ := zero_facts BK1'.out
        clear hI1
        cases gk with
        | zero => exact absurd HL.out (by simp [alL])
        | succ k1 =>
          have H := HL.out
          clear HL
          simp only [alL] at H
          by_cases hi : i ≤ wrap64 (j + 1)
          · rw [if_pos hi] at H
            have e0 : decide (i ≤ wrap64 (j + 1)) = true := decide_eq_true hi
            clear hi
            by_cases hij : i = j
            · rw [if_pos hij] at H
              have e1 : (i == j) = true := beq_iff_eq.2 hij
              have HH := Aside0.mk H
              clear hij H
              go_wp2
              go_roundg k1
              case measure => omega
              case rel => exact ⟨wrap64 (i + 1), rfl, HH, hI1', hB1', BK1'⟩
            · rw [if_neg hij] at H
              have e1 : (i == j) = false := beq_eq_false_iff_ne.2 hij
              clear hij
              by_cases hi0 : 0 ≤ i
              · rw [if_pos hi0] at H
                by_cases his : i < (rs.size : Int)
                · rw [if_pos his] at H
                  obtain ⟨b, hb, H⟩ := Option.bind_eq_some_iff.1 H
                  have HB := Aside0.mk hb
                  have HH := Aside0.mk H
                  clear hb H
                  have hx32 := bt_at rs i
                  replace hi0 := eq_true hi0
                  replace his := eq_true his
                  cases b with
                  | true =>
                    go_wp2_with (go_at_call 21; refine (goprinter_go_ast_isalnum.calls (bt rs i) true _ HB.out).mono ?_; rintro e w1 ⟨rfl, ⟨nd, rfl⟩⟩)
                    go_roundg k1
                    case measure => omega
                    case rel => exact ⟨wrap64 (i + 1), rfl, ⟨by have := HH.out; rwa [if_pos trivial] at this⟩, hI1', ⟨pw_below_drewN hB1'.out _⟩, BK1'⟩
                  | false =>
                    have hrr : some noDir = some r := by
                      have h1 := HH.out
                      rw [if_neg (by decide)] at h1
                      have h2 := Option.some.inj h1
                      have h3 := HR.out
                      rw [← h2, if_neg (by decide)] at h3
                      exact h3
                    obtain rfl := Option.some.inj hrr
                    clear hrr
                    go_wp2_with (go_at_call 21; refine (goprinter_go_ast_isalnum.calls (bt rs i) false _ HB.out).mono ?_; rintro e w1 ⟨rfl, ⟨nd, rfl⟩⟩)
                    refine bodyPost_ret (results_ct rfl _ _ w.heap.size 37 zeroC (0, 0) _ rfl (put5 (x0 := .string ⟨#[]⟩) (x1 := .string ⟨#[]⟩) (x2 := .string ⟨#[]⟩) (x3 := .int .i64 0) (x4 := .int .i64 0) (t := 37) BK1'.out _ _ _ _ _) Tryd.underlying37 rfl (by kernel_rfl)) rfl ?_
                    exact ⟨rfl, below5 (pw_below_drewN hB1'.out _) (Nat.le_refl _) _ _ _ _ _⟩
                · rw [if_neg his] at H
                  cases H
              · rw [if_neg hi0] at H
                cases H
          · rw [if_neg hi] at H
            have e0 : decide (i ≤ wrap64 (j + 1)) = false := decide_eq_false hi
            have hok : ok = true := (Option.some.inj H).symm
            subst hok
            have hfin := HR.out
            rw [if_pos rfl] at hfin
            unfold finF at hfin
            obtain ⟨⟨tool, s1', p1⟩, hk1, hfin⟩ := Option.bind_eq_some_iff.1 hfin
            obtain ⟨⟨s2', p2⟩, hk2, hfin⟩ := Option.bind_eq_some_iff.1 hfin
            obtain ⟨⟨name, s3', p3⟩, hk3, hfin⟩ := Option.bind_eq_some_iff.1 hfin
            obtain ⟨⟨s4', p4⟩, hk4, hfin⟩ := Option.bind_eq_some_iff.1 hfin
            obtain ⟨args, hk5, hfin⟩ := Option.bind_eq_some_iff.1 hfin
            obtain rfl := Option.some.inj hfin
            have HK1 := Aside0.mk hk1
            have HK2 := Aside0.mk hk2
            have HK3 := Aside0.mk hk3
            have HK4 := Aside0.mk hk4
            have HK5 := Aside0.mk hk5
            clear hfin H hi HR hk1 hk2 hk3 hk4 hk5 a0 a1 a2 a3 a4 f0 f1 f2 f3 f4 c0
            go_wp2_with fail
            refine (goprinter_go_ast_directiveScanner_take.calls (w.heap.size + 1) rs p j tool s1' p1 w _ hI1'.out hB1'.out HK1.out).mono ?_
            rintro e w3 ⟨rfl, hI3, hB3, hK3⟩
            have BK3 := Aside0.mk (hK3.blk BK1'.out (by omega) (by simp))
            have HI3 := Aside0.mk hI3
            have HB3 := Aside0.mk hB3
            clear hI3 hB3 hK3 BK1' hI1' hB1'
            go_wp2_with fail
            refine (goprinter_go_ast_directiveScanner_skip.calls (w.heap.size + 1) s1' p1 1 s2' p2 w _ HI3.out HB3.out HK2.out).mono ?_
            rintro e w4 ⟨rfl, hI4, hB4, hK4⟩
            have BK4 := Aside0.mk (hK4.blk BK3.out (by omega) (by simp))
            have HI4 := Aside0.mk hI4
            have HB4 := Aside0.mk hB4
            clear hI4 hB4 hK4 BK3 HI3 HB3
            go_wp2_with fail
            refine (goprinter_go_ast_directiveScanner_takeNonSpace.calls (w.heap.size + 1) s2' p2 name s3' p3 w _ HT.out HI4.out HB4.out HK3.out).mono ?_
            rintro e w5 ⟨rfl, hI5, hB5, hK5⟩
            have BK5 := Aside0.mk (hK5.blk BK4.out (by omega) (by simp))
            have HI5 := Aside0.mk hI5
            have HB5 := Aside0.mk hB5
            clear hI5 hB5 hK5 BK4 HI4 HB4
            go_wp2_with fail
            refine (goprinter_go_ast_directiveScanner_skipSpace.calls (w.heap.size + 1) s3' p3 s4' p4 w _ HT.out HI5.out HB5.out HK4.out).mono ?_
            rintro e w6 ⟨rfl, hI6, hB6, hK6⟩
            have BK6 := Aside0.mk (hK6.blk BK5.out (by omega) (by simp))
            have HI6 := Aside0.mk hI6
            have HB6 := Aside0.mk hB6
            have c0 : w6.cell? ⟨w.heap.size + 1, 0, none⟩ = some (.string s4') := (blk_cell hI6.1 0).trans rfl
            have c1 : w6.cell? ⟨w.heap.size + 1, 1, none⟩ = some (.int .i64 p4) := (blk_cell hI6.1 1).trans rfl
            clear hI6 hB6 hK6 BK5 HI5 HB5
            go_wp2_with fail
            refine (strings_TrimRightFunc.calls s4' args _ (HT.out.below HB6.out) HK5.out).mono ?_
            rintro e w7 ⟨rfl, hb7⟩
            have BK7 := blk_below BK6.out hb7
            have HB7 := Aside0.mk (HB6.out.trans (hb7.mono HB6.out.size))
            obtain ⟨a0, a1, a2, a3, a4, f0, f1, f2, f3, f4⟩ := zero_facts BK7
            have BK7' := Aside0.mk BK7
            clear BK7 hb7 BK6 HI6 HB6 c0 c1
            go_wp2
            refine bodyPost_ret (results_ct rfl _ _ w.heap.size 37 #[.string tool, .string name, .string args, .int .i64 pos, .int .i64 p4] (0, 0) _ rfl (put5 (x0 := .string ⟨#[]⟩) (x1 := .string ⟨#[]⟩) (x2 := .string ⟨#[]⟩) (x3 := .int .i64 0) (x4 := .int .i64 0) (t := 37) BK7'.out _ _ _ _ _) Tryd.underlying37 rfl (by kernel_rfl)) rfl ?_
            exact ⟨rfl, below5 HB7.out (Nat.le_refl _) _ _ _ _ _⟩

theorem ast_any (k : Nat) (pos : Int) (c : ByteArray) (r : Dir) (w : World) (hT : Tabs w) (hr : parseF k pos c = some r) :
    Calls Tryd.prog 16 #[.int .i64 pos, .string c] w fun e w' => e = .returned (dirV r) ∧ Below w.heap.size w w' := by
  unfold parseF at hr
  by_cases h : (c.size : Int) ≥ 3
  · rw [if_pos h] at hr
    by_cases n0 : bt c 0 = 47
    · rw [if_pos n0] at hr
      by_cases n1 : bt c 1 = 47
      · rw [if_pos n1] at hr
        obtain ⟨a, ha, hr⟩ := Option.bind_eq_some_iff.1 hr
        cases a with
        | true =>
          rw [if_pos rfl] at hr
          exact ast_tail k pos c r w hT h n0 n1 ha hr
        | false =>
          rw [if_neg (by decide)] at hr
          rw [← Option.some.inj hr]
          exact ast_early4 pos c w h n0 n1 ha
      · rw [if_neg n1] at hr
        rw [← Option.some.inj hr]
        exact ast_early3 pos c w h n0 n1
    · rw [if_neg n0] at hr
      rw [← Option.some.inj hr]
      exact ast_early2 pos c w h n0
  · rw [if_neg h] at hr
    rw [← Option.some.inj hr]
    exact ast_early1 pos c w h

def impl_ParseDirective.f (a0 : Int) (a1 : ByteArray) : Option Dir := parseF 1000000 a0 a1
set_option maxHeartbeats 400000 in
set_option maxRecDepth 100000 in
theorem impl_ParseDirective.calls (a0 : Int) (a1 : ByteArray) (r1 r2 r3 : ByteArray) (r4 r5 : Int) (r6 : Bool) (w : World) (hT : Tabs w) (h : impl_ParseDirective.f a0 a1 = some (r1, r2, r3, r4, r5, r6)) :
    Calls Tryd.prog 7 #[.int .i64 a0, .string a1] w fun e w' => e = .returned (.tuple #[.agg #[.string r1, .string r2, .string r3, .int .i64 r4, .int .i64 r5], .bool r6]) ∧ Below w.heap.size w w' := by
  have HA := fun (m : Nat) (o : Obj) => ast_any 1000000 a0 a1 _ ((w.alloc o).drewN m) (hT.below (pw_below_drewN (below_alloc (Below.refl _ _) _) _)) h
  unfold dirV at HA
  have HH := Aside0.mk HA
  clear HA hT h
  go_enter Tryd.func7, Tryd.ntmps7
  go_wp2_with fail
  refine (HH.out 0 _).mono ?_
  rintro e w1 ⟨rfl, hb1⟩
  have BK0 : (w.alloc (.cells zeroC 24)).heap[w.heap.size]? = some (.cells zeroC 24 (0, 0)) := heap_alloc_new w _
  have BK1 : w1.heap[w.heap.size]? = some (.cells zeroC 24 (0, 0)) := blk_below BK0 hb1
  have hlt := blk_lt BK1
  obtain ⟨a0, a1, a2, a3, a4, f0, f1, f2, f3, f4⟩ := zero_facts BK1
  have HB1 : Aside0 (Below w.heap.size w w1) := ⟨(below_alloc (Below.refl _ _) _).trans (hb1.mono (by simp))⟩
  have BK1' := Aside0.mk BK1
  clear BK0 BK1 hb1
  go_wp2
  refine bodyPost_ret (results_ct rfl _ _ w.heap.size 24 #[.string r1, .string r2, .string r3, .int .i64 r4, .int .i64 r5] (0, 0) _ rfl (blk_alloc (put5 (x0 := .string ⟨#[]⟩) (x1 := .string ⟨#[]⟩) (x2 := .string ⟨#[]⟩) (x3 := .int .i64 0) (x4 := .int .i64 0) (t := 24) BK1'.out _ _ _ _ _) _) Tryd.underlying24 rfl (by kernel_rfl)) rfl ?_
  exact ⟨rfl, below_alloc (below5 HB1.out (Nat.le_refl _) _ _ _ _ _) _⟩
end Go.Proofs.YtcjiafjahfmdoaaDoor.A
