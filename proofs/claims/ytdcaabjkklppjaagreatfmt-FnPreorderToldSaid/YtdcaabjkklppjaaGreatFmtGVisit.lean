/- The tests of a node's type, and impl.visitOf. -/
import Derived.Test.YtdcaabjkklppjaaGreatFmtGTreef
namespace Go.Proofs.YtdcaabjkklppjaaGreatFmt.A
open Go.RowKit Go.Proofs.YtdcaabjkklppjaaGreatFmtW.PrintWords Go.Proofs.YtdcaabjkklppjaaGreatFmtW.PrintLast Go.Proofs.YtdcaabjkklppjaaGreatFmtW.PrintMore
set_option linter.unusedVariables false
set_option linter.unusedSimpArgs false
attribute [local go_sem ↓] Go.wp_at_zero Go.wp_at_succ

theorem zero85 (w : World) : (zeroValue 85).run Tryz.prog w = .ok (.pointer none) w := by kernel_rfl
theorem no85 (T : Nat) (hT : ¬ T = 85) (a : Addr) (w : World) : (Instr.typeAssert (.iface T (.pointer (some a))) 43 85 true).run Tryz.prog w = .ok (.tuple #[.pointer none, .bool false]) w := by
  have h1 := Tryz.underlying85
  have h2 := zero85 w
  unfold Instr.typeAssert
  go_simp
theorem yes85 (a : Addr) (w : World) : (Instr.typeAssert (.iface 85 (.pointer (some a))) 43 85 true).run Tryz.prog w = .ok (.tuple #[.pointer (some a), .bool true]) w := by kernel_rfl
theorem zero86 (w : World) : (zeroValue 86).run Tryz.prog w = .ok (.pointer none) w := by kernel_rfl
theorem no86 (T : Nat) (hT : ¬ T = 86) (a : Addr) (w : World) : (Instr.typeAssert (.iface T (.pointer (some a))) 43 86 true).run Tryz.prog w = .ok (.tuple #[.pointer none, .bool false]) w := by
  have h1 := Tryz.underlying86
  have h2 := zero86 w
  unfold Instr.typeAssert
  go_simp
theorem yes86 (a : Addr) (w : World) : (Instr.typeAssert (.iface 86 (.pointer (some a))) 43 86 true).run Tryz.prog w = .ok (.tuple #[.pointer (some a), .bool true]) w := by kernel_rfl
theorem zero91 (w : World) : (zeroValue 91).run Tryz.prog w = .ok (.pointer none) w := by kernel_rfl
theorem no91 (T : Nat) (hT : ¬ T = 91) (a : Addr) (w : World) : (Instr.typeAssert (.iface T (.pointer (some a))) 43 91 true).run Tryz.prog w = .ok (.tuple #[.pointer none, .bool false]) w := by
  have h1 := Tryz.underlying91
  have h2 := zero91 w
  unfold Instr.typeAssert
  go_simp
theorem yes91 (a : Addr) (w : World) : (Instr.typeAssert (.iface 91 (.pointer (some a))) 43 91 true).run Tryz.prog w = .ok (.tuple #[.pointer (some a), .bool true]) w := by kernel_rfl
theorem zero96 (w : World) : (zeroValue 96).run Tryz.prog w = .ok (.pointer none) w := by kernel_rfl
theorem no96 (T : Nat) (hT : ¬ T = 96) (a : Addr) (w : World) : (Instr.typeAssert (.iface T (.pointer (some a))) 43 96 true).run Tryz.prog w = .ok (.tuple #[.pointer none, .bool false]) w := by
  have h1 := Tryz.underlying96
  have h2 := zero96 w
  unfold Instr.typeAssert
  go_simp
theorem yes96 (a : Addr) (w : World) : (Instr.typeAssert (.iface 96 (.pointer (some a))) 43 96 true).run Tryz.prog w = .ok (.tuple #[.pointer (some a), .bool true]) w := by kernel_rfl
theorem zero101 (w : World) : (zeroValue 101).run Tryz.prog w = .ok (.pointer none) w := by kernel_rfl
theorem no101 (T : Nat) (hT : ¬ T = 101) (a : Addr) (w : World) : (Instr.typeAssert (.iface T (.pointer (some a))) 43 101 true).run Tryz.prog w = .ok (.tuple #[.pointer none, .bool false]) w := by
  have h1 := Tryz.underlying101
  have h2 := zero101 w
  unfold Instr.typeAssert
  go_simp
theorem yes101 (a : Addr) (w : World) : (Instr.typeAssert (.iface 101 (.pointer (some a))) 43 101 true).run Tryz.prog w = .ok (.tuple #[.pointer (some a), .bool true]) w := by kernel_rfl
theorem zero56 (w : World) : (zeroValue 56).run Tryz.prog w = .ok (.pointer none) w := by kernel_rfl
theorem no56 (T : Nat) (hT : ¬ T = 56) (a : Addr) (w : World) : (Instr.typeAssert (.iface T (.pointer (some a))) 43 56 true).run Tryz.prog w = .ok (.tuple #[.pointer none, .bool false]) w := by
  have h1 := Tryz.underlying56
  have h2 := zero56 w
  unfold Instr.typeAssert
  go_simp
theorem yes56 (a : Addr) (w : World) : (Instr.typeAssert (.iface 56 (.pointer (some a))) 43 56 true).run Tryz.prog w = .ok (.tuple #[.pointer (some a), .bool true]) w := by kernel_rfl
theorem zero70 (w : World) : (zeroValue 70).run Tryz.prog w = .ok (.pointer none) w := by kernel_rfl
theorem no70 (T : Nat) (hT : ¬ T = 70) (a : Addr) (w : World) : (Instr.typeAssert (.iface T (.pointer (some a))) 43 70 true).run Tryz.prog w = .ok (.tuple #[.pointer none, .bool false]) w := by
  have h1 := Tryz.underlying70
  have h2 := zero70 w
  unfold Instr.typeAssert
  go_simp
theorem yes70 (a : Addr) (w : World) : (Instr.typeAssert (.iface 70 (.pointer (some a))) 43 70 true).run Tryz.prog w = .ok (.tuple #[.pointer (some a), .bool true]) w := by kernel_rfl
theorem zero102 (w : World) : (zeroValue 102).run Tryz.prog w = .ok (.pointer none) w := by kernel_rfl
theorem no102 (T : Nat) (hT : ¬ T = 102) (a : Addr) (w : World) : (Instr.typeAssert (.iface T (.pointer (some a))) 43 102 true).run Tryz.prog w = .ok (.tuple #[.pointer none, .bool false]) w := by
  have h1 := Tryz.underlying102
  have h2 := zero102 w
  unfold Instr.typeAssert
  go_simp
theorem yes102 (a : Addr) (w : World) : (Instr.typeAssert (.iface 102 (.pointer (some a))) 43 102 true).run Tryz.prog w = .ok (.tuple #[.pointer (some a), .bool true]) w := by kernel_rfl
theorem zero105 (w : World) : (zeroValue 105).run Tryz.prog w = .ok (.pointer none) w := by kernel_rfl
theorem no105 (T : Nat) (hT : ¬ T = 105) (a : Addr) (w : World) : (Instr.typeAssert (.iface T (.pointer (some a))) 43 105 true).run Tryz.prog w = .ok (.tuple #[.pointer none, .bool false]) w := by
  have h1 := Tryz.underlying105
  have h2 := zero105 w
  unfold Instr.typeAssert
  go_simp
theorem yes105 (a : Addr) (w : World) : (Instr.typeAssert (.iface 105 (.pointer (some a))) 43 105 true).run Tryz.prog w = .ok (.tuple #[.pointer (some a), .bool true]) w := by kernel_rfl
theorem zero110 (w : World) : (zeroValue 110).run Tryz.prog w = .ok (.pointer none) w := by kernel_rfl
theorem no110 (T : Nat) (hT : ¬ T = 110) (a : Addr) (w : World) : (Instr.typeAssert (.iface T (.pointer (some a))) 43 110 true).run Tryz.prog w = .ok (.tuple #[.pointer none, .bool false]) w := by
  have h1 := Tryz.underlying110
  have h2 := zero110 w
  unfold Instr.typeAssert
  go_simp
theorem yes110 (a : Addr) (w : World) : (Instr.typeAssert (.iface 110 (.pointer (some a))) 43 110 true).run Tryz.prog w = .ok (.tuple #[.pointer (some a), .bool true]) w := by kernel_rfl
theorem zero74 (w : World) : (zeroValue 74).run Tryz.prog w = .ok (.pointer none) w := by kernel_rfl
theorem no74 (T : Nat) (hT : ¬ T = 74) (a : Addr) (w : World) : (Instr.typeAssert (.iface T (.pointer (some a))) 43 74 true).run Tryz.prog w = .ok (.tuple #[.pointer none, .bool false]) w := by
  have h1 := Tryz.underlying74
  have h2 := zero74 w
  unfold Instr.typeAssert
  go_simp
theorem yes74 (a : Addr) (w : World) : (Instr.typeAssert (.iface 74 (.pointer (some a))) 43 74 true).run Tryz.prog w = .ok (.tuple #[.pointer (some a), .bool true]) w := by kernel_rfl
theorem zero75 (w : World) : (zeroValue 75).run Tryz.prog w = .ok (.pointer none) w := by kernel_rfl
theorem no75 (T : Nat) (hT : ¬ T = 75) (a : Addr) (w : World) : (Instr.typeAssert (.iface T (.pointer (some a))) 43 75 true).run Tryz.prog w = .ok (.tuple #[.pointer none, .bool false]) w := by
  have h1 := Tryz.underlying75
  have h2 := zero75 w
  unfold Instr.typeAssert
  go_simp
theorem yes75 (a : Addr) (w : World) : (Instr.typeAssert (.iface 75 (.pointer (some a))) 43 75 true).run Tryz.prog w = .ok (.tuple #[.pointer (some a), .bool true]) w := by kernel_rfl
theorem zero76 (w : World) : (zeroValue 76).run Tryz.prog w = .ok (.pointer none) w := by kernel_rfl
theorem no76 (T : Nat) (hT : ¬ T = 76) (a : Addr) (w : World) : (Instr.typeAssert (.iface T (.pointer (some a))) 43 76 true).run Tryz.prog w = .ok (.tuple #[.pointer none, .bool false]) w := by
  have h1 := Tryz.underlying76
  have h2 := zero76 w
  unfold Instr.typeAssert
  go_simp
theorem yes76 (a : Addr) (w : World) : (Instr.typeAssert (.iface 76 (.pointer (some a))) 43 76 true).run Tryz.prog w = .ok (.tuple #[.pointer (some a), .bool true]) w := by kernel_rfl
theorem zero121 (w : World) : (zeroValue 121).run Tryz.prog w = .ok (.pointer none) w := by kernel_rfl
theorem no121 (T : Nat) (hT : ¬ T = 121) (a : Addr) (w : World) : (Instr.typeAssert (.iface T (.pointer (some a))) 43 121 true).run Tryz.prog w = .ok (.tuple #[.pointer none, .bool false]) w := by
  have h1 := Tryz.underlying121
  have h2 := zero121 w
  unfold Instr.typeAssert
  go_simp
theorem yes121 (a : Addr) (w : World) : (Instr.typeAssert (.iface 121 (.pointer (some a))) 43 121 true).run Tryz.prog w = .ok (.tuple #[.pointer (some a), .bool true]) w := by kernel_rfl
theorem zero124 (w : World) : (zeroValue 124).run Tryz.prog w = .ok (.pointer none) w := by kernel_rfl
theorem no124 (T : Nat) (hT : ¬ T = 124) (a : Addr) (w : World) : (Instr.typeAssert (.iface T (.pointer (some a))) 43 124 true).run Tryz.prog w = .ok (.tuple #[.pointer none, .bool false]) w := by
  have h1 := Tryz.underlying124
  have h2 := zero124 w
  unfold Instr.typeAssert
  go_simp
theorem yes124 (a : Addr) (w : World) : (Instr.typeAssert (.iface 124 (.pointer (some a))) 43 124 true).run Tryz.prog w = .ok (.tuple #[.pointer (some a), .bool true]) w := by kernel_rfl
theorem zero127 (w : World) : (zeroValue 127).run Tryz.prog w = .ok (.pointer none) w := by kernel_rfl
theorem no127 (T : Nat) (hT : ¬ T = 127) (a : Addr) (w : World) : (Instr.typeAssert (.iface T (.pointer (some a))) 43 127 true).run Tryz.prog w = .ok (.tuple #[.pointer none, .bool false]) w := by
  have h1 := Tryz.underlying127
  have h2 := zero127 w
  unfold Instr.typeAssert
  go_simp
theorem yes127 (a : Addr) (w : World) : (Instr.typeAssert (.iface 127 (.pointer (some a))) 43 127 true).run Tryz.prog w = .ok (.tuple #[.pointer (some a), .bool true]) w := by kernel_rfl
theorem zero80 (w : World) : (zeroValue 80).run Tryz.prog w = .ok (.pointer none) w := by kernel_rfl
theorem no80 (T : Nat) (hT : ¬ T = 80) (a : Addr) (w : World) : (Instr.typeAssert (.iface T (.pointer (some a))) 43 80 true).run Tryz.prog w = .ok (.tuple #[.pointer none, .bool false]) w := by
  have h1 := Tryz.underlying80
  have h2 := zero80 w
  unfold Instr.typeAssert
  go_simp
theorem yes80 (a : Addr) (w : World) : (Instr.typeAssert (.iface 80 (.pointer (some a))) 43 80 true).run Tryz.prog w = .ok (.tuple #[.pointer (some a), .bool true]) w := by kernel_rfl
theorem zero77 (w : World) : (zeroValue 77).run Tryz.prog w = .ok (.pointer none) w := by kernel_rfl
theorem no77 (T : Nat) (hT : ¬ T = 77) (a : Addr) (w : World) : (Instr.typeAssert (.iface T (.pointer (some a))) 43 77 true).run Tryz.prog w = .ok (.tuple #[.pointer none, .bool false]) w := by
  have h1 := Tryz.underlying77
  have h2 := zero77 w
  unfold Instr.typeAssert
  go_simp
theorem yes77 (a : Addr) (w : World) : (Instr.typeAssert (.iface 77 (.pointer (some a))) 43 77 true).run Tryz.prog w = .ok (.tuple #[.pointer (some a), .bool true]) w := by kernel_rfl
theorem zero78 (w : World) : (zeroValue 78).run Tryz.prog w = .ok (.pointer none) w := by kernel_rfl
theorem no78 (T : Nat) (hT : ¬ T = 78) (a : Addr) (w : World) : (Instr.typeAssert (.iface T (.pointer (some a))) 43 78 true).run Tryz.prog w = .ok (.tuple #[.pointer none, .bool false]) w := by
  have h1 := Tryz.underlying78
  have h2 := zero78 w
  unfold Instr.typeAssert
  go_simp
theorem yes78 (a : Addr) (w : World) : (Instr.typeAssert (.iface 78 (.pointer (some a))) 43 78 true).run Tryz.prog w = .ok (.tuple #[.pointer (some a), .bool true]) w := by kernel_rfl
theorem zero79 (w : World) : (zeroValue 79).run Tryz.prog w = .ok (.pointer none) w := by kernel_rfl
theorem no79 (T : Nat) (hT : ¬ T = 79) (a : Addr) (w : World) : (Instr.typeAssert (.iface T (.pointer (some a))) 43 79 true).run Tryz.prog w = .ok (.tuple #[.pointer none, .bool false]) w := by
  have h1 := Tryz.underlying79
  have h2 := zero79 w
  unfold Instr.typeAssert
  go_simp
theorem yes79 (a : Addr) (w : World) : (Instr.typeAssert (.iface 79 (.pointer (some a))) 43 79 true).run Tryz.prog w = .ok (.tuple #[.pointer (some a), .bool true]) w := by kernel_rfl

theorem two_old (w : World) (o1 o2 : Obj) : ((w.alloc o1).alloc o2).heap[w.heap.size]? = some o1 := by
  show ((w.heap.push o1).push o2)[w.heap.size]? = _
  rw [Array.getElem?_push, if_neg (by simp), Array.getElem?_push, if_pos rfl]
def bLit : ByteArray := ⟨#[108, 105, 116, 101, 114, 97, 108]⟩
/-- The kind and the text by which the visit of a node is told. -/
def kindB (n : S24) : ByteArray := if n.f0 = bInt then bLit else n.f0
def textB (n : S24) : ByteArray := if n.f0 = bName ∨ n.f0 = bInt then n.f1 else ⟨#[]⟩
/-- What visitOf sees of a node. -/
inductive Seen (W : World) : Value → ByteArray → ByteArray → Prop
  | nil : Seen W .nilIface ⟨#[]⟩ ⟨#[]⟩
  | name (b : Nat) (t : ByteArray) (h : W.cell? ⟨b, 1, none⟩ = some (.string t)) : Seen W (.iface 56 (.pointer (some ⟨b, 0, none⟩))) bName t
  | lit (b : Nat) (t : ByteArray) (h : W.cell? ⟨b, 3, none⟩ = some (.string t)) : Seen W (.iface 70 (.pointer (some ⟨b, 0, none⟩))) bLit t
  | paren (b : Nat) : Seen W (.iface 74 (.pointer (some ⟨b, 0, none⟩))) bParen ⟨#[]⟩
  | sel (b : Nat) : Seen W (.iface 75 (.pointer (some ⟨b, 0, none⟩))) bSel ⟨#[]⟩
  | idx (b : Nat) : Seen W (.iface 76 (.pointer (some ⟨b, 0, none⟩))) bIdx ⟨#[]⟩
  | star (b : Nat) : Seen W (.iface 77 (.pointer (some ⟨b, 0, none⟩))) bUn ⟨#[]⟩
  | un (b : Nat) : Seen W (.iface 78 (.pointer (some ⟨b, 0, none⟩))) bUn ⟨#[]⟩
  | bin (b : Nat) : Seen W (.iface 79 (.pointer (some ⟨b, 0, none⟩))) bBin ⟨#[]⟩
  | call (b : Nat) : Seen W (.iface 80 (.pointer (some ⟨b, 0, none⟩))) bCall ⟨#[]⟩
theorem Tree.seen {K : Nat → Prop} {W : World} : ∀ {D : Nat} {n : S24} {v : Value}, Tree K W D n v → Seen W v (kindB n) (textB n)
  | 0, _, _, h => h.elim
  | D + 1, n, v, h => by
    unfold Tree at h
    unfold kindB textB
    rcases h with ⟨h0, b, e, kb, c1⟩ | ⟨h0, b, e, kb, c1⟩ | ⟨h0, hl, b, v0, e, kb, c1, t0⟩ | ⟨h0, hl, b, v0, b1, e, kb, c1, c2, kb1, c3, t0⟩ | ⟨h0, hl, b, v0, kb, e | e, t0⟩ | ⟨h0, hl, b, v0, v1, e, kb, c1, c2, t0, t1⟩ | ⟨h0, hl, b, v0, v1, e, kb, c1, c2, t0, t1⟩ | ⟨h0, hl, b, v0, A, c, e, kb, c1, c2, t0, ts⟩
    · rw [h0, if_neg (by decide +kernel), if_pos (.inl rfl), e]; exact .name b _ c1
    · rw [h0, if_pos rfl, if_pos (.inr rfl), e]; exact .lit b _ c1
    · rw [h0, if_neg (by decide +kernel), if_neg (by decide +kernel), e]; exact .paren b
    · rw [h0, if_neg (by decide +kernel), if_neg (by decide +kernel), e]; exact .sel b
    · rw [h0, if_neg (by decide +kernel), if_neg (by decide +kernel), e.1]; exact .star b
    · rw [h0, if_neg (by decide +kernel), if_neg (by decide +kernel), e.1]; exact .un b
    · rw [h0, if_neg (by decide +kernel), if_neg (by decide +kernel), e]; exact .bin b
    · rw [h0, if_neg (by decide +kernel), if_neg (by decide +kernel), e]; exact .idx b
    · rw [h0, if_neg (by decide +kernel), if_neg (by decide +kernel), e]; exact .call b

set_option maxHeartbeats 1000000 in
set_option maxRecDepth 100000 in
theorem visit_nil (d : Int) (w : World) :
    Calls Tryz.prog 24 #[.nilIface, .int .i64 d] w fun e w' => e = .returned (.agg #[.string ⟨#[]⟩, .string ⟨#[]⟩, .int .i64 d]) ∧ Below w.heap.size w w' := by
  have HB := Aside0.mk (fun o1 o2 => (((Below.refl w.heap.size w).alloc (Nat.le_refl _) o1).alloc (by simp) o2))
  go_enter Tryz.func24, Tryz.ntmps24
  go_wp2
  refine bodyPost_ret (results_cell_row rfl _ _ w.heap.size 29 #[.string ⟨#[]⟩, .string ⟨#[]⟩, .int .i64 d] (0, 0) _ rfl (two_old w _ _) Tryz.underlying29 rfl (by kernel_rfl)) rfl ?_
  exact ⟨rfl, HB.out _ _⟩
set_option maxHeartbeats 1000000 in
set_option maxRecDepth 100000 in
theorem visit_name (b : Nat) (t : ByteArray) (d : Int) (w : World) (hc : w.cell? ⟨b, 1, none⟩ = some (.string t)) :
    Calls Tryz.prog 24 #[.iface 56 (.pointer (some ⟨b, 0, none⟩)), .int .i64 d] w fun e w' => e = .returned (.agg #[.string bName, .string t, .int .i64 d]) ∧ Below w.heap.size w w' := by
  unfold bName
  have HB := Aside0.mk (fun o1 o2 => (((Below.refl w.heap.size w).alloc (Nat.le_refl _) o1).alloc (by simp) o2))
  have y56 := yes56
  have hy := fun o1 o2 => al_ (al_ hc o1) o2
  clear hc
  go_enter Tryz.func24, Tryz.ntmps24
  go_wp2
  go_region
  all_goals (try go_wp2)
  all_goals
    refine bodyPost_ret (results_cell_row rfl _ _ w.heap.size 29 #[.string ⟨#[110, 97, 109, 101]⟩, .string t, .int .i64 d] (0, 0) _ rfl (two_old w _ _) Tryz.underlying29 rfl (by kernel_rfl)) rfl ?_
    exact ⟨rfl, (HB.out _ _).drew⟩
set_option maxHeartbeats 1000000 in
set_option maxRecDepth 100000 in
theorem visit_lit (b : Nat) (t : ByteArray) (d : Int) (w : World) (hc : w.cell? ⟨b, 3, none⟩ = some (.string t)) :
    Calls Tryz.prog 24 #[.iface 70 (.pointer (some ⟨b, 0, none⟩)), .int .i64 d] w fun e w' => e = .returned (.agg #[.string bLit, .string t, .int .i64 d]) ∧ Below w.heap.size w w' := by
  unfold bLit
  have HB := Aside0.mk (fun o1 o2 => (((Below.refl w.heap.size w).alloc (Nat.le_refl _) o1).alloc (by simp) o2))
  have n56 := no56 70 (by decide)
  have y70 := yes70
  have hy := fun o1 o2 => al_ (al_ hc o1) o2
  clear hc
  go_enter Tryz.func24, Tryz.ntmps24
  go_wp2
  go_region
  all_goals (try go_wp2)
  all_goals
    refine bodyPost_ret (results_cell_row rfl _ _ w.heap.size 29 #[.string ⟨#[108, 105, 116, 101, 114, 97, 108]⟩, .string t, .int .i64 d] (0, 0) _ rfl (two_old w _ _) Tryz.underlying29 rfl (by kernel_rfl)) rfl ?_
    exact ⟨rfl, (HB.out _ _).drew⟩
set_option maxHeartbeats 1000000 in
set_option maxRecDepth 100000 in
theorem visit_paren (b : Nat) (d : Int) (w : World) :
    Calls Tryz.prog 24 #[.iface 74 (.pointer (some ⟨b, 0, none⟩)), .int .i64 d] w fun e w' => e = .returned (.agg #[.string bParen, .string ⟨#[]⟩, .int .i64 d]) ∧ Below w.heap.size w w' := by
  unfold bParen
  have HB := Aside0.mk (fun o1 o2 => (((Below.refl w.heap.size w).alloc (Nat.le_refl _) o1).alloc (by simp) o2))
  have n56 := no56 74 (by decide)
  have n70 := no70 74 (by decide)
  have y74 := yes74
  go_enter Tryz.func24, Tryz.ntmps24
  go_wp2
  refine bodyPost_ret (results_cell_row rfl _ _ w.heap.size 29 #[.string ⟨#[112, 97, 114, 101, 110]⟩, .string ⟨#[]⟩, .int .i64 d] (0, 0) _ rfl (two_old w _ _) Tryz.underlying29 rfl (by kernel_rfl)) rfl ?_
  exact ⟨rfl, HB.out _ _⟩
set_option maxHeartbeats 1000000 in
set_option maxRecDepth 100000 in
theorem visit_sel (b : Nat) (d : Int) (w : World) :
    Calls Tryz.prog 24 #[.iface 75 (.pointer (some ⟨b, 0, none⟩)), .int .i64 d] w fun e w' => e = .returned (.agg #[.string bSel, .string ⟨#[]⟩, .int .i64 d]) ∧ Below w.heap.size w w' := by
  unfold bSel
  have HB := Aside0.mk (fun o1 o2 => (((Below.refl w.heap.size w).alloc (Nat.le_refl _) o1).alloc (by simp) o2))
  have n56 := no56 75 (by decide)
  have n70 := no70 75 (by decide)
  have n74 := no74 75 (by decide)
  have y75 := yes75
  go_enter Tryz.func24, Tryz.ntmps24
  go_wp2
  refine bodyPost_ret (results_cell_row rfl _ _ w.heap.size 29 #[.string ⟨#[115, 101, 108, 101, 99, 116, 111, 114]⟩, .string ⟨#[]⟩, .int .i64 d] (0, 0) _ rfl (two_old w _ _) Tryz.underlying29 rfl (by kernel_rfl)) rfl ?_
  exact ⟨rfl, HB.out _ _⟩
set_option maxHeartbeats 1000000 in
set_option maxRecDepth 100000 in
theorem visit_idx (b : Nat) (d : Int) (w : World) :
    Calls Tryz.prog 24 #[.iface 76 (.pointer (some ⟨b, 0, none⟩)), .int .i64 d] w fun e w' => e = .returned (.agg #[.string bIdx, .string ⟨#[]⟩, .int .i64 d]) ∧ Below w.heap.size w w' := by
  unfold bIdx
  have HB := Aside0.mk (fun o1 o2 => (((Below.refl w.heap.size w).alloc (Nat.le_refl _) o1).alloc (by simp) o2))
  have n56 := no56 76 (by decide)
  have n70 := no70 76 (by decide)
  have n74 := no74 76 (by decide)
  have n75 := no75 76 (by decide)
  have y76 := yes76
  go_enter Tryz.func24, Tryz.ntmps24
  go_wp2
  refine bodyPost_ret (results_cell_row rfl _ _ w.heap.size 29 #[.string ⟨#[105, 110, 100, 101, 120]⟩, .string ⟨#[]⟩, .int .i64 d] (0, 0) _ rfl (two_old w _ _) Tryz.underlying29 rfl (by kernel_rfl)) rfl ?_
  exact ⟨rfl, HB.out _ _⟩
set_option maxHeartbeats 1000000 in
set_option maxRecDepth 100000 in
theorem visit_star (b : Nat) (d : Int) (w : World) :
    Calls Tryz.prog 24 #[.iface 77 (.pointer (some ⟨b, 0, none⟩)), .int .i64 d] w fun e w' => e = .returned (.agg #[.string bUn, .string ⟨#[]⟩, .int .i64 d]) ∧ Below w.heap.size w w' := by
  unfold bUn
  have HB := Aside0.mk (fun o1 o2 => (((Below.refl w.heap.size w).alloc (Nat.le_refl _) o1).alloc (by simp) o2))
  have n56 := no56 77 (by decide)
  have n70 := no70 77 (by decide)
  have n74 := no74 77 (by decide)
  have n75 := no75 77 (by decide)
  have n76 := no76 77 (by decide)
  have n78 := no78 77 (by decide)
  have y77 := yes77
  go_enter Tryz.func24, Tryz.ntmps24
  go_wp2
  refine bodyPost_ret (results_cell_row rfl _ _ w.heap.size 29 #[.string ⟨#[117, 110, 97, 114, 121]⟩, .string ⟨#[]⟩, .int .i64 d] (0, 0) _ rfl (two_old w _ _) Tryz.underlying29 rfl (by kernel_rfl)) rfl ?_
  exact ⟨rfl, HB.out _ _⟩
set_option maxHeartbeats 1000000 in
set_option maxRecDepth 100000 in
theorem visit_un (b : Nat) (d : Int) (w : World) :
    Calls Tryz.prog 24 #[.iface 78 (.pointer (some ⟨b, 0, none⟩)), .int .i64 d] w fun e w' => e = .returned (.agg #[.string bUn, .string ⟨#[]⟩, .int .i64 d]) ∧ Below w.heap.size w w' := by
  unfold bUn
  have HB := Aside0.mk (fun o1 o2 => (((Below.refl w.heap.size w).alloc (Nat.le_refl _) o1).alloc (by simp) o2))
  have n56 := no56 78 (by decide)
  have n70 := no70 78 (by decide)
  have n74 := no74 78 (by decide)
  have n75 := no75 78 (by decide)
  have n76 := no76 78 (by decide)
  have n77 := no77 78 (by decide)
  have y78 := yes78
  go_enter Tryz.func24, Tryz.ntmps24
  go_wp2
  refine bodyPost_ret (results_cell_row rfl _ _ w.heap.size 29 #[.string ⟨#[117, 110, 97, 114, 121]⟩, .string ⟨#[]⟩, .int .i64 d] (0, 0) _ rfl (two_old w _ _) Tryz.underlying29 rfl (by kernel_rfl)) rfl ?_
  exact ⟨rfl, HB.out _ _⟩
set_option maxHeartbeats 1000000 in
set_option maxRecDepth 100000 in
theorem visit_bin (b : Nat) (d : Int) (w : World) :
    Calls Tryz.prog 24 #[.iface 79 (.pointer (some ⟨b, 0, none⟩)), .int .i64 d] w fun e w' => e = .returned (.agg #[.string bBin, .string ⟨#[]⟩, .int .i64 d]) ∧ Below w.heap.size w w' := by
  unfold bBin
  have HB := Aside0.mk (fun o1 o2 => (((Below.refl w.heap.size w).alloc (Nat.le_refl _) o1).alloc (by simp) o2))
  have n56 := no56 79 (by decide)
  have n70 := no70 79 (by decide)
  have n74 := no74 79 (by decide)
  have n75 := no75 79 (by decide)
  have n76 := no76 79 (by decide)
  have n77 := no77 79 (by decide)
  have n78 := no78 79 (by decide)
  have y79 := yes79
  go_enter Tryz.func24, Tryz.ntmps24
  go_wp2
  refine bodyPost_ret (results_cell_row rfl _ _ w.heap.size 29 #[.string ⟨#[98, 105, 110, 97, 114, 121]⟩, .string ⟨#[]⟩, .int .i64 d] (0, 0) _ rfl (two_old w _ _) Tryz.underlying29 rfl (by kernel_rfl)) rfl ?_
  exact ⟨rfl, HB.out _ _⟩
set_option maxHeartbeats 1000000 in
set_option maxRecDepth 100000 in
theorem visit_call (b : Nat) (d : Int) (w : World) :
    Calls Tryz.prog 24 #[.iface 80 (.pointer (some ⟨b, 0, none⟩)), .int .i64 d] w fun e w' => e = .returned (.agg #[.string bCall, .string ⟨#[]⟩, .int .i64 d]) ∧ Below w.heap.size w w' := by
  unfold bCall
  have HB := Aside0.mk (fun o1 o2 => (((Below.refl w.heap.size w).alloc (Nat.le_refl _) o1).alloc (by simp) o2))
  have n56 := no56 80 (by decide)
  have n70 := no70 80 (by decide)
  have n74 := no74 80 (by decide)
  have n75 := no75 80 (by decide)
  have n76 := no76 80 (by decide)
  have n77 := no77 80 (by decide)
  have n78 := no78 80 (by decide)
  have n79 := no79 80 (by decide)
  have y80 := yes80
  go_enter Tryz.func24, Tryz.ntmps24
  go_wp2
  refine bodyPost_ret (results_cell_row rfl _ _ w.heap.size 29 #[.string ⟨#[99, 97, 108, 108]⟩, .string ⟨#[]⟩, .int .i64 d] (0, 0) _ rfl (two_old w _ _) Tryz.underlying29 rfl (by kernel_rfl)) rfl ?_
  exact ⟨rfl, HB.out _ _⟩
theorem visit_any {w : World} {v : Value} {k t : ByteArray} (h : Seen w v k t) (d : Int) :
    Calls Tryz.prog 24 #[v, .int .i64 d] w fun e w' => e = .returned (.agg #[.string k, .string t, .int .i64 d]) ∧ Below w.heap.size w w' := by
  cases h with
  | nil => exact visit_nil d w
  | name b _ h => exact visit_name b _ d w h
  | lit b _ h => exact visit_lit b _ d w h
  | paren b => exact visit_paren b d w
  | sel b => exact visit_sel b d w
  | idx b => exact visit_idx b d w
  | star b => exact visit_star b d w
  | un b => exact visit_un b d w
  | bin b => exact visit_bin b d w
  | call b => exact visit_call b d w
end Go.Proofs.YtdcaabjkklppjaaGreatFmt.A
