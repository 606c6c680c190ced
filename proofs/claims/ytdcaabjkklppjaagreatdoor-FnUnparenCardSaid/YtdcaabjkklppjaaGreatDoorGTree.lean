/- impl.exprOf at trees of expressions: the tree that it builds. -/
import Derived.Test.YtdcaabjkklppjaaGreatDoorGExpr
namespace Go.Proofs.YtdcaabjkklppjaaGreatDoor.A
open Go.RowKit Go.Proofs.YtdcaabjkklppjaaGreatDoorW.PrintWords Go.Proofs.YtdcaabjkklppjaaGreatDoorW.PrintLast Go.Proofs.YtdcaabjkklppjaaGreatDoorW.PrintMore
set_option linter.unusedVariables false
set_option linter.unusedSimpArgs false
attribute [local go_sem ↓] Go.wp_at_zero Go.wp_at_succ

def bName : ByteArray := ⟨#[110, 97, 109, 101]⟩
def bInt : ByteArray := ⟨#[105, 110, 116]⟩
def bParen : ByteArray := ⟨#[112, 97, 114, 101, 110]⟩
def bSel : ByteArray := ⟨#[115, 101, 108, 101, 99, 116, 111, 114]⟩
def bUn : ByteArray := ⟨#[117, 110, 97, 114, 121]⟩
def bBin : ByteArray := ⟨#[98, 105, 110, 97, 114, 121]⟩
def bIdx : ByteArray := ⟨#[105, 110, 100, 101, 120]⟩
def bCall : ByteArray := ⟨#[99, 97, 108, 108]⟩

/-- A token's text that the search from the first operator on comes to, past no empty one. -/
def OpText (S : Nat → ByteArray) (s : ByteArray) : Prop := ∃ j, j < 89 ∧ 12 ≤ j ∧ s = S j ∧ ∀ i, 12 ≤ i → i ≤ j → ¬ (S i).toList = ([] : List UInt8)

/-- A tree of an expression, so deep at most. -/
def Good (S : Nat → ByteArray) : Nat → S24 → Prop
  | 0, _ => False
  | D + 1, n => (n.f0 = bName ∨ n.f0 = bInt ∨ (n.f0 = bParen ∧ n.f2.length = 1) ∨ (n.f0 = bSel ∧ n.f2.length = 1) ∨ (n.f0 = bUn ∧ OpText S n.f1 ∧ n.f2.length = 1) ∨
      (n.f0 = bBin ∧ OpText S n.f1 ∧ n.f2.length = 2) ∨ (n.f0 = bIdx ∧ n.f2.length = 2) ∨ (n.f0 = bCall ∧ 1 ≤ n.f2.length ∧ n.f2.length ≤ 1000000)) ∧
      ((n.f0 = bName ∨ n.f0 = bInt) ∨ ∀ i : Nat, i < n.f2.length → Good S D (rd_T24 n.f2 (i : Int)))

/-- The types of the values of expressions that are no parentheses. -/
abbrev OkT (T : Nat) : Prop := T ∈ [42, 44, 61, 67, 76, 79, 84, 87]
/-- The value of an expression: where parentheses stand around it, a pointer to them, and their cell holds that of what stands within. -/
def Chain (W : World) : Nat → S24 → Value → Prop
  | 0, _, _ => False
  | D + 1, n, v => if n.f0 = bParen then ∃ b v', v = .iface 35 (.pointer (some ⟨b, 0, none⟩)) ∧ W.cell? ⟨b, 1, none⟩ = some v' ∧ Chain W D (rd_T24 n.f2 ((0 : Nat) : Int)) v'
      else ∃ T b, v = .iface T (.pointer (some ⟨b, 0, none⟩)) ∧ OkT T

theorem Chain.form {W : World} : ∀ {D : Nat} {n : S24} {v : Value}, Chain W D n v → ∃ T b, v = .iface T (.pointer (some ⟨b, 0, none⟩))
  | 0, _, _, h => h.elim
  | D + 1, n, v, h => by
    unfold Chain at h
    split at h
    · obtain ⟨b, v', e, _, _⟩ := h; exact ⟨_, b, e⟩
    · obtain ⟨T, b, e, _⟩ := h; exact ⟨T, b, e⟩
theorem Chain.below {W W' : World} (hb : Below W.heap.size W W') : ∀ {D : Nat} {n : S24} {v : Value}, Chain W D n v → Chain W' D n v
  | 0, _, _, h => h.elim
  | D + 1, n, v, h => by
    unfold Chain at h ⊢
    split at h
    · rename_i e
      obtain ⟨b, v', e1, e2, e3⟩ := h
      rw [if_pos e]
      exact ⟨b, v', e1, (hb.cell (World.block_lt_of_cell? W _ e2)).trans e2, Chain.below hb e3⟩
    · rename_i e
      rw [if_neg e]
      exact h

def ExprC (S : Nat → ByteArray) (D : Nat) : Prop := ∀ (n : S24) (A : Option Addr) (c : Nat) (w : World), Good S D n → Kd.C k24 w A n.f2.length n.f2 → n.f2.length ≤ c → TokTab S w →
    Calls Tryz.prog 10 #[.agg #[.string n.f0, .string n.f1, .slice A n.f2.length c]] w fun e w' => ∃ v, e = .returned v ∧ Chain w' D n v ∧ Below w.heap.size w w'

set_option maxHeartbeats 1000000 in
set_option maxRecDepth 100000 in
theorem expr_name (t : ByteArray) (A : Option Addr) (n c : Nat) (w : World) :
    Calls Tryz.prog 10 #[.agg #[.string bName, .string t, .slice A n c]] w fun e w' => ∃ b, e = .returned (.iface 42 (.pointer (some ⟨b, 0, none⟩))) ∧ Below w.heap.size w w' := by
  unfold bName
  have HB := Aside0.mk (Below.refl w.heap.size w)
  go_enter Tryz.func10, Tryz.ntmps10
  go_wp2_with (first | (go_at_call 14; refine (newIdent_any t _).mono ?_; rintro e w1 ⟨b, rfl, hb1⟩))
  go_ret
  exact ⟨_, rfl, (HB.out.alloc (Nat.le_refl _) _).trans (hb1.mono (by simp))⟩

set_option maxHeartbeats 1000000 in
set_option maxRecDepth 100000 in
theorem expr_int (t : ByteArray) (A : Option Addr) (n c : Nat) (w : World) :
    Calls Tryz.prog 10 #[.agg #[.string bInt, .string t, .slice A n c]] w fun e w' => ∃ b, e = .returned (.iface 44 (.pointer (some ⟨b, 0, none⟩))) ∧ Below w.heap.size w w' := by
  unfold bInt
  have HB := Aside0.mk (Below.refl w.heap.size w)
  go_enter Tryz.func10, Tryz.ntmps10
  go_wp2_with (first | (go_at_call 15; refine (literal_any t A n c _).mono ?_; rintro e w1 ⟨b, rfl, hb1⟩))
  go_ret
  exact ⟨_, rfl, (HB.out.alloc (Nat.le_refl _) _).trans (hb1.mono (by simp))⟩

set_option maxHeartbeats 1000000 in
set_option maxRecDepth 100000 in
theorem expr_paren (S : Nat → ByteArray) (D : Nat) (IH : ExprC S D) (t : ByteArray) (A : Option Addr) (c : Nat) (kids : List S24) (w : World) (hlen : kids.length = 1) (hg : Good S D (rd_T24 kids ((0 : Nat) : Int))) (hr : Kd.C k24 w A kids.length kids) (hc : kids.length ≤ c) (hT : TokTab S w) :
    Calls Tryz.prog 10 #[.agg #[.string bParen, .string t, .slice A kids.length c]] w fun e w' => ∃ b v', e = .returned (.iface 35 (.pointer (some ⟨b, 0, none⟩))) ∧ w'.cell? ⟨b, 1, none⟩ = some v' ∧ Chain w' D (rd_T24 kids ((0 : Nat) : Int)) v' ∧ Below w.heap.size w w' := by
  unfold bParen
  have HB := Aside0.mk (Below.refl w.heap.size w)
  have HT := Aside0.mk hT
  have HG := Aside0.mk hg
  clear hT hg
  obtain ⟨ad, A2, c2, eA, hx0, hx1, hx2, hl2, hi2⟩ := at_T24 hr ((0 : Nat) : Int) (by omega) (by omega)
  cases eA
  have HI := Aside0.mk hi2
  have HL := Aside0.mk hl2
  clear hi2 hl2 hr
  have al : ∀ o : Obj, Below w.heap.size w (w.alloc o) := fun o => HB.out.alloc (Nat.le_refl _) o
  have hy0 := fun o => ((al o).cell (World.block_lt_of_cell? w _ hx0)).trans hx0
  have hy1 := fun o => ((al o).cell (World.block_lt_of_cell? w _ hx1)).trans hx1
  have hy2 := fun o => ((al o).cell (World.block_lt_of_cell? w _ hx2)).trans hx2
  have HAL := Aside0.mk al
  clear al hx0 hx1 hx2
  have e0 : ad.add (((0 : Nat) : Int).toNat * 3) = ad := by cases ad; rfl
  rw [e0] at hy0 hy1 hy2
  rw [hlen]
  go_enter Tryz.func10, Tryz.ntmps10
  go_wp2_with (first | (go_at_call 10; refine (IH _ _ _ _ HG.out (Kd.C_below HI.out (HAL.out _)) HL.out (HT.out.below (HAL.out _))).mono ?_; rintro e w1 ⟨v1, rfl, hch, hb1⟩; obtain ⟨T1, b1, rfl⟩ := hch.form))
  go_ret
  have h1 := (HAL.out _).trans (hb1.mono (HAL.out _).size)
  have h2 := (Below.refl w1.heap.size w1).alloc (Nat.le_refl _) (.cells #[.int .i64 0, .iface T1 (.pointer (some ⟨b1, 0, none⟩)), .int .i64 0] 39)
  exact ⟨_, _, rfl, (blk_cell (heap_alloc_new w1 _) 1).trans rfl, hch.below h2, h1.alloc h1.size _⟩

set_option maxHeartbeats 1000000 in
set_option maxRecDepth 100000 in
theorem expr_star (S : Nat → ByteArray) (D : Nat) (IH : ExprC S D) (A : Option Addr) (c : Nat) (kids : List S24) (w : World) (hlen : kids.length = 1) (hg : Good S D (rd_T24 kids ((0 : Nat) : Int))) (hr : Kd.C k24 w A kids.length kids) (hc : kids.length ≤ c) (hT : TokTab S w) :
    Calls Tryz.prog 10 #[.agg #[.string bUn, .string ⟨#[42]⟩, .slice A kids.length c]] w fun e w' => ∃ b, e = .returned (.iface 76 (.pointer (some ⟨b, 0, none⟩))) ∧ Below w.heap.size w w' := by
  unfold bUn
  have HB := Aside0.mk (Below.refl w.heap.size w)
  have HT := Aside0.mk hT
  have HG := Aside0.mk hg
  clear hT hg
  obtain ⟨ad, A2, c2, eA, hx0, hx1, hx2, hl2, hi2⟩ := at_T24 hr ((0 : Nat) : Int) (by omega) (by omega)
  cases eA
  have HI := Aside0.mk hi2
  have HL := Aside0.mk hl2
  clear hi2 hl2 hr
  have al : ∀ o : Obj, Below w.heap.size w (w.alloc o) := fun o => HB.out.alloc (Nat.le_refl _) o
  have hy0 := fun o => ((al o).cell (World.block_lt_of_cell? w _ hx0)).trans hx0
  have hy1 := fun o => ((al o).cell (World.block_lt_of_cell? w _ hx1)).trans hx1
  have hy2 := fun o => ((al o).cell (World.block_lt_of_cell? w _ hx2)).trans hx2
  have HAL := Aside0.mk al
  clear al hx0 hx1 hx2
  have e0 : ad.add (((0 : Nat) : Int).toNat * 3) = ad := by cases ad; rfl
  rw [e0] at hy0 hy1 hy2
  rw [hlen]
  go_enter Tryz.func10, Tryz.ntmps10
  go_wp2_with (first | (go_at_call 10; refine (IH _ _ _ _ HG.out (Kd.C_below HI.out (HAL.out _)) HL.out (HT.out.below (HAL.out _))).mono ?_; rintro e w1 ⟨v1, rfl, hch, hb1⟩; obtain ⟨T1, b1, rfl⟩ := hch.form))
  go_ret
  have h1 := (HAL.out _).trans (hb1.mono (HAL.out _).size)
  exact ⟨_, rfl, h1.alloc h1.size _⟩

/-- The node's own cells and the first one below it, in a world. -/
def Lies (W : World) (g : Nat) (k t : ByteArray) (s : Value) : Prop := W.cell? ⟨g, 0, none⟩ = some (.string k) ∧ W.cell? ⟨g, 1, none⟩ = some (.string t) ∧ W.cell? ⟨g, 2, none⟩ = some s
def Kid (W : World) (ad : Addr) (x : S24) (A : Option Addr) (c : Nat) : Prop := W.cell? ad = some (.string x.f0) ∧ W.cell? ⟨ad.block, ad.off + 1, none⟩ = some (.string x.f1) ∧ W.cell? ⟨ad.block, ad.off + 2, none⟩ = some (.slice A x.f2.length c)
theorem Lies.below {W W' : World} {g : Nat} {k t : ByteArray} {s : Value} (h : Lies W g k t s) (hb : Below W.heap.size W W') : Lies W' g k t s := by
  obtain ⟨a, b, c⟩ := h
  exact ⟨(hb.cell (World.block_lt_of_cell? W _ a)).trans a, (hb.cell (World.block_lt_of_cell? W _ b)).trans b, (hb.cell (World.block_lt_of_cell? W _ c)).trans c⟩
theorem Kid.below {W W' : World} {ad : Addr} {x : S24} {A : Option Addr} {c : Nat} (h : Kid W ad x A c) (hb : Below W.heap.size W W') : Kid W' ad x A c := by
  obtain ⟨a, b, c⟩ := h
  exact ⟨(hb.cell (World.block_lt_of_cell? W _ a)).trans a, (hb.cell (World.block_lt_of_cell? W _ b)).trans b, (hb.cell (World.block_lt_of_cell? W _ c)).trans c⟩
theorem lies_new (w : World) (k t : ByteArray) (s : Value) : Lies (w.alloc (.cells #[.string k, .string t, s] 24)) w.heap.size k t s :=
  ⟨(blk_cell (heap_alloc_new w _) 0).trans rfl, (blk_cell (heap_alloc_new w _) 1).trans rfl, (blk_cell (heap_alloc_new w _) 2).trans rfl⟩

set_option maxHeartbeats 1000000 in
set_option maxRecDepth 100000 in
theorem expr_sel (S : Nat → ByteArray) (D : Nat) (IH : ExprC S D) (t : ByteArray) (A : Option Addr) (c : Nat) (kids : List S24) (w : World) (hlen : kids.length = 1) (hg : Good S D (rd_T24 kids ((0 : Nat) : Int))) (hr : Kd.C k24 w A kids.length kids) (hc : kids.length ≤ c) (hT : TokTab S w) :
    Calls Tryz.prog 10 #[.agg #[.string bSel, .string t, .slice A kids.length c]] w fun e w' => ∃ b, e = .returned (.iface 61 (.pointer (some ⟨b, 0, none⟩))) ∧ Below w.heap.size w w' := by
  have HG := Aside0.mk hg
  obtain ⟨ad, A2, c2, eA, hx0, hx1, hx2, hl2, hi2⟩ := at_T24 hr ((0 : Nat) : Int) (by omega) (by omega)
  cases eA
  have e0 : ad.add (((0 : Nat) : Int).toNat * 3) = ad := by cases ad; rfl
  rw [e0] at hx0 hx1 hx2
  have hK : Kid w ad (rd_T24 kids ((0 : Nat) : Int)) A2 c2 := ⟨hx0, hx1, hx2⟩
  have HL := Aside0.mk hl2
  clear hl2 hr hg hx0 hx1 hx2
  rw [hlen]
  unfold bSel
  have hb0 : Below w.heap.size w (w.alloc (.cells #[.string ⟨#[115, 101, 108, 101, 99, 116, 111, 114]⟩, .string t, .slice (some ad) 1 c] 24)) := (Below.refl w.heap.size w).alloc (Nat.le_refl _) _
  have hL0 := lies_new w ⟨#[115, 101, 108, 101, 99, 116, 111, 114]⟩ t (.slice (some ad) 1 c)
  have HB0 := Aside0.mk hb0
  have HI := Aside0.mk (Kd.C_below hi2 hb0)
  have HT := Aside0.mk (hT.below hb0)
  have HK0 := Aside0.mk (hK.below hb0)
  have HL0 := Aside0.mk hL0
  clear hi2 hT hK hL0 hb0
  go_enter Tryz.func10, Tryz.ntmps10
  go_wp2
  generalize w.alloc (.cells #[.string ⟨#[115, 101, 108, 101, 99, 116, 111, 114]⟩, .string t, .slice (some ad) 1 c] 24) = W0 at HB0 HI HT HK0 HL0 ⊢
  obtain ⟨p0, p1, p2⟩ := HL0.out
  obtain ⟨q0, q1, q2⟩ := HK0.out
  have HD := Aside0.mk (below_drew (Below.refl W0.heap.size W0))
  have HId := Aside0.mk (Kd.C_below HI.out HD.out)
  have HTd := Aside0.mk (HT.out.below HD.out)
  go_region_with (first
    | (go_at_call 10; refine (IH _ _ _ _ HG.out ?h1 HL.out ?h2).mono ?_; (case h1 => exact HId.out); (case h2 => exact HTd.out); rintro e w1 ⟨v1, rfl, hch, hb1⟩; obtain ⟨T1, b1, rfl⟩ := hch.form; obtain ⟨r0, r1, r2⟩ := HL0.out.below (HD.out.trans hb1); have HB1 := Aside0.mk (HD.out.trans hb1); clear hb1 hch)
    | (go_at_call 14; refine (newIdent_any t _).mono ?_; rintro e w2 ⟨b2, rfl, hb2⟩; have HB2 := Aside0.mk hb2; clear hb2))
  all_goals
    go_wp2_with fail
    go_ret
    have h1 := HB0.out.trans ((HB1.out.trans (HB2.out.mono HB1.out.size)).mono HB0.out.size)
    exact ⟨_, rfl, h1.alloc h1.size _⟩
end Go.Proofs.YtdcaabjkklppjaaGreatDoor.A
