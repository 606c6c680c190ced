/- impl.exprOf at trees of expressions: the tree that it builds. -/
import Derived.Test.YtdcaabjkklppjaaGreatFmtGExpr
namespace Go.Proofs.YtdcaabjkklppjaaGreatFmt.A
open Go.RowKit Go.Proofs.YtdcaabjkklppjaaGreatFmtW.PrintWords Go.Proofs.YtdcaabjkklppjaaGreatFmtW.PrintLast Go.Proofs.YtdcaabjkklppjaaGreatFmtW.PrintMore
set_option linter.unusedVariables false
set_option linter.unusedSimpArgs false
attribute [local go_sem ↓] Go.wp_at_zero Go.wp_at_succ

def bName : ByteArray := ⟨#[110, 97, 109, 101]⟩
def bInt : ByteArray := ⟨#[105, 110, 116]⟩
def bParen : ByteArray := ⟨#[112, 97, 114, 101, 110]⟩
def bSel : ByteArray := ⟨#[115, 101, 108, 101, 99, 116, 111, 114]⟩
def bUn : ByteArray := ⟨#[117, 110, 97, 114, 121]⟩
def bBin : ByteArray := ⟨#[98, 105, 110, 97, 114, 121]⟩
def bIdx : ByteArray := ⟨#[105, 110, 100, 101, 120]⟩
def bCall : ByteArray := ⟨#[99, 97, 108, 108]⟩

/-- A token's text that the search from the first operator on comes to, past no empty one. -/
def OpText (S : Nat → ByteArray) (s : ByteArray) : Prop := ∃ j, j < 89 ∧ 12 ≤ j ∧ s = S j ∧ ∀ i, 12 ≤ i → i ≤ j → ¬ (S i).toList = ([] : List UInt8)

/-- A tree of an expression, so deep at most. -/
def Good (S : Nat → ByteArray) : Nat → S24 → Prop
  | 0, _ => False
  | D + 1, n => (n.f0 = bName ∨ n.f0 = bInt ∨ (n.f0 = bParen ∧ n.f2.length = 1) ∨ (n.f0 = bSel ∧ n.f2.length = 1) ∨ (n.f0 = bUn ∧ OpText S n.f1 ∧ n.f2.length = 1) ∨
      (n.f0 = bBin ∧ OpText S n.f1 ∧ n.f2.length = 2) ∨ (n.f0 = bIdx ∧ n.f2.length = 2) ∨ (n.f0 = bCall ∧ 1 ≤ n.f2.length ∧ n.f2.length ≤ 1000000)) ∧
      ((n.f0 = bName ∨ n.f0 = bInt) ∨ ∀ i : Nat, i < n.f2.length → Good S D (rd_T24 n.f2 (i : Int)))

/-- The value of an expression in a world: the pointers to the nodes that were built, in blocks of the kind K. -/
def Tree (K : Nat → Prop) (W : World) : Nat → S24 → Value → Prop
  | 0, _, _ => False
  | D + 1, n, v =>
    (n.f0 = bName ∧ ∃ b, v = .iface 56 (.pointer (some ⟨b, 0, none⟩)) ∧ K b ∧ W.cell? ⟨b, 1, none⟩ = some (.string n.f1)) ∨
    (n.f0 = bInt ∧ ∃ b, v = .iface 70 (.pointer (some ⟨b, 0, none⟩)) ∧ K b ∧ W.cell? ⟨b, 3, none⟩ = some (.string n.f1)) ∨
    (n.f0 = bParen ∧ n.f2.length = 1 ∧ ∃ b v0, v = .iface 74 (.pointer (some ⟨b, 0, none⟩)) ∧ K b ∧ W.cell? ⟨b, 1, none⟩ = some v0 ∧ Tree K W D (rd_T24 n.f2 ((0 : Nat) : Int)) v0) ∨
    (n.f0 = bSel ∧ n.f2.length = 1 ∧ ∃ b v0 b1, v = .iface 75 (.pointer (some ⟨b, 0, none⟩)) ∧ K b ∧ W.cell? ⟨b, 0, none⟩ = some v0 ∧ W.cell? ⟨b, 1, none⟩ = some (.pointer (some ⟨b1, 0, none⟩)) ∧ K b1 ∧ W.cell? ⟨b1, 1, none⟩ = some (.string n.f1) ∧
      Tree K W D (rd_T24 n.f2 ((0 : Nat) : Int)) v0) ∨
    (n.f0 = bUn ∧ n.f2.length = 1 ∧ ∃ b v0, K b ∧ ((v = .iface 77 (.pointer (some ⟨b, 0, none⟩)) ∧ W.cell? ⟨b, 1, none⟩ = some v0) ∨ (v = .iface 78 (.pointer (some ⟨b, 0, none⟩)) ∧ W.cell? ⟨b, 2, none⟩ = some v0)) ∧ Tree K W D (rd_T24 n.f2 ((0 : Nat) : Int)) v0) ∨
    (n.f0 = bBin ∧ n.f2.length = 2 ∧ ∃ b v0 v1, v = .iface 79 (.pointer (some ⟨b, 0, none⟩)) ∧ K b ∧ W.cell? ⟨b, 0, none⟩ = some v0 ∧ W.cell? ⟨b, 3, none⟩ = some v1 ∧ Tree K W D (rd_T24 n.f2 ((0 : Nat) : Int)) v0 ∧ Tree K W D (rd_T24 n.f2 ((1 : Nat) : Int)) v1) ∨
    (n.f0 = bIdx ∧ n.f2.length = 2 ∧ ∃ b v0 v1, v = .iface 76 (.pointer (some ⟨b, 0, none⟩)) ∧ K b ∧ W.cell? ⟨b, 0, none⟩ = some v0 ∧ W.cell? ⟨b, 2, none⟩ = some v1 ∧ Tree K W D (rd_T24 n.f2 ((0 : Nat) : Int)) v0 ∧ Tree K W D (rd_T24 n.f2 ((1 : Nat) : Int)) v1) ∨
    (n.f0 = bCall ∧ 1 ≤ n.f2.length ∧ ∃ b v0 A c, v = .iface 80 (.pointer (some ⟨b, 0, none⟩)) ∧ K b ∧ W.cell? ⟨b, 0, none⟩ = some v0 ∧ W.cell? ⟨b, 2, none⟩ = some (.slice A (n.f2.length - 1) c) ∧ Tree K W D (rd_T24 n.f2 ((0 : Nat) : Int)) v0 ∧
      ∀ i : Nat, i + 1 < n.f2.length → ∃ a v1, A = some a ∧ K (a.add i).block ∧ W.cell? (a.add i) = some v1 ∧ Tree K W D (rd_T24 n.f2 ((i + 1 : Nat) : Int)) v1)

/-- Where the blocks of a kind are as they were, so is a tree; and every block of it is there. -/
theorem Tree.keep {K K' : Nat → Prop} {W W' : World} (hk : ∀ k, K k → k < W.heap.size → K' k ∧ W'.heap[k]? = W.heap[k]?) : ∀ {D : Nat} {n : S24} {v : Value}, Tree K W D n v → Tree K' W' D n v
  | 0, _, _, h => h.elim
  | D + 1, n, v, h => by
    have hc : ∀ {a : Addr} {u : Value}, K a.block → W.cell? a = some u → K' a.block ∧ W'.cell? a = some u := by
      intro a u ha hu
      have hlt := World.block_lt_of_cell? W _ hu
      have h1 := hk a.block ha hlt
      exact ⟨h1.1, (World.cell?_of_block h1.2).trans hu⟩
    have R : ∀ {m : S24} {u : Value}, Tree K W D m u → Tree K' W' D m u := fun hm => Tree.keep hk hm
    unfold Tree at h ⊢
    rcases h with ⟨h0, b, e, kb, c1⟩ | ⟨h0, b, e, kb, c1⟩ | ⟨h0, hl, b, v0, e, kb, c1, t0⟩ | ⟨h0, hl, b, v0, b1, e, kb, c1, c2, kb1, c3, t0⟩ | ⟨h0, hl, b, v0, kb, e, t0⟩ | ⟨h0, hl, b, v0, v1, e, kb, c1, c2, t0, t1⟩ | ⟨h0, hl, b, v0, v1, e, kb, c1, c2, t0, t1⟩ | ⟨h0, hl, b, v0, A, c, e, kb, c1, c2, t0, ts⟩
    · exact .inl ⟨h0, b, e, (hc (a := ⟨b, 1, none⟩) kb c1).1, (hc (a := ⟨b, 1, none⟩) kb c1).2⟩
    · exact .inr (.inl ⟨h0, b, e, (hc (a := ⟨b, 3, none⟩) kb c1).1, (hc (a := ⟨b, 3, none⟩) kb c1).2⟩)
    · exact .inr (.inr (.inl ⟨h0, hl, b, v0, e, (hc (a := ⟨b, 1, none⟩) kb c1).1, (hc (a := ⟨b, 1, none⟩) kb c1).2, R t0⟩))
    · exact .inr (.inr (.inr (.inl ⟨h0, hl, b, v0, b1, e, (hc (a := ⟨b, 0, none⟩) kb c1).1, (hc (a := ⟨b, 0, none⟩) kb c1).2, (hc (a := ⟨b, 1, none⟩) kb c2).2, (hc (a := ⟨b1, 1, none⟩) kb1 c3).1, (hc (a := ⟨b1, 1, none⟩) kb1 c3).2, R t0⟩)))
    · refine .inr (.inr (.inr (.inr (.inl ⟨h0, hl, b, v0, ?_, ?_, R t0⟩))))
      · rcases e with ⟨e, c1⟩ | ⟨e, c1⟩
        · exact (hc (a := ⟨b, 1, none⟩) kb c1).1
        · exact (hc (a := ⟨b, 2, none⟩) kb c1).1
      · rcases e with ⟨e, c1⟩ | ⟨e, c1⟩
        · exact .inl ⟨e, (hc (a := ⟨b, 1, none⟩) kb c1).2⟩
        · exact .inr ⟨e, (hc (a := ⟨b, 2, none⟩) kb c1).2⟩
    · exact .inr (.inr (.inr (.inr (.inr (.inl ⟨h0, hl, b, v0, v1, e, (hc (a := ⟨b, 0, none⟩) kb c1).1, (hc (a := ⟨b, 0, none⟩) kb c1).2, (hc (a := ⟨b, 3, none⟩) kb c2).2, R t0, R t1⟩)))))
    · exact .inr (.inr (.inr (.inr (.inr (.inr (.inl ⟨h0, hl, b, v0, v1, e, (hc (a := ⟨b, 0, none⟩) kb c1).1, (hc (a := ⟨b, 0, none⟩) kb c1).2, (hc (a := ⟨b, 2, none⟩) kb c2).2, R t0, R t1⟩))))))
    · refine .inr (.inr (.inr (.inr (.inr (.inr (.inr ⟨h0, hl, b, v0, A, c, e, (hc (a := ⟨b, 0, none⟩) kb c1).1, (hc (a := ⟨b, 0, none⟩) kb c1).2, (hc (a := ⟨b, 2, none⟩) kb c2).2, R t0, fun i hi => ?_⟩))))))
      obtain ⟨a, v1, e1, ka, c3, t1⟩ := ts i hi
      have := hc (a := a.add i) ka c3
      exact ⟨a, v1, e1, this.1, this.2, R t1⟩
theorem Tree.below {K : Nat → Prop} {W W' : World} (hb : Below W.heap.size W W') {D : Nat} {n : S24} {v : Value} (h : Tree K W D n v) : Tree K W' D n v := Tree.keep (fun k hk hl => ⟨hk, hb.block k hl⟩) h
theorem Tree.mono {K K' : Nat → Prop} {W : World} (hk : ∀ k, K k → K' k) {D : Nat} {n : S24} {v : Value} (h : Tree K W D n v) : Tree K' W D n v := Tree.keep (fun k h1 _ => ⟨hk k h1, rfl⟩) h
theorem Tree.bound {K : Nat → Prop} {W : World} {D : Nat} {n : S24} {v : Value} (h : Tree K W D n v) : Tree (fun k => K k ∧ k < W.heap.size) W D n v := Tree.keep (fun k h1 h2 => ⟨⟨h1, h2⟩, rfl⟩) h
theorem Tree.form {K : Nat → Prop} {W : World} : ∀ {D : Nat} {n : S24} {v : Value}, Tree K W D n v → ∃ T b, v = .iface T (.pointer (some ⟨b, 0, none⟩))
  | 0, _, _, h => h.elim
  | D + 1, n, v, h => by
    unfold Tree at h
    rcases h with ⟨h0, b, e, kb, c1⟩ | ⟨h0, b, e, kb, c1⟩ | ⟨h0, hl, b, v0, e, kb, c1, t0⟩ | ⟨h0, hl, b, v0, b1, e, kb, c1, c2, kb1, c3, t0⟩ | ⟨h0, hl, b, v0, kb, e | e, t0⟩ | ⟨h0, hl, b, v0, v1, e, kb, c1, c2, t0, t1⟩ | ⟨h0, hl, b, v0, v1, e, kb, c1, c2, t0, t1⟩ | ⟨h0, hl, b, v0, A, c, e, kb, c1, c2, t0, ts⟩
    · exact ⟨_, b, e⟩
    · exact ⟨_, b, e⟩
    · exact ⟨_, b, e⟩
    · exact ⟨_, b, e⟩
    · exact ⟨_, b, e.1⟩
    · exact ⟨_, b, e.1⟩
    · exact ⟨_, b, e⟩
    · exact ⟨_, b, e⟩
    · exact ⟨_, b, e⟩
/-- From a number on. -/
abbrev From (B : Nat) : Nat → Prop := fun k => B ≤ k
theorem al_ {w : World} {p : Addr} {v : Value} (h : w.cell? p = some v) (o : Obj) : (w.alloc o).cell? p = some v := (((Below.refl w.heap.size w).alloc (Nat.le_refl _) o).cell (World.block_lt_of_cell? w _ h)).trans h
theorem Tree.from_ {B B' : Nat} {W : World} (hl : B' ≤ B) {D : Nat} {n : S24} {v : Value} (h : Tree (From B) W D n v) : Tree (From B') W D n v := Tree.mono (fun k hk => Nat.le_trans hl hk) h
theorem Tree.al {K : Nat → Prop} {W : World} {D : Nat} {n : S24} {v : Value} (h : Tree K W D n v) (o : Obj) : Tree K (W.alloc o) D n v := h.below ((Below.refl W.heap.size W).alloc (Nat.le_refl _) o)

def ExprC (S : Nat → ByteArray) (D : Nat) : Prop := ∀ (n : S24) (A : Option Addr) (c : Nat) (w : World), Good S D n → Kd.C k24 w A n.f2.length n.f2 → n.f2.length ≤ c → TokTab S w →
    Calls Tryz.prog 33 #[.agg #[.string n.f0, .string n.f1, .slice A n.f2.length c]] w fun e w' => ∃ v, e = .returned v ∧ Tree (From w.heap.size) w' D n v ∧ Below w.heap.size w w'

set_option maxHeartbeats 1000000 in
set_option maxRecDepth 100000 in
theorem expr_name (D : Nat) (kids : List S24) (t : ByteArray) (A : Option Addr) (n c : Nat) (w : World) :
    Calls Tryz.prog 33 #[.agg #[.string bName, .string t, .slice A n c]] w fun e w' => ∃ v, e = .returned v ∧ Tree (From w.heap.size) w' (D + 1) ⟨bName, t, kids⟩ v ∧ Below w.heap.size w w' := by
  have HN : ∀ x, (⟨bName, t, kids⟩ : S24) = x → x.f0 = bName ∧ x.f1 = t := fun x e => by rw [← e]; exact ⟨rfl, rfl⟩
  generalize (⟨bName, t, kids⟩ : S24) = nn at HN ⊢
  obtain ⟨HN0, HN1⟩ := HN _ rfl
  have HN0 := Aside0.mk HN0
  have HN1 := Aside0.mk HN1
  unfold bName
  have HB := Aside0.mk (Below.refl w.heap.size w)
  go_enter Tryz.func33, Tryz.ntmps33
  go_wp2_with (first | (go_at_call 28; refine (newIdent_any t _).mono ?_; rintro e w1 ⟨b, rfl, hs1, hlo1, hb1⟩; have HS1 := Aside0.mk hs1; have HLO1 := Aside0.mk hlo1; have HB1 := Aside0.mk hb1; clear hs1 hlo1 hb1))
  go_ret
  exact ⟨_, rfl, .inl ⟨HN0.out, _, rfl, by have := HLO1.out; simp at this; show _ ≤ _; omega, by rw [HN1.out]; exact HS1.out⟩, (HB.out.alloc (Nat.le_refl _) _).trans (HB1.out.mono (by simp))⟩

set_option maxHeartbeats 1000000 in
set_option maxRecDepth 100000 in
theorem expr_int (D : Nat) (kids : List S24) (t : ByteArray) (A : Option Addr) (n c : Nat) (w : World) :
    Calls Tryz.prog 33 #[.agg #[.string bInt, .string t, .slice A n c]] w fun e w' => ∃ v, e = .returned v ∧ Tree (From w.heap.size) w' (D + 1) ⟨bInt, t, kids⟩ v ∧ Below w.heap.size w w' := by
  have HN : ∀ x, (⟨bInt, t, kids⟩ : S24) = x → x.f0 = bInt ∧ x.f1 = t := fun x e => by rw [← e]; exact ⟨rfl, rfl⟩
  generalize (⟨bInt, t, kids⟩ : S24) = nn at HN ⊢
  obtain ⟨HN0, HN1⟩ := HN _ rfl
  have HN0 := Aside0.mk HN0
  have HN1 := Aside0.mk HN1
  unfold bInt
  have HB := Aside0.mk (Below.refl w.heap.size w)
  go_enter Tryz.func33, Tryz.ntmps33
  go_wp2_with (first | (go_at_call 47; refine (literal_any t A n c _).mono ?_; rintro e w1 ⟨b, rfl, hs1, hlo1, hb1⟩; have HS1 := Aside0.mk hs1; have HLO1 := Aside0.mk hlo1; have HB1 := Aside0.mk hb1; clear hs1 hlo1 hb1))
  go_ret
  exact ⟨_, rfl, .inr (.inl ⟨HN0.out, _, rfl, by have := HLO1.out; simp at this; show _ ≤ _; omega, by rw [HN1.out]; exact HS1.out⟩), (HB.out.alloc (Nat.le_refl _) _).trans (HB1.out.mono (by simp))⟩

set_option maxHeartbeats 1000000 in
set_option maxRecDepth 100000 in
theorem expr_paren (S : Nat → ByteArray) (D : Nat) (IH : ExprC S D) (t : ByteArray) (A : Option Addr) (c : Nat) (kids : List S24) (w : World) (hlen : kids.length = 1) (hg : Good S D (rd_T24 kids ((0 : Nat) : Int))) (hr : Kd.C k24 w A kids.length kids) (hc : kids.length ≤ c) (hT : TokTab S w) :
    Calls Tryz.prog 33 #[.agg #[.string bParen, .string t, .slice A kids.length c]] w fun e w' => ∃ v, e = .returned v ∧ Tree (From w.heap.size) w' (D + 1) ⟨bParen, t, kids⟩ v ∧ Below w.heap.size w w' := by
  have HN : ∀ x, (⟨bParen, t, kids⟩ : S24) = x → x.f0 = bParen ∧ x.f1 = t ∧ x.f2 = kids := fun x e => by rw [← e]; exact ⟨rfl, rfl, rfl⟩
  generalize (⟨bParen, t, kids⟩ : S24) = nn at HN ⊢
  obtain ⟨HN0, HN1, HN2⟩ := HN _ rfl
  have HN0 := Aside0.mk HN0
  have HN1 := Aside0.mk HN1
  have HN2 := Aside0.mk HN2
  have HLN := Aside0.mk hlen
  clear HN
  unfold bParen
  have HB := Aside0.mk (Below.refl w.heap.size w)
  have HT := Aside0.mk hT
  have HG := Aside0.mk hg
  clear hT hg
  obtain ⟨ad, A2, c2, eA, hx0, hx1, hx2, hl2, hi2⟩ := at_T24 hr ((0 : Nat) : Int) (by omega) (by omega)
  cases eA
  have HI := Aside0.mk hi2
  have HL := Aside0.mk hl2
  clear hi2 hl2 hr
  have al : ∀ o : Obj, Below w.heap.size w (w.alloc o) := fun o => HB.out.alloc (Nat.le_refl _) o
  have hy0 := fun o => ((al o).cell (World.block_lt_of_cell? w _ hx0)).trans hx0
  have hy1 := fun o => ((al o).cell (World.block_lt_of_cell? w _ hx1)).trans hx1
  have hy2 := fun o => ((al o).cell (World.block_lt_of_cell? w _ hx2)).trans hx2
  have HAL := Aside0.mk al
  clear al hx0 hx1 hx2
  have e0 : ad.add (((0 : Nat) : Int).toNat * 3) = ad := by cases ad; rfl
  rw [e0] at hy0 hy1 hy2
  rw [hlen]
  go_enter Tryz.func33, Tryz.ntmps33
  go_wp2_with (first | (go_at_call 33; refine (IH _ _ _ _ HG.out (Kd.C_below HI.out (HAL.out _)) HL.out (HT.out.below (HAL.out _))).mono ?_; rintro e w1 ⟨v1, rfl, hch, hb1⟩; obtain ⟨T1, b1, rfl⟩ := hch.form))
  go_ret
  have h1 := (HAL.out _).trans (hb1.mono (HAL.out _).size)
  have h2 := (Below.refl w1.heap.size w1).alloc (Nat.le_refl _) (.cells #[.int .i64 0, .iface T1 (.pointer (some ⟨b1, 0, none⟩)), .int .i64 0] 116)
  refine ⟨_, rfl, ?_, h1.alloc h1.size _⟩
  unfold Tree
  rw [HN2.out]
  exact .inr (.inr (.inl ⟨HN0.out, HLN.out, _, _, rfl, h1.size, (blk_cell (heap_alloc_new w1 _) 1).trans rfl, (hch.from_ (HAL.out _).size).below h2⟩))

set_option maxHeartbeats 1000000 in
set_option maxRecDepth 100000 in
theorem expr_star (S : Nat → ByteArray) (D : Nat) (IH : ExprC S D) (A : Option Addr) (c : Nat) (kids : List S24) (w : World) (hlen : kids.length = 1) (hg : Good S D (rd_T24 kids ((0 : Nat) : Int))) (hr : Kd.C k24 w A kids.length kids) (hc : kids.length ≤ c) (hT : TokTab S w) :
    Calls Tryz.prog 33 #[.agg #[.string bUn, .string ⟨#[42]⟩, .slice A kids.length c]] w fun e w' => ∃ v, e = .returned v ∧ Tree (From w.heap.size) w' (D + 1) ⟨bUn, ⟨#[42]⟩, kids⟩ v ∧ Below w.heap.size w w' := by
  have HN : ∀ x, (⟨bUn, ⟨#[42]⟩, kids⟩ : S24) = x → x.f0 = bUn ∧ x.f1 = ⟨#[42]⟩ ∧ x.f2 = kids := fun x e => by rw [← e]; exact ⟨rfl, rfl, rfl⟩
  generalize (⟨bUn, ⟨#[42]⟩, kids⟩ : S24) = nn at HN ⊢
  obtain ⟨HN0, HN1, HN2⟩ := HN _ rfl
  have HN0 := Aside0.mk HN0
  have HN1 := Aside0.mk HN1
  have HN2 := Aside0.mk HN2
  have HLN := Aside0.mk hlen
  clear HN
  unfold bUn
  have HB := Aside0.mk (Below.refl w.heap.size w)
  have HT := Aside0.mk hT
  have HG := Aside0.mk hg
  clear hT hg
  obtain ⟨ad, A2, c2, eA, hx0, hx1, hx2, hl2, hi2⟩ := at_T24 hr ((0 : Nat) : Int) (by omega) (by omega)
  cases eA
  have HI := Aside0.mk hi2
  have HL := Aside0.mk hl2
  clear hi2 hl2 hr
  have al : ∀ o : Obj, Below w.heap.size w (w.alloc o) := fun o => HB.out.alloc (Nat.le_refl _) o
  have hy0 := fun o => ((al o).cell (World.block_lt_of_cell? w _ hx0)).trans hx0
  have hy1 := fun o => ((al o).cell (World.block_lt_of_cell? w _ hx1)).trans hx1
  have hy2 := fun o => ((al o).cell (World.block_lt_of_cell? w _ hx2)).trans hx2
  have HAL := Aside0.mk al
  clear al hx0 hx1 hx2
  have e0 : ad.add (((0 : Nat) : Int).toNat * 3) = ad := by cases ad; rfl
  rw [e0] at hy0 hy1 hy2
  rw [hlen]
  go_enter Tryz.func33, Tryz.ntmps33
  go_wp2_with (first | (go_at_call 33; refine (IH _ _ _ _ HG.out (Kd.C_below HI.out (HAL.out _)) HL.out (HT.out.below (HAL.out _))).mono ?_; rintro e w1 ⟨v1, rfl, hch, hb1⟩; obtain ⟨T1, b1, rfl⟩ := hch.form))
  go_ret
  have h1 := (HAL.out _).trans (hb1.mono (HAL.out _).size)
  refine ⟨_, rfl, ?_, h1.alloc h1.size _⟩
  unfold Tree
  rw [HN2.out]
  exact .inr (.inr (.inr (.inr (.inl ⟨HN0.out, HLN.out, _, _, h1.size, .inl ⟨rfl, (blk_cell (heap_alloc_new w1 _) 1).trans rfl⟩, (hch.from_ (HAL.out _).size).al _⟩))))

/-- The node's own cells and the first one below it, in a world. -/
def Lies (W : World) (g : Nat) (k t : ByteArray) (s : Value) : Prop := W.cell? ⟨g, 0, none⟩ = some (.string k) ∧ W.cell? ⟨g, 1, none⟩ = some (.string t) ∧ W.cell? ⟨g, 2, none⟩ = some s
def Kid (W : World) (ad : Addr) (x : S24) (A : Option Addr) (c : Nat) : Prop := W.cell? ad = some (.string x.f0) ∧ W.cell? ⟨ad.block, ad.off + 1, none⟩ = some (.string x.f1) ∧ W.cell? ⟨ad.block, ad.off + 2, none⟩ = some (.slice A x.f2.length c)
theorem Lies.below {W W' : World} {g : Nat} {k t : ByteArray} {s : Value} (h : Lies W g k t s) (hb : Below W.heap.size W W') : Lies W' g k t s := by
  obtain ⟨a, b, c⟩ := h
  exact ⟨(hb.cell (World.block_lt_of_cell? W _ a)).trans a, (hb.cell (World.block_lt_of_cell? W _ b)).trans b, (hb.cell (World.block_lt_of_cell? W _ c)).trans c⟩
theorem Kid.below {W W' : World} {ad : Addr} {x : S24} {A : Option Addr} {c : Nat} (h : Kid W ad x A c) (hb : Below W.heap.size W W') : Kid W' ad x A c := by
  obtain ⟨a, b, c⟩ := h
  exact ⟨(hb.cell (World.block_lt_of_cell? W _ a)).trans a, (hb.cell (World.block_lt_of_cell? W _ b)).trans b, (hb.cell (World.block_lt_of_cell? W _ c)).trans c⟩
theorem lies_new (w : World) (k t : ByteArray) (s : Value) : Lies (w.alloc (.cells #[.string k, .string t, s] 24)) w.heap.size k t s :=
  ⟨(blk_cell (heap_alloc_new w _) 0).trans rfl, (blk_cell (heap_alloc_new w _) 1).trans rfl, (blk_cell (heap_alloc_new w _) 2).trans rfl⟩

set_option maxHeartbeats 1000000 in
set_option maxRecDepth 100000 in
theorem expr_sel (S : Nat → ByteArray) (D : Nat) (IH : ExprC S D) (t : ByteArray) (A : Option Addr) (c : Nat) (kids : List S24) (w : World) (hlen : kids.length = 1) (hg : Good S D (rd_T24 kids ((0 : Nat) : Int))) (hr : Kd.C k24 w A kids.length kids) (hc : kids.length ≤ c) (hT : TokTab S w) :
    Calls Tryz.prog 33 #[.agg #[.string bSel, .string t, .slice A kids.length c]] w fun e w' => ∃ v, e = .returned v ∧ Tree (From w.heap.size) w' (D + 1) ⟨bSel, t, kids⟩ v ∧ Below w.heap.size w w' := by
  have HN : ∀ x, (⟨bSel, t, kids⟩ : S24) = x → x.f0 = bSel ∧ x.f1 = t ∧ x.f2 = kids := fun x e => by rw [← e]; exact ⟨rfl, rfl, rfl⟩
  generalize (⟨bSel, t, kids⟩ : S24) = nn at HN ⊢
  obtain ⟨HN0, HN1, HN2⟩ := HN _ rfl
  have HN0 := Aside0.mk HN0
  have HN1 := Aside0.mk HN1
  have HN2 := Aside0.mk HN2
  have HLN := Aside0.mk hlen
  clear HN
  have HG := Aside0.mk hg
  obtain ⟨ad, A2, c2, eA, hx0, hx1, hx2, hl2, hi2⟩ := at_T24 hr ((0 : Nat) : Int) (by omega) (by omega)
  cases eA
  have e0 : ad.add (((0 : Nat) : Int).toNat * 3) = ad := by cases ad; rfl
  rw [e0] at hx0 hx1 hx2
  have hK : Kid w ad (rd_T24 kids ((0 : Nat) : Int)) A2 c2 := ⟨hx0, hx1, hx2⟩
  have HL := Aside0.mk hl2
  clear hl2 hr hg hx0 hx1 hx2
  rw [hlen]
  unfold bSel
  have hb0 : Below w.heap.size w (w.alloc (.cells #[.string ⟨#[115, 101, 108, 101, 99, 116, 111, 114]⟩, .string t, .slice (some ad) 1 c] 24)) := (Below.refl w.heap.size w).alloc (Nat.le_refl _) _
  have hL0 := lies_new w ⟨#[115, 101, 108, 101, 99, 116, 111, 114]⟩ t (.slice (some ad) 1 c)
  have HB0 := Aside0.mk hb0
  have HI := Aside0.mk (Kd.C_below hi2 hb0)
  have HT := Aside0.mk (hT.below hb0)
  have HK0 := Aside0.mk (hK.below hb0)
  have HL0 := Aside0.mk hL0
  clear hi2 hT hK hL0 hb0
  go_enter Tryz.func33, Tryz.ntmps33
  go_wp2
  generalize w.alloc (.cells #[.string ⟨#[115, 101, 108, 101, 99, 116, 111, 114]⟩, .string t, .slice (some ad) 1 c] 24) = W0 at HB0 HI HT HK0 HL0 ⊢
  obtain ⟨p0, p1, p2⟩ := HL0.out
  obtain ⟨q0, q1, q2⟩ := HK0.out
  have HD := Aside0.mk (below_drew (Below.refl W0.heap.size W0))
  have HId := Aside0.mk (Kd.C_below HI.out HD.out)
  have HTd := Aside0.mk (HT.out.below HD.out)
  go_region_with (first
    | (go_at_call 33; refine (IH _ _ _ _ HG.out ?h1 HL.out ?h2).mono ?_; (case h1 => exact HId.out); (case h2 => exact HTd.out); rintro e w1 ⟨v1, rfl, hch, hb1⟩; obtain ⟨T1, b1, rfl⟩ := hch.form; obtain ⟨r0, r1, r2⟩ := HL0.out.below (HD.out.trans hb1); have HB1 := Aside0.mk (HD.out.trans hb1); have HC1 := Aside0.mk (hch.from_ (Nat.le_trans HB0.out.size HD.out.size)); clear hb1 hch)
    | (go_at_call 28; refine (newIdent_any t _).mono ?_; rintro e w2 ⟨b2, rfl, hs2, hlo2, hb2⟩; have HS2 := Aside0.mk hs2; have HLO2 := Aside0.mk hlo2; have HB2 := Aside0.mk hb2; clear hb2 hs2 hlo2))
  all_goals
    go_wp2_with fail
    go_ret
    have h1 := HB0.out.trans ((HB1.out.trans (HB2.out.mono HB1.out.size)).mono HB0.out.size)
    refine ⟨_, rfl, ?_, h1.alloc h1.size _⟩
    unfold Tree
    rw [HN2.out]
    exact .inr (.inr (.inr (.inl ⟨HN0.out, HLN.out, _, _, _, rfl, h1.size, (blk_cell (heap_alloc_new w2 _) 0).trans rfl, (blk_cell (heap_alloc_new w2 _) 1).trans rfl, Nat.le_trans (Nat.le_trans HB0.out.size HB1.out.size) HLO2.out, by rw [HN1.out]; exact al_ HS2.out _, (HC1.out.below HB2.out).al _⟩)))
end Go.Proofs.YtdcaabjkklppjaaGreatFmt.A
