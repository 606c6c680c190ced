/- The words of impl.placedOf: forms of nodes, rows of values of nodes. -/
import Derived.Test.YtbojpbfckgjgbaaGreatGPos
import Derived.Deep.RegionHeld3
import Derived.Deep.DrawnRows
namespace Go.Proofs.YtbojpbfckgjgbaaGreat.A
open Go.RowKit Go.Proofs.YtbojpbfckgjgbaaGreatW.PrintWords Go.Proofs.YtbojpbfckgjgbaaGreatW.PrintLast Go.Proofs.YtbojpbfckgjgbaaGreatW.PrintMore
set_option linter.unusedVariables false
set_option linter.unusedSimpArgs false
attribute [local go_sem ↓] Go.wp_at_zero Go.wp_at_succ

abbrev From (n : Nat) : Nat → Prop := fun k => n ≤ k
abbrev b_name : ByteArray := ⟨#[110, 97, 109, 101]⟩
abbrev b_int : ByteArray := ⟨#[105, 110, 116]⟩
abbrev b_points : ByteArray := ⟨#[112, 111, 105, 110, 116, 115]⟩
abbrev b_paren : ByteArray := ⟨#[112, 97, 114, 101, 110]⟩
abbrev b_selector : ByteArray := ⟨#[115, 101, 108, 101, 99, 116, 111, 114]⟩
abbrev b_index : ByteArray := ⟨#[105, 110, 100, 101, 120]⟩
abbrev b_assert : ByteArray := ⟨#[97, 115, 115, 101, 114, 116]⟩
abbrev b_slice : ByteArray := ⟨#[115, 108, 105, 99, 101]⟩
abbrev b_call : ByteArray := ⟨#[99, 97, 108, 108]⟩
abbrev b_composite : ByteArray := ⟨#[99, 111, 109, 112, 111, 115, 105, 116, 101]⟩
abbrev b_braces : ByteArray := ⟨#[98, 114, 97, 99, 101, 115]⟩
abbrev b_star : ByteArray := ⟨#[115, 116, 97, 114]⟩
abbrev b_not : ByteArray := ⟨#[110, 111, 116]⟩
abbrev b_slicetype : ByteArray := ⟨#[115, 108, 105, 99, 101, 116, 121, 112, 101]⟩
abbrev b_chantype : ByteArray := ⟨#[99, 104, 97, 110, 116, 121, 112, 101]⟩
abbrev b_maptype : ByteArray := ⟨#[109, 97, 112, 116, 121, 112, 101]⟩
abbrev b_add : ByteArray := ⟨#[97, 100, 100]⟩
abbrev b_keyvalue : ByteArray := ⟨#[107, 101, 121, 118, 97, 108, 117, 101]⟩
/-- What a kind's form is: its tokens, its nodes, whether there may be more, whether its tokens begin and end it. -/
def formB (k : ByteArray) : Option (Nat × Nat × Bool × Bool × Bool) :=
  if k = b_name then some (1, 0, false, true, true)
  else if k = b_int then some (1, 0, false, true, true)
  else if k = b_points then some (1, 0, false, true, true)
  else if k = b_paren then some (2, 1, false, true, true)
  else if k = b_selector then some (1, 1, false, false, true)
  else if k = b_index then some (2, 2, false, false, true)
  else if k = b_assert then some (2, 2, false, false, true)
  else if k = b_slice then some (2, 3, false, false, true)
  else if k = b_call then some (2, 1, true, false, true)
  else if k = b_composite then some (2, 1, true, false, true)
  else if k = b_braces then some (2, 0, true, true, true)
  else if k = b_star then some (1, 1, false, true, false)
  else if k = b_not then some (1, 1, false, true, false)
  else if k = b_slicetype then some (1, 1, false, true, false)
  else if k = b_chantype then some (1, 1, false, true, false)
  else if k = b_maptype then some (1, 2, false, true, false)
  else if k = b_add then some (1, 2, false, false, false)
  else if k = b_keyvalue then some (1, 2, false, false, false)
  else none
/-- Where an expression begins. -/
def firstP : Nat → S25 → Int
  | 0, _ => 0
  | D + 1, n => match formB n.f0 with
    | some (_, _, _, true, _) => rd n.f2 0
    | _ => firstP D (rd_T25 n.f3 ((0 : Nat) : Int))
def sizeP (n : S25) : Int := if n.f0 = b_name ∨ n.f0 = b_int ∨ n.f0 = b_selector then (n.f1.size : Int) else if n.f0 = b_points then 3 else 1
/-- Behind which position it ends. -/
def behindP : Nat → S25 → Int
  | 0, _ => 0
  | D + 1, n => match formB n.f0 with
    | some (t, _, _, _, true) => rd n.f2 ((t : Int) - 1) + sizeP n
    | _ => behindP D (rd_T25 n.f3 ((n.f3.length - 1 : Nat) : Int))
/-- A tree of an expression with positions. -/
def GoodP : Nat → S25 → Prop
  | 0, _ => False
  | D + 1, n => (∃ t l m f e, formB n.f0 = some (t, l, m, f, e) ∧ n.f2.length = t ∧ l ≤ n.f3.length ∧ (m = false → n.f3.length = l)) ∧ n.f1.size ≤ 1000 ∧ n.f3.length ≤ 20 ∧ (∀ i : Nat, i < n.f2.length → 1 ≤ rd n.f2 (i : Int) ∧ rd n.f2 (i : Int) ≤ 1000000) ∧
    ∀ i : Nat, i < n.f3.length → GoodP D (rd_T25 n.f3 (i : Int))
theorem info33 : (Tryz.prog.info? 33).map (fun i => (i.zero, i.size, i.bytes)) = some (some .nilIface, 1, 16) := by kernel_rfl
/-- An interface value over a pointer: its type, its block. -/
def kI : Kd (Nat × Nat) where
  sz := 1
  E := []
  K := fun _ x cs => cs = [.iface x.1 (.pointer (some ⟨x.2, 0, none⟩))]
  M := fun _ _ _ x cs => cs = [.iface x.1 (.pointer (some ⟨x.2, 0, none⟩))]
  K_len := fun h => by rw [h]; rfl
  K_one := fun h u hu => by rw [h] at hu; simp at hu; rw [hu]; rfl
  K_below := fun _ h => h
  K_of_M := fun h => h
  M_mono := fun _ h => h
  M_bound := fun h => h
  M_move := fun _ h => h
  M_lower := fun _ h => h
/-- The value of a pair: its type, its block. -/
abbrev encI (x : Nat × Nat) : Value := .iface x.1 (.pointer (some ⟨x.2, 0, none⟩))
theorem R_emptyI {W : World} {base g : Nat} {ok : Nat → Prop} (h : W.heap[g]? = some (.cells #[] 33 (0, 0))) (hb : base ≤ g) (hk : ok g) : Kd.R kI 33 W base ok (.slice (some ⟨g, 0, none⟩) 0 0) [] := by
  refine ⟨fun k e => ?_, [], ⟨rfl, .inr ⟨g, 0, #[], rfl, hb, h, Nat.le_refl _, by decide, rfl, rfl⟩⟩, ⟨rfl, fun j p hj => by simp at hj⟩⟩
  have : g = k := by simpa [Value.ownBlock] using e
  subst this
  exact hk
/-- The values of the nodes below, by their places. -/
def Poss (K : Nat → Prop) (W : World) (D : Nat) (kids : List S25) (xs : List (Nat × Nat)) : Prop := ∀ j : Nat, j < xs.length → PosOf K W (encI (xs.getD j (0, 0))) (firstP D (rd_T25 kids (j : Int))) (behindP D (rd_T25 kids (j : Int)))
theorem pos_step {D i : Nat} {kids : List S25} {w wr w1 w8 : World} {v3 v8 : Value} {xs : List (Nat × Nat)} {T1 b1 : Nat} (hT : Poss (fun k => w.heap.size ≤ k ∧ k < wr.heap.size ∧ some k ≠ v3.ownBlock) wr D kids xs)
    (hx : xs.length = i) (h1 : PosOf (From wr.heap.size) w1 (.iface T1 (.pointer (some ⟨b1, 0, none⟩))) (firstP D (rd_T25 kids (i : Int))) (behindP D (rd_T25 kids (i : Int)))) {ok : Nat → Prop} {q : Nat → Prop} (ho : ∀ k, v3.ownBlock = some k → ok k ∧ w.heap.size ≤ k ∧ k < wr.heap.size ∧ q k) (hb : Below w.heap.size w wr) (hb1 : Below wr.heap.size wr w1)
    (hg : w1.grownBy w8 v3.ownBlock) (hat : v8.ownBlock = v3.ownBlock ∨ ∃ b, v8.ownBlock = some b ∧ w1.heap.size ≤ b) :
    Poss (fun k => w.heap.size ≤ k ∧ k < w8.heap.size ∧ some k ≠ v8.ownBlock) w8 D kids (xs ++ [(T1, b1)]) := by
  have hne : ∀ k, k < w1.heap.size → some k ≠ v3.ownBlock → some k ≠ v8.ownBlock := by
    intro k hk hn
    rcases hat with h | ⟨b, h, hle⟩
    · rw [h]; exact hn
    · rw [h]
      intro e
      injection e with e
      omega
  intro j hj
  by_cases hjx : j < xs.length
  · rw [show (xs ++ [(T1, b1)]).getD j (0, 0) = xs.getD j (0, 0) by rw [List.getD_eq_getElem?_getD, List.getD_eq_getElem?_getD, List.getElem?_append_left hjx]]
    refine PosOf.keep (hT j hjx) (Nat.le_trans hb1.size hg.size) (fun k hk hlt => ?_)
    obtain ⟨k1, k2, k3⟩ := hk
    have hlt1 : k < w1.heap.size := Nat.lt_of_lt_of_le hlt hb1.size
    exact ⟨⟨k1, Nat.lt_of_lt_of_le hlt1 hg.size, hne k hlt1 k3⟩, (hg.block k hlt1 k3).trans (hb1.block k hlt)⟩
  · have hj' : j = i := by
      rw [List.length_append, List.length_singleton] at hj
      omega
    subst hj'
    rw [show (xs ++ [(T1, b1)]).getD j (0, 0) = (T1, b1) by rw [List.getD_eq_getElem?_getD, List.getElem?_append_right (by omega), hx, Nat.sub_self]; rfl]
    refine PosOf.keep h1 hg.size (fun k hk hlt => ?_)
    have k1 : w.heap.size ≤ k := Nat.le_trans hb.size hk
    have k3 : some k ≠ v3.ownBlock := by
      intro e
      have := (ho k e.symm).2.2.1
      have hk : wr.heap.size ≤ k := hk
      omega
    exact ⟨⟨k1, Nat.lt_of_lt_of_le hlt hg.size, hne k hlt k3⟩, hg.block k hlt k3⟩
theorem poss_out {D : Nat} {kids : List S25} {w wr : World} {v3 : Value} {xs : List (Nat × Nat)} (hT : Poss (fun k => w.heap.size ≤ k ∧ k < wr.heap.size ∧ some k ≠ v3.ownBlock) wr D kids xs) (j : Nat) (hj : j < xs.length) :
    PosOf (From w.heap.size) wr (encI (xs.getD j (0, 0))) (firstP D (rd_T25 kids (j : Int))) (behindP D (rd_T25 kids (j : Int))) := PosOf.keep (hT j hj) (Nat.le_refl _) (fun k hk _ => ⟨hk.1, rfl⟩)
/-- The cell of a value in its row. -/
theorem row_cell {wr : World} {base : Nat} {ok : Nat → Prop} {A : Option Addr} {n c : Nat} {xs : List (Nat × Nat)} (h : Kd.R kI 33 wr base ok (.slice A n c) xs) (j : Nat) (hj : j < xs.length) : ∃ g, A = some ⟨g, 0, none⟩ ∧ wr.cell? ⟨g, j, none⟩ = some (encI (xs.getD j (0, 0))) := by
  obtain ⟨g, cap, he, _⟩ := Kd.R_form h (by omega)
  injection he with he _ _
  obtain ⟨_, _, hC⟩ := Kd.R_reads' h
  obtain ⟨ad, cs, e1, _, hK, hcc⟩ := Kd.C_get hC ((0 : Nat), (0 : Nat)) (j : Int) (by omega) (by omega)
  rw [he] at e1
  injection e1 with e1
  subst e1
  have hK : cs = [.iface (xs.getD j (0, 0)).1 (.pointer (some ⟨(xs.getD j (0, 0)).2, 0, none⟩))] := hK
  subst hK
  refine ⟨g, he, ?_⟩
  have h0 := hcc 0 _ rfl
  rw [Int.toNat_natCast] at h0
  have e : ((⟨g, 0, none⟩ : Addr).add (j * kI.sz + 0)) = ⟨g, j, none⟩ := by
    have : j * kI.sz + 0 = j := by simp [kI]
    rw [this]
    unfold Addr.add
    split
    · subst_vars; rfl
    · simp
  rw [e] at h0
  exact h0
theorem e33 {t : Nat} (h : t ≠ 33) : ∀ q, q ∈ (33 : Nat) :: kI.E → q ≠ t := by
  intro q hq
  have hE : kI.E = ([] : List Nat) := rfl
  rw [hE] at hq
  simp at hq
  subst hq
  exact fun e => h e.symm
/-- The contract at trees so deep. -/
abbrev PlacedC (D : Nat) : Prop := ∀ (n : S25) (A2 : Option Addr) (c2 : Nat) (A3 : Option Addr) (c3 : Nat) (w : World), GoodP D n → Kd.C (Kd.int .i64) w A2 n.f2.length n.f2 → n.f2.length ≤ c2 → Kd.C k25 w A3 n.f3.length n.f3 → n.f3.length ≤ c3 →
  Calls Tryz.prog 11 #[.agg #[.string n.f0, .string n.f1, .slice A2 n.f2.length c2, .slice A3 n.f3.length c3]] w fun e w' => ∃ v, e = .returned v ∧ PosOf (From w.heap.size) w' v (firstP D n) (behindP D n) ∧ Below w.heap.size w w'
end Go.Proofs.YtbojpbfckgjgbaaGreat.A
