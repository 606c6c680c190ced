/- spec.visits and spec.Visits. -/
import Derived.Test.YtdcaabjkklppjaaGreatFmtGInr
import Derived.Test.YtdcaabjkklppjaaGreatFmtA6
/- spec.visits: the visits by the reference. -/
namespace Go.Proofs.YtdcaabjkklppjaaGreatFmt.A
open Go.RowKit Go.Proofs.YtdcaabjkklppjaaGreatFmtW.PrintWords Go.Proofs.YtdcaabjkklppjaaGreatFmtW.PrintLast Go.Proofs.YtdcaabjkklppjaaGreatFmtW.PrintMore
set_option linter.unusedVariables false
set_option linter.unusedSimpArgs false
attribute [local go_sem ↓] Go.wp_at_zero Go.wp_at_succ

/-- A tree so deep at most, with nothing below a name or a number. -/
def Deep : Nat → S24 → Prop
  | 0, _ => False
  | D + 1, n => ((n.f0 = bName ∨ n.f0 = bInt) → n.f2 = []) ∧ ∀ i : Nat, i < n.f2.length → Deep D (rd_T24 n.f2 (i : Int))
theorem Deep.nk {D : Nat} {n : S24} (h : Deep (D + 1) n) : nk n = n.f2.length := by
  unfold A.nk
  split
  next h1 => rw [h.1 h1]; rfl
  next => rfl
theorem Deep.pos : ∀ {D : Nat} {n : S24}, Deep D n → 1 ≤ cnt D n
  | 0, _, h => h.elim
  | D + 1, n, _ => by rw [cnt]; omega
/-- The visits, as the reference has them. -/
def visL : Nat → Int → S24 → List S29
  | 0, _, _ => []
  | D + 1, d, n => ⟨kindB n, textB n, d⟩ :: (catTo (fun i => visL D (d + 1) (rd_T24 n.f2 (i : Int))) n.f2.length ++ ((if n.f0 = bSel then [⟨bName, n.f1, d + 1⟩, ⟨⟨#[]⟩, ⟨#[]⟩, d + 1⟩] else []) ++ [⟨⟨#[]⟩, ⟨#[]⟩, d⟩]))
theorem catTo_len {α : Type} (f : Nat → List α) (c : Nat → Nat) : ∀ m, (∀ i, i < m → (f i).length ≤ c i) → (catTo f m).length ≤ sumTo c m
  | 0, _ => Nat.le_refl _
  | m + 1, h => by
    have h1 := catTo_len f c m (fun i hi => h i (by omega))
    have h2 := h m (by omega)
    rw [catTo, sumTo, List.length_append]
    omega
theorem visL_len : ∀ {D : Nat} {n : S24} (d : Int), Deep D n → (visL D d n).length + 3 ≤ cnt D n
  | 0, _, _, h => h.elim
  | D + 1, n, d, h => by
    have h1 := catTo_len (fun i => visL D (d + 1) (rd_T24 n.f2 (i : Int))) (fun i => cnt D (rd_T24 n.f2 (i : Int))) n.f2.length (fun i hi => by have := visL_len (d + 1) (h.2 i hi); omega)
    rw [visL, cnt, h.nk, List.length_cons, List.length_append, List.length_append]
    split
    · simp only [List.length_cons, List.length_nil]; omega
    · simp only [List.length_cons, List.length_nil]; omega
theorem grown_trans {W W1 W2 : World} {r r1 : Option Nat} (h : W.grownBy W1 r) (k : W1.grownBy W2 r1) (hr : r1 = r ∨ ∃ b, r1 = some b ∧ W.heap.size ≤ b) : W.grownBy W2 r :=
  ⟨k.os.trans h.os, k.tape.trans h.tape, k.output.trans h.output, Nat.le_trans h.size k.size, fun i hi hn => (k.block i (Nat.lt_of_lt_of_le hi h.size) (by
    rcases hr with hr | ⟨b, hr, hb⟩
    · rw [hr]; exact hn
    · rw [hr]; intro e; injection e with e; omega)).trans (h.block i hi hn)⟩
theorem fresh_trans {W W1 : World} {v v1 v2 : Value} (hw : W.heap.size ≤ W1.heap.size) (h : v1.ownBlock = v.ownBlock ∨ ∃ b, v1.ownBlock = some b ∧ W.heap.size ≤ b) (k : v2.ownBlock = v1.ownBlock ∨ ∃ b, v2.ownBlock = some b ∧ W1.heap.size ≤ b) : v2.ownBlock = v.ownBlock ∨ ∃ b, v2.ownBlock = some b ∧ W.heap.size ≤ b := by
  rcases k with k | ⟨b, k, hb⟩
  · rw [k]; exact h
  · exact .inr ⟨b, k, Nat.le_trans hw hb⟩
theorem grown_below {W W' : World} {r : Option Nat} (h : Below W.heap.size W W') : W.grownBy W' r := ⟨h.os, h.tape, h.output, h.size, fun k hk _ => h.block k hk⟩

def VisC (D : Nat) : Prop := ∀ (n : S24) (A : Option Addr) (c : Nat) (d : Int) (l : List S29) (v : Value) (w0 W : World), Deep D n → Kd.C k24 w0 A n.f2.length n.f2 → n.f2.length ≤ c → Below w0.heap.size w0 W → Kd.R k29 29 W w0.heap.size (fun _ => True) v l → 0 ≤ d → d + (D : Int) ≤ 900 → l.length + cnt D n ≤ 100000 →
    Calls Tryz.prog 25 #[v, .agg #[.string n.f0, .string n.f1, .slice A n.f2.length c], .int .i64 d] W fun e W' => ∃ v', e = .returned v' ∧ Kd.R k29 29 W' w0.heap.size (fun _ => True) v' (l ++ visL D d n) ∧ W.grownBy W' v.ownBlock ∧ (v'.ownBlock = v.ownBlock ∨ ∃ b, v'.ownBlock = some b ∧ W.heap.size ≤ b)

theorem k29_M_of_K {w W : World} {base : Nat} {ok : Nat → Prop} {x : S29} {cs : List Value} (h : k29.K w x cs) : k29.M W base ok x cs := by
  rw [k29_open h]
  exact k29_mkM _ _ _ _
theorem rows_two {w : World} {g : Nat} {s0 s1 s2 s3 : ByteArray} {i0 i1 : Int} (h : w.heap[g]? = some (.cells #[.string s0, .string s1, .int .i64 i0, .string s2, .string s3, .int .i64 i1] 29 (0, 0))) :
    ReadsRow (k29.K w) 3 w (some ⟨g, 0, none⟩) 2 ([⟨s0, s1, i0⟩, ⟨s2, s3, i1⟩] : List S29) := by
  refine ⟨rfl, by decide, fun _ => ⟨_, rfl, fun j p hj => ?_⟩⟩
  match j, hj with
  | 0, hj =>
    obtain rfl := Option.some.inj hj
    refine ⟨_, rfl, k29_mk w _, fun i u hu => ?_⟩
    match i, hu with
    | 0, hu => obtain rfl := Option.some.inj hu; exact (blk_cell h 0).trans rfl
    | 1, hu => obtain rfl := Option.some.inj hu; exact (blk_cell h 1).trans rfl
    | 2, hu => obtain rfl := Option.some.inj hu; exact (blk_cell h 2).trans rfl
  | 1, hj =>
    obtain rfl := Option.some.inj hj
    refine ⟨_, rfl, k29_mk w _, fun i u hu => ?_⟩
    match i, hu with
    | 0, hu => obtain rfl := Option.some.inj hu; exact (blk_cell h 3).trans rfl
    | 1, hu => obtain rfl := Option.some.inj hu; exact (blk_cell h 4).trans rfl
    | 2, hu => obtain rfl := Option.some.inj hu; exact (blk_cell h 5).trans rfl

set_option maxHeartbeats 2000000 in
set_option maxRecDepth 100000 in
theorem visits_name (D : Nat) (IH : VisC D) (f1 : ByteArray) (kids : List S24) (A : Option Addr) (c : Nat) (d : Int) (l : List S29) (v : Value) (w0 W : World) (hkids : ∀ i : Nat, i < kids.length → Deep D (rd_T24 kids (i : Int))) (hr : Kd.C k24 w0 A kids.length kids) (hc : kids.length ≤ c) (hB : Below w0.heap.size w0 W) (hR : Kd.R k29 29 W w0.heap.size (fun _ => True) v l) (h0 : 0 ≤ d) (hd : d + (D + 1 : Nat) ≤ 900) (hl : l.length + (8 + sumTo (fun i => cnt D (rd_T24 kids (i : Int))) kids.length) ≤ 100000) :
    Calls Tryz.prog 25 #[v, .agg #[.string bName, .string f1, .slice A kids.length c], .int .i64 d] W fun e W' => ∃ v', e = .returned v' ∧ Kd.R k29 29 W' w0.heap.size (fun _ => True) v' (l ++ (⟨⟨#[110, 97, 109, 101]⟩, f1, d⟩ :: (catTo (fun i => visL D (d + 1) (rd_T24 kids (i : Int))) kids.length ++ ([] ++ [⟨⟨#[]⟩, ⟨#[]⟩, d⟩])))) ∧ W.grownBy W' v.ownBlock ∧ (v'.ownBlock = v.ownBlock ∨ ∃ b, v'.ownBlock = some b ∧ W.heap.size ≤ b) := by
  unfold bName
  have hbs := hB.size
  have hkl : kids.length ≤ 100000 := by
    have := sumTo_ge (fun i => cnt D (rd_T24 kids (i : Int))) kids.length (fun i hi => (hkids i hi).pos)
    omega
  have hbn : Below W.heap.size W (W.alloc (.cells #[.string ⟨#[110, 97, 109, 101]⟩, .string f1, .slice A kids.length c] 24)) := (Below.refl W.heap.size W).alloc (Nat.le_refl _) _
  have hCW := Kd.C_below hr hB
  have HKO := Aside0.mk (spec_kindOf.calls ⟨#[110, 97, 109, 101]⟩ f1 A c kids ⟨#[110, 97, 109, 101]⟩ (W.alloc (.cells #[.string ⟨#[110, 97, 109, 101]⟩, .string f1, .slice A kids.length c] 24)) (Kd.C_below hCW hbn) hc (by unfold spec_kindOf.f; first | exact if_pos (by decide +kernel) | (rw [if_neg (by first | exact beq_eq_false_iff_ne.1 hin | decide +kernel)])))
  have HL := Aside0.mk hl
  have HK := Aside0.mk hkids
  have HR := Aside0.mk hR
  have HCR := Aside0.mk hr
  have HB0 := Aside0.mk hB
  have HOWN := Aside0.mk (fun k hk => ((Kd.R_bound hR).1 k hk).2)
  have HBS := Aside0.mk hbs
  have HD0 := Aside0.mk (show 0 ≤ d ∧ d + 1 + (D : Int) ≤ 900 by omega)
  have hw1 : wrap64 (d + 1) = d + 1 := w64 (by omega) (by omega)
  clear hl hkids hR hr hB hbs hbn hCW hc hd h0
  go_enter Tryz.func25, Tryz.ntmps25
  go_wp2_with (first
    | (go_at_call 34; (with_reducible refine HKO.out.mono ?_); rintro e w1 ⟨rfl, hb1⟩; have HB1 := Aside0.mk (((Below.refl W.heap.size W).alloc (Nat.le_refl _) (.cells #[.string ⟨#[110, 97, 109, 101]⟩, .string f1, .slice A kids.length c] 24)).trans (hb1.mono (by simp))); have hnode : w1.heap[W.heap.size]? = some (.cells #[.string ⟨#[110, 97, 109, 101]⟩, .string f1, .slice A kids.length c] 24) := (hb1.block _ (by simp)).trans (heap_alloc_new W _); have HNO := Aside0.mk hnode; have q0 := fun o => al_ ((blk_cell hnode 0).trans rfl : w1.cell? ⟨W.heap.size, 0, none⟩ = some (.string ⟨#[110, 97, 109, 101]⟩)) o; have q1 := fun o => al_ ((blk_cell hnode 1).trans rfl : w1.cell? ⟨W.heap.size, 1, none⟩ = some (.string f1)) o; clear hnode hb1)
    | ((with_reducible refine gate_builtin (b := .append) (xs := #[.tmp 25, .tmp 27]) rfl ?_); at_builtin; refine Kd.R_append k29 (w0 := (w1.alloc (.cells #[.string ⟨#[110, 97, 109, 101]⟩, .string f1, .int .i64 d] 29))) w0.heap.size rfl (.tmp 25) (.tmp 27) 26 29 (.agg #[(.string ⟨#[]⟩), (.string ⟨#[]⟩), (.int .i64 0)]) 40 rfl Tryz.underlying26 info29 rfl (by decide) (by omega) v l (⟨⟨#[110, 97, 109, 101]⟩, f1, d⟩ : S29) [.string ⟨#[110, 97, 109, 101]⟩, .string f1, .int .i64 d] (fun _ => True) (fun _ => False) rfl (by first | (go_simp; done) | (go_simp; rfl)) ?aP (fun _ hk => hk.elim) ?aF ?aO ?aB ?aS ?aL ?_; (case aP => exact k29_mkM _ _ _ _); (case aF => exact fun _ _ => trivial); (case aO => exact Kd.R_below HR.out (HB1.out.trans (((Below.refl w1.heap.size w1).alloc (Nat.le_refl _) (.cells #[.string ⟨#[110, 97, 109, 101]⟩, .string f1, .int .i64 d] 29)).mono HB1.out.size))); (case aB => exact Below.refl _ _); (case aS => have := HB1.out.size; have := HBS.out; simp; omega); (case aL => have := HL.out; omega); intro v8 w8 hR8 hB8 hG8 hA8; have HR8 := Aside0.mk hR8; have HG8 := Aside0.mk (grown_trans (grown_below (HB1.out.trans (((Below.refl w1.heap.size w1).alloc (Nat.le_refl _) (.cells #[.string ⟨#[110, 97, 109, 101]⟩, .string f1, .int .i64 d] 29)).mono HB1.out.size))) hG8 (.inl rfl)); have HA8 := Aside0.mk (fresh_trans (v := v) (v1 := v) (by have := HB1.out.size; simp; omega : W.heap.size ≤ (w1.alloc (.cells #[.string ⟨#[110, 97, 109, 101]⟩, .string f1, .int .i64 d] 29)).heap.size) (.inl rfl) hA8); have hn8 : w8.heap[W.heap.size]? = some (.cells #[.string ⟨#[110, 97, 109, 101]⟩, .string f1, .slice A kids.length c] 24) := (hG8.block _ (by have := lt_of_block HNO.out; simp; omega) (fun e => (by have := (HOWN.out _ e.symm).2.1; omega))).trans ((((Below.refl w1.heap.size w1).alloc (Nat.le_refl _) (.cells #[.string ⟨#[110, 97, 109, 101]⟩, .string f1, .int .i64 d] 29)).block _ (lt_of_block HNO.out)).trans HNO.out); have HN8 := Aside0.mk hn8; have q2 := ((blk_cell hn8 2).trans rfl : w8.cell? ⟨W.heap.size, 2, none⟩ = some (.slice A kids.length c)); clear hR8 hB8 hG8 hA8 hn8))
  go_loopg [0, 32] kids.length (fun kq v0 v32 w' => ∃ i : Nat, v32 = .int .i64 (i : Int) ∧ i ≤ kids.length ∧ Hid (kq = kids.length - i) ∧ Aside0 (Kd.R k29 29 w' w0.heap.size (fun _ => True) v0 (l ++ (⟨⟨#[110, 97, 109, 101]⟩, f1, d⟩ :: catTo (fun i => visL D (d + 1) (rd_T24 kids (i : Int))) i))) ∧ Aside0 (w'.heap[W.heap.size]? = some (.cells #[.string ⟨#[110, 97, 109, 101]⟩, .string f1, .slice A kids.length c] 24)) ∧ Aside0 (W.grownBy w' v.ownBlock) ∧ Aside0 (v0.ownBlock = v.ownBlock ∨ ∃ b, v0.ownBlock = some b ∧ W.heap.size ≤ b))
  case atStart => exact ⟨0, rfl, Nat.zero_le _, rfl, HR8, HN8, HG8, HA8⟩
  case round =>
    obtain ⟨i, rfl, hi, HM, HRr, HNr, HGr, HAr⟩ := hrel
    have hBr := HB0.out.grown HGr.out HBS.out (fun k hk => (HOWN.out k hk).1)
    have HBr := Aside0.mk hBr
    have hsz := HGr.out.size
    have HSZ := Aside0.mk hsz
    have hcl := catTo_len (fun i => visL D (d + 1) (rd_T24 kids (i : Int))) (fun i => cnt D (rd_T24 kids (i : Int)))
    by_cases hlt : i < kids.length
    · obtain ⟨ad, A2, c2, eA, hK, hl2, hi2⟩ := kid_at HCR.out i hlt
      subst eA
      have hdk := HK.out i hlt
      have hci := hcl i (fun j hj => by have := visL_len (d + 1) (HK.out j (by omega)); omega)
      have hsl := sumTo_le (fun i => cnt D (rd_T24 kids (i : Int))) hlt
      have hKr : Kid wr (ad.add (i * 3)) (rd_T24 kids (i : Int)) A2 c2 := by
        obtain ⟨a, b, c⟩ := hK
        exact ⟨(hBr.cell (World.block_lt_of_cell? w0 _ a)).trans a, (hBr.cell (World.block_lt_of_cell? w0 _ b)).trans b, (hBr.cell (World.block_lt_of_cell? w0 _ c)).trans c⟩
      obtain ⟨g0, g1, g2⟩ := hKr
      have hal : ∀ o : Obj, Below wr.heap.size wr (wr.alloc o) := fun o => (Below.refl _ _).alloc (Nat.le_refl _) o
      have HCALL := Aside0.mk (IH (rd_T24 kids (i : Int)) A2 c2 (d + 1) _ u0 w0 (wr.alloc (.cells #[.string (rd_T24 kids (i : Int)).f0, .string (rd_T24 kids (i : Int)).f1, .slice A2 (rd_T24 kids (i : Int)).f2.length c2] 24)) hdk hi2 hl2 (hBr.trans ((hal _).mono hBr.size)) (Kd.R_below HRr.out (hal _)) (by have := HD0.out; omega) (by have := HD0.out; omega) (by have := HL.out; simp only [List.length_append, List.length_cons]; omega))
      have hno2 := fun o => ((hal o).block W.heap.size (lt_of_block HNr.out)).trans HNr.out
      have HNO2 := Aside0.mk (fun o => (⟨hno2 o, Kd.R_ne (Kd.R_below HRr.out (hal o)) (hno2 o) (by decide)⟩ : _ ∧ some W.heap.size ≠ u0.ownBlock))
      have HAL := Aside0.mk hal
      clear hK hi2 hdk hci hsl hal hno2 hl2
      have p0 : (0 : Int) ≤ (i : Int) := by omega
      have p1 : (i : Int) < (kids.length : Int) := by omega
      go_wp2_with (first | (go_at_call 25; (with_reducible refine HCALL.out.mono ?_); rintro e w9 ⟨v9, rfl, hR9, hG9, hA9⟩; have HR9 := Aside0.mk hR9; have HG9 := Aside0.mk hG9; have HA9 := Aside0.mk hA9; clear hR9 hG9 hA9))
      go_roundg (gk - 1)
      case measure => have := HM.out; omega
      case rel =>
        refine ⟨i + 1, by go_num, by omega, by have := HM.out; show _ = _; omega, ⟨?_⟩, ⟨?_⟩, ⟨?_⟩, ⟨?_⟩⟩
        · have := HR9.out
          rw [List.append_assoc, List.cons_append] at this
          exact this
        · exact (HG9.out.block _ (lt_of_block (HNO2.out (.cells #[.string (rd_T24 kids (i : Int)).f0, .string (rd_T24 kids (i : Int)).f1, .slice A2 (rd_T24 kids (i : Int)).f2.length c2] 24)).1) (HNO2.out (.cells #[.string (rd_T24 kids (i : Int)).f0, .string (rd_T24 kids (i : Int)).f1, .slice A2 (rd_T24 kids (i : Int)).f2.length c2] 24)).2).trans (HNO2.out (.cells #[.string (rd_T24 kids (i : Int)).f0, .string (rd_T24 kids (i : Int)).f1, .slice A2 (rd_T24 kids (i : Int)).f2.length c2] 24)).1
        · exact grown_trans (grown_trans HGr.out (grown_below (HAL.out (.cells #[.string (rd_T24 kids (i : Int)).f0, .string (rd_T24 kids (i : Int)).f1, .slice A2 (rd_T24 kids (i : Int)).f2.length c2] 24))) (.inl rfl)) HG9.out HAr.out
        · exact fresh_trans (by have := (HAL.out (.cells #[.string (rd_T24 kids (i : Int)).f0, .string (rd_T24 kids (i : Int)).f1, .slice A2 (rd_T24 kids (i : Int)).f2.length c2] 24)).size; omega) HAr.out HA9.out
    · have p1 : ¬ (i : Int) < (kids.length : Int) := by omega
      have hil : i = kids.length := by omega
      subst hil
      have hci := hcl kids.length (fun j hj => by have := visL_len (d + 1) (HK.out j hj); omega)
      have HCI := Aside0.mk hci
      have g0 := ((blk_cell HNr.out 0).trans rfl : wr.cell? ⟨W.heap.size, 0, none⟩ = some (.string ⟨#[110, 97, 109, 101]⟩))
      have g1 := ((blk_cell HNr.out 1).trans rfl : wr.cell? ⟨W.heap.size, 1, none⟩ = some (.string f1))
      go_wp2_with (first
        | ((with_reducible refine gate_builtin (b := .append) (xs := #[.tmp 56, .tmp 59]) rfl ?_); at_builtin; refine Kd.R_append k29 (w0 := wr) w0.heap.size rfl (.tmp 56) (.tmp 59) 26 29 (.agg #[(.string ⟨#[]⟩), (.string ⟨#[]⟩), (.int .i64 0)]) 40 rfl Tryz.underlying26 info29 rfl (by decide) (by omega) u0 (l ++ (⟨⟨#[110, 97, 109, 101]⟩, f1, d⟩ :: catTo (fun i => visL D (d + 1) (rd_T24 kids (i : Int))) kids.length)) (⟨⟨#[]⟩, ⟨#[]⟩, d⟩ : S29) [.string ⟨#[]⟩, .string ⟨#[]⟩, .int .i64 d] (fun _ => True) (fun _ => False) rfl (by first | (go_simp; done) | (go_simp; rfl)) ?aP (fun _ hk => hk.elim) ?aF ?aO ?aB ?aS ?aL ?_; (case aP => exact k29_mkM _ _ _ _); (case aF => exact fun _ _ => trivial); (case aO => exact HRr.out); (case aB => exact Below.refl _ _); (case aS => have := HBS.out; have := HSZ.out; omega); (case aL => have := HL.out; have := HCI.out; simp only [List.length_append, List.length_cons, List.length_nil]; omega); intro v6 w6 hR6 hB6 hG6 hA6; have HR6 := Aside0.mk hR6; have HG6 := Aside0.mk (grown_trans HGr.out hG6 HAr.out); have HA6 := Aside0.mk (fresh_trans HSZ.out HAr.out hA6); clear hR6 hB6 hG6 hA6))
      go_ret
      refine ⟨_, rfl, ?_, HG6.out, HA6.out⟩
      have := HR6.out
      simp only [List.append_assoc, List.cons_append, List.nil_append] at this ⊢
      exact this

set_option maxHeartbeats 2000000 in
set_option maxRecDepth 100000 in
theorem visits_int (D : Nat) (IH : VisC D) (f1 : ByteArray) (kids : List S24) (A : Option Addr) (c : Nat) (d : Int) (l : List S29) (v : Value) (w0 W : World) (hkids : ∀ i : Nat, i < kids.length → Deep D (rd_T24 kids (i : Int))) (hr : Kd.C k24 w0 A kids.length kids) (hc : kids.length ≤ c) (hB : Below w0.heap.size w0 W) (hR : Kd.R k29 29 W w0.heap.size (fun _ => True) v l) (h0 : 0 ≤ d) (hd : d + (D + 1 : Nat) ≤ 900) (hl : l.length + (8 + sumTo (fun i => cnt D (rd_T24 kids (i : Int))) kids.length) ≤ 100000) :
    Calls Tryz.prog 25 #[v, .agg #[.string bInt, .string f1, .slice A kids.length c], .int .i64 d] W fun e W' => ∃ v', e = .returned v' ∧ Kd.R k29 29 W' w0.heap.size (fun _ => True) v' (l ++ (⟨⟨#[108, 105, 116, 101, 114, 97, 108]⟩, f1, d⟩ :: (catTo (fun i => visL D (d + 1) (rd_T24 kids (i : Int))) kids.length ++ ([] ++ [⟨⟨#[]⟩, ⟨#[]⟩, d⟩])))) ∧ W.grownBy W' v.ownBlock ∧ (v'.ownBlock = v.ownBlock ∨ ∃ b, v'.ownBlock = some b ∧ W.heap.size ≤ b) := by
  unfold bInt
  have hbs := hB.size
  have hkl : kids.length ≤ 100000 := by
    have := sumTo_ge (fun i => cnt D (rd_T24 kids (i : Int))) kids.length (fun i hi => (hkids i hi).pos)
    omega
  have hbn : Below W.heap.size W (W.alloc (.cells #[.string ⟨#[105, 110, 116]⟩, .string f1, .slice A kids.length c] 24)) := (Below.refl W.heap.size W).alloc (Nat.le_refl _) _
  have hCW := Kd.C_below hr hB
  have HKO := Aside0.mk (spec_kindOf.calls ⟨#[105, 110, 116]⟩ f1 A c kids ⟨#[108, 105, 116, 101, 114, 97, 108]⟩ (W.alloc (.cells #[.string ⟨#[105, 110, 116]⟩, .string f1, .slice A kids.length c] 24)) (Kd.C_below hCW hbn) hc (by unfold spec_kindOf.f; first | exact if_pos (by decide +kernel) | (rw [if_neg (by first | exact beq_eq_false_iff_ne.1 hin | decide +kernel)])))
  have HL := Aside0.mk hl
  have HK := Aside0.mk hkids
  have HR := Aside0.mk hR
  have HCR := Aside0.mk hr
  have HB0 := Aside0.mk hB
  have HOWN := Aside0.mk (fun k hk => ((Kd.R_bound hR).1 k hk).2)
  have HBS := Aside0.mk hbs
  have HD0 := Aside0.mk (show 0 ≤ d ∧ d + 1 + (D : Int) ≤ 900 by omega)
  have hw1 : wrap64 (d + 1) = d + 1 := w64 (by omega) (by omega)
  clear hl hkids hR hr hB hbs hbn hCW hc hd h0
  go_enter Tryz.func25, Tryz.ntmps25
  go_wp2_with (first
    | (go_at_call 34; (with_reducible refine HKO.out.mono ?_); rintro e w1 ⟨rfl, hb1⟩; have HB1 := Aside0.mk (((Below.refl W.heap.size W).alloc (Nat.le_refl _) (.cells #[.string ⟨#[105, 110, 116]⟩, .string f1, .slice A kids.length c] 24)).trans (hb1.mono (by simp))); have hnode : w1.heap[W.heap.size]? = some (.cells #[.string ⟨#[105, 110, 116]⟩, .string f1, .slice A kids.length c] 24) := (hb1.block _ (by simp)).trans (heap_alloc_new W _); have HNO := Aside0.mk hnode; have q0 := fun o => al_ ((blk_cell hnode 0).trans rfl : w1.cell? ⟨W.heap.size, 0, none⟩ = some (.string ⟨#[105, 110, 116]⟩)) o; have q1 := fun o => al_ ((blk_cell hnode 1).trans rfl : w1.cell? ⟨W.heap.size, 1, none⟩ = some (.string f1)) o; clear hnode hb1)
    | ((with_reducible refine gate_builtin (b := .append) (xs := #[.tmp 25, .tmp 27]) rfl ?_); at_builtin; refine Kd.R_append k29 (w0 := (w1.alloc (.cells #[.string ⟨#[108, 105, 116, 101, 114, 97, 108]⟩, .string f1, .int .i64 d] 29))) w0.heap.size rfl (.tmp 25) (.tmp 27) 26 29 (.agg #[(.string ⟨#[]⟩), (.string ⟨#[]⟩), (.int .i64 0)]) 40 rfl Tryz.underlying26 info29 rfl (by decide) (by omega) v l (⟨⟨#[108, 105, 116, 101, 114, 97, 108]⟩, f1, d⟩ : S29) [.string ⟨#[108, 105, 116, 101, 114, 97, 108]⟩, .string f1, .int .i64 d] (fun _ => True) (fun _ => False) rfl (by first | (go_simp; done) | (go_simp; rfl)) ?aP (fun _ hk => hk.elim) ?aF ?aO ?aB ?aS ?aL ?_; (case aP => exact k29_mkM _ _ _ _); (case aF => exact fun _ _ => trivial); (case aO => exact Kd.R_below HR.out (HB1.out.trans (((Below.refl w1.heap.size w1).alloc (Nat.le_refl _) (.cells #[.string ⟨#[108, 105, 116, 101, 114, 97, 108]⟩, .string f1, .int .i64 d] 29)).mono HB1.out.size))); (case aB => exact Below.refl _ _); (case aS => have := HB1.out.size; have := HBS.out; simp; omega); (case aL => have := HL.out; omega); intro v8 w8 hR8 hB8 hG8 hA8; have HR8 := Aside0.mk hR8; have HG8 := Aside0.mk (grown_trans (grown_below (HB1.out.trans (((Below.refl w1.heap.size w1).alloc (Nat.le_refl _) (.cells #[.string ⟨#[108, 105, 116, 101, 114, 97, 108]⟩, .string f1, .int .i64 d] 29)).mono HB1.out.size))) hG8 (.inl rfl)); have HA8 := Aside0.mk (fresh_trans (v := v) (v1 := v) (by have := HB1.out.size; simp; omega : W.heap.size ≤ (w1.alloc (.cells #[.string ⟨#[108, 105, 116, 101, 114, 97, 108]⟩, .string f1, .int .i64 d] 29)).heap.size) (.inl rfl) hA8); have hn8 : w8.heap[W.heap.size]? = some (.cells #[.string ⟨#[105, 110, 116]⟩, .string f1, .slice A kids.length c] 24) := (hG8.block _ (by have := lt_of_block HNO.out; simp; omega) (fun e => (by have := (HOWN.out _ e.symm).2.1; omega))).trans ((((Below.refl w1.heap.size w1).alloc (Nat.le_refl _) (.cells #[.string ⟨#[108, 105, 116, 101, 114, 97, 108]⟩, .string f1, .int .i64 d] 29)).block _ (lt_of_block HNO.out)).trans HNO.out); have HN8 := Aside0.mk hn8; have q2 := ((blk_cell hn8 2).trans rfl : w8.cell? ⟨W.heap.size, 2, none⟩ = some (.slice A kids.length c)); clear hR8 hB8 hG8 hA8 hn8))
  go_loopg [0, 32] kids.length (fun kq v0 v32 w' => ∃ i : Nat, v32 = .int .i64 (i : Int) ∧ i ≤ kids.length ∧ Hid (kq = kids.length - i) ∧ Aside0 (Kd.R k29 29 w' w0.heap.size (fun _ => True) v0 (l ++ (⟨⟨#[108, 105, 116, 101, 114, 97, 108]⟩, f1, d⟩ :: catTo (fun i => visL D (d + 1) (rd_T24 kids (i : Int))) i))) ∧ Aside0 (w'.heap[W.heap.size]? = some (.cells #[.string ⟨#[105, 110, 116]⟩, .string f1, .slice A kids.length c] 24)) ∧ Aside0 (W.grownBy w' v.ownBlock) ∧ Aside0 (v0.ownBlock = v.ownBlock ∨ ∃ b, v0.ownBlock = some b ∧ W.heap.size ≤ b))
  case atStart => exact ⟨0, rfl, Nat.zero_le _, rfl, HR8, HN8, HG8, HA8⟩
  case round =>
    obtain ⟨i, rfl, hi, HM, HRr, HNr, HGr, HAr⟩ := hrel
    have hBr := HB0.out.grown HGr.out HBS.out (fun k hk => (HOWN.out k hk).1)
    have HBr := Aside0.mk hBr
    have hsz := HGr.out.size
    have HSZ := Aside0.mk hsz
    have hcl := catTo_len (fun i => visL D (d + 1) (rd_T24 kids (i : Int))) (fun i => cnt D (rd_T24 kids (i : Int)))
    by_cases hlt : i < kids.length
    · obtain ⟨ad, A2, c2, eA, hK, hl2, hi2⟩ := kid_at HCR.out i hlt
      subst eA
      have hdk := HK.out i hlt
      have hci := hcl i (fun j hj => by have := visL_len (d + 1) (HK.out j (by omega)); omega)
      have hsl := sumTo_le (fun i => cnt D (rd_T24 kids (i : Int))) hlt
      have hKr : Kid wr (ad.add (i * 3)) (rd_T24 kids (i : Int)) A2 c2 := by
        obtain ⟨a, b, c⟩ := hK
        exact ⟨(hBr.cell (World.block_lt_of_cell? w0 _ a)).trans a, (hBr.cell (World.block_lt_of_cell? w0 _ b)).trans b, (hBr.cell (World.block_lt_of_cell? w0 _ c)).trans c⟩
      obtain ⟨g0, g1, g2⟩ := hKr
      have hal : ∀ o : Obj, Below wr.heap.size wr (wr.alloc o) := fun o => (Below.refl _ _).alloc (Nat.le_refl _) o
      have HCALL := Aside0.mk (IH (rd_T24 kids (i : Int)) A2 c2 (d + 1) _ u0 w0 (wr.alloc (.cells #[.string (rd_T24 kids (i : Int)).f0, .string (rd_T24 kids (i : Int)).f1, .slice A2 (rd_T24 kids (i : Int)).f2.length c2] 24)) hdk hi2 hl2 (hBr.trans ((hal _).mono hBr.size)) (Kd.R_below HRr.out (hal _)) (by have := HD0.out; omega) (by have := HD0.out; omega) (by have := HL.out; simp only [List.length_append, List.length_cons]; omega))
      have hno2 := fun o => ((hal o).block W.heap.size (lt_of_block HNr.out)).trans HNr.out
      have HNO2 := Aside0.mk (fun o => (⟨hno2 o, Kd.R_ne (Kd.R_below HRr.out (hal o)) (hno2 o) (by decide)⟩ : _ ∧ some W.heap.size ≠ u0.ownBlock))
      have HAL := Aside0.mk hal
      clear hK hi2 hdk hci hsl hal hno2 hl2
      have p0 : (0 : Int) ≤ (i : Int) := by omega
      have p1 : (i : Int) < (kids.length : Int) := by omega
      go_wp2_with (first | (go_at_call 25; (with_reducible refine HCALL.out.mono ?_); rintro e w9 ⟨v9, rfl, hR9, hG9, hA9⟩; have HR9 := Aside0.mk hR9; have HG9 := Aside0.mk hG9; have HA9 := Aside0.mk hA9; clear hR9 hG9 hA9))
      go_roundg (gk - 1)
      case measure => have := HM.out; omega
      case rel =>
        refine ⟨i + 1, by go_num, by omega, by have := HM.out; show _ = _; omega, ⟨?_⟩, ⟨?_⟩, ⟨?_⟩, ⟨?_⟩⟩
        · have := HR9.out
          rw [List.append_assoc, List.cons_append] at this
          exact this
        · exact (HG9.out.block _ (lt_of_block (HNO2.out (.cells #[.string (rd_T24 kids (i : Int)).f0, .string (rd_T24 kids (i : Int)).f1, .slice A2 (rd_T24 kids (i : Int)).f2.length c2] 24)).1) (HNO2.out (.cells #[.string (rd_T24 kids (i : Int)).f0, .string (rd_T24 kids (i : Int)).f1, .slice A2 (rd_T24 kids (i : Int)).f2.length c2] 24)).2).trans (HNO2.out (.cells #[.string (rd_T24 kids (i : Int)).f0, .string (rd_T24 kids (i : Int)).f1, .slice A2 (rd_T24 kids (i : Int)).f2.length c2] 24)).1
        · exact grown_trans (grown_trans HGr.out (grown_below (HAL.out (.cells #[.string (rd_T24 kids (i : Int)).f0, .string (rd_T24 kids (i : Int)).f1, .slice A2 (rd_T24 kids (i : Int)).f2.length c2] 24))) (.inl rfl)) HG9.out HAr.out
        · exact fresh_trans (by have := (HAL.out (.cells #[.string (rd_T24 kids (i : Int)).f0, .string (rd_T24 kids (i : Int)).f1, .slice A2 (rd_T24 kids (i : Int)).f2.length c2] 24)).size; omega) HAr.out HA9.out
    · have p1 : ¬ (i : Int) < (kids.length : Int) := by omega
      have hil : i = kids.length := by omega
      subst hil
      have hci := hcl kids.length (fun j hj => by have := visL_len (d + 1) (HK.out j hj); omega)
      have HCI := Aside0.mk hci
      have g0 := ((blk_cell HNr.out 0).trans rfl : wr.cell? ⟨W.heap.size, 0, none⟩ = some (.string ⟨#[105, 110, 116]⟩))
      have g1 := ((blk_cell HNr.out 1).trans rfl : wr.cell? ⟨W.heap.size, 1, none⟩ = some (.string f1))
      go_wp2_with (first
        | ((with_reducible refine gate_builtin (b := .append) (xs := #[.tmp 56, .tmp 59]) rfl ?_); at_builtin; refine Kd.R_append k29 (w0 := wr) w0.heap.size rfl (.tmp 56) (.tmp 59) 26 29 (.agg #[(.string ⟨#[]⟩), (.string ⟨#[]⟩), (.int .i64 0)]) 40 rfl Tryz.underlying26 info29 rfl (by decide) (by omega) u0 (l ++ (⟨⟨#[108, 105, 116, 101, 114, 97, 108]⟩, f1, d⟩ :: catTo (fun i => visL D (d + 1) (rd_T24 kids (i : Int))) kids.length)) (⟨⟨#[]⟩, ⟨#[]⟩, d⟩ : S29) [.string ⟨#[]⟩, .string ⟨#[]⟩, .int .i64 d] (fun _ => True) (fun _ => False) rfl (by first | (go_simp; done) | (go_simp; rfl)) ?aP (fun _ hk => hk.elim) ?aF ?aO ?aB ?aS ?aL ?_; (case aP => exact k29_mkM _ _ _ _); (case aF => exact fun _ _ => trivial); (case aO => exact HRr.out); (case aB => exact Below.refl _ _); (case aS => have := HBS.out; have := HSZ.out; omega); (case aL => have := HL.out; have := HCI.out; simp only [List.length_append, List.length_cons, List.length_nil]; omega); intro v6 w6 hR6 hB6 hG6 hA6; have HR6 := Aside0.mk hR6; have HG6 := Aside0.mk (grown_trans HGr.out hG6 HAr.out); have HA6 := Aside0.mk (fresh_trans HSZ.out HAr.out hA6); clear hR6 hB6 hG6 hA6))
      go_ret
      refine ⟨_, rfl, ?_, HG6.out, HA6.out⟩
      have := HR6.out
      simp only [List.append_assoc, List.cons_append, List.nil_append] at this ⊢
      exact this

set_option maxHeartbeats 2000000 in
set_option maxRecDepth 100000 in
theorem visits_sel (D : Nat) (IH : VisC D) (f1 : ByteArray) (kids : List S24) (A : Option Addr) (c : Nat) (d : Int) (l : List S29) (v : Value) (w0 W : World) (hkids : ∀ i : Nat, i < kids.length → Deep D (rd_T24 kids (i : Int))) (hr : Kd.C k24 w0 A kids.length kids) (hc : kids.length ≤ c) (hB : Below w0.heap.size w0 W) (hR : Kd.R k29 29 W w0.heap.size (fun _ => True) v l) (h0 : 0 ≤ d) (hd : d + (D + 1 : Nat) ≤ 900) (hl : l.length + (8 + sumTo (fun i => cnt D (rd_T24 kids (i : Int))) kids.length) ≤ 100000) :
    Calls Tryz.prog 25 #[v, .agg #[.string bSel, .string f1, .slice A kids.length c], .int .i64 d] W fun e W' => ∃ v', e = .returned v' ∧ Kd.R k29 29 W' w0.heap.size (fun _ => True) v' (l ++ (⟨⟨#[115, 101, 108, 101, 99, 116, 111, 114]⟩, ⟨#[]⟩, d⟩ :: (catTo (fun i => visL D (d + 1) (rd_T24 kids (i : Int))) kids.length ++ ([⟨⟨#[110, 97, 109, 101]⟩, f1, d + 1⟩, ⟨⟨#[]⟩, ⟨#[]⟩, d + 1⟩] ++ [⟨⟨#[]⟩, ⟨#[]⟩, d⟩])))) ∧ W.grownBy W' v.ownBlock ∧ (v'.ownBlock = v.ownBlock ∨ ∃ b, v'.ownBlock = some b ∧ W.heap.size ≤ b) := by
  unfold bSel
  have hbs := hB.size
  have hkl : kids.length ≤ 100000 := by
    have := sumTo_ge (fun i => cnt D (rd_T24 kids (i : Int))) kids.length (fun i hi => (hkids i hi).pos)
    omega
  have hbn : Below W.heap.size W (W.alloc (.cells #[.string ⟨#[115, 101, 108, 101, 99, 116, 111, 114]⟩, .string f1, .slice A kids.length c] 24)) := (Below.refl W.heap.size W).alloc (Nat.le_refl _) _
  have hCW := Kd.C_below hr hB
  have HKO := Aside0.mk (spec_kindOf.calls ⟨#[115, 101, 108, 101, 99, 116, 111, 114]⟩ f1 A c kids ⟨#[115, 101, 108, 101, 99, 116, 111, 114]⟩ (W.alloc (.cells #[.string ⟨#[115, 101, 108, 101, 99, 116, 111, 114]⟩, .string f1, .slice A kids.length c] 24)) (Kd.C_below hCW hbn) hc (by unfold spec_kindOf.f; first | exact if_pos (by decide +kernel) | (rw [if_neg (by first | exact beq_eq_false_iff_ne.1 hin | decide +kernel)])))
  have HL := Aside0.mk hl
  have HK := Aside0.mk hkids
  have HR := Aside0.mk hR
  have HCR := Aside0.mk hr
  have HB0 := Aside0.mk hB
  have HOWN := Aside0.mk (fun k hk => ((Kd.R_bound hR).1 k hk).2)
  have HBS := Aside0.mk hbs
  have HD0 := Aside0.mk (show 0 ≤ d ∧ d + 1 + (D : Int) ≤ 900 by omega)
  have hw1 : wrap64 (d + 1) = d + 1 := w64 (by omega) (by omega)
  clear hl hkids hR hr hB hbs hbn hCW hc hd h0
  go_enter Tryz.func25, Tryz.ntmps25
  go_wp2_with (first
    | (go_at_call 34; (with_reducible refine HKO.out.mono ?_); rintro e w1 ⟨rfl, hb1⟩; have HB1 := Aside0.mk (((Below.refl W.heap.size W).alloc (Nat.le_refl _) (.cells #[.string ⟨#[115, 101, 108, 101, 99, 116, 111, 114]⟩, .string f1, .slice A kids.length c] 24)).trans (hb1.mono (by simp))); have hnode : w1.heap[W.heap.size]? = some (.cells #[.string ⟨#[115, 101, 108, 101, 99, 116, 111, 114]⟩, .string f1, .slice A kids.length c] 24) := (hb1.block _ (by simp)).trans (heap_alloc_new W _); have HNO := Aside0.mk hnode; have q0 := fun o => al_ ((blk_cell hnode 0).trans rfl : w1.cell? ⟨W.heap.size, 0, none⟩ = some (.string ⟨#[115, 101, 108, 101, 99, 116, 111, 114]⟩)) o; have q1 := fun o => al_ ((blk_cell hnode 1).trans rfl : w1.cell? ⟨W.heap.size, 1, none⟩ = some (.string f1)) o; clear hnode hb1)
    | ((with_reducible refine gate_builtin (b := .append) (xs := #[.tmp 25, .tmp 27]) rfl ?_); at_builtin; refine Kd.R_append k29 (w0 := (w1.alloc (.cells #[.string ⟨#[115, 101, 108, 101, 99, 116, 111, 114]⟩, .string ⟨#[]⟩, .int .i64 d] 29))) w0.heap.size rfl (.tmp 25) (.tmp 27) 26 29 (.agg #[(.string ⟨#[]⟩), (.string ⟨#[]⟩), (.int .i64 0)]) 40 rfl Tryz.underlying26 info29 rfl (by decide) (by omega) v l (⟨⟨#[115, 101, 108, 101, 99, 116, 111, 114]⟩, ⟨#[]⟩, d⟩ : S29) [.string ⟨#[115, 101, 108, 101, 99, 116, 111, 114]⟩, .string ⟨#[]⟩, .int .i64 d] (fun _ => True) (fun _ => False) rfl (by first | (go_simp; done) | (go_simp; rfl)) ?aP (fun _ hk => hk.elim) ?aF ?aO ?aB ?aS ?aL ?_; (case aP => exact k29_mkM _ _ _ _); (case aF => exact fun _ _ => trivial); (case aO => exact Kd.R_below HR.out (HB1.out.trans (((Below.refl w1.heap.size w1).alloc (Nat.le_refl _) (.cells #[.string ⟨#[115, 101, 108, 101, 99, 116, 111, 114]⟩, .string ⟨#[]⟩, .int .i64 d] 29)).mono HB1.out.size))); (case aB => exact Below.refl _ _); (case aS => have := HB1.out.size; have := HBS.out; simp; omega); (case aL => have := HL.out; omega); intro v8 w8 hR8 hB8 hG8 hA8; have HR8 := Aside0.mk hR8; have HG8 := Aside0.mk (grown_trans (grown_below (HB1.out.trans (((Below.refl w1.heap.size w1).alloc (Nat.le_refl _) (.cells #[.string ⟨#[115, 101, 108, 101, 99, 116, 111, 114]⟩, .string ⟨#[]⟩, .int .i64 d] 29)).mono HB1.out.size))) hG8 (.inl rfl)); have HA8 := Aside0.mk (fresh_trans (v := v) (v1 := v) (by have := HB1.out.size; simp; omega : W.heap.size ≤ (w1.alloc (.cells #[.string ⟨#[115, 101, 108, 101, 99, 116, 111, 114]⟩, .string ⟨#[]⟩, .int .i64 d] 29)).heap.size) (.inl rfl) hA8); have hn8 : w8.heap[W.heap.size]? = some (.cells #[.string ⟨#[115, 101, 108, 101, 99, 116, 111, 114]⟩, .string f1, .slice A kids.length c] 24) := (hG8.block _ (by have := lt_of_block HNO.out; simp; omega) (fun e => (by have := (HOWN.out _ e.symm).2.1; omega))).trans ((((Below.refl w1.heap.size w1).alloc (Nat.le_refl _) (.cells #[.string ⟨#[115, 101, 108, 101, 99, 116, 111, 114]⟩, .string ⟨#[]⟩, .int .i64 d] 29)).block _ (lt_of_block HNO.out)).trans HNO.out); have HN8 := Aside0.mk hn8; have q2 := ((blk_cell hn8 2).trans rfl : w8.cell? ⟨W.heap.size, 2, none⟩ = some (.slice A kids.length c)); clear hR8 hB8 hG8 hA8 hn8))
  go_loopg [0, 32] kids.length (fun kq v0 v32 w' => ∃ i : Nat, v32 = .int .i64 (i : Int) ∧ i ≤ kids.length ∧ Hid (kq = kids.length - i) ∧ Aside0 (Kd.R k29 29 w' w0.heap.size (fun _ => True) v0 (l ++ (⟨⟨#[115, 101, 108, 101, 99, 116, 111, 114]⟩, ⟨#[]⟩, d⟩ :: catTo (fun i => visL D (d + 1) (rd_T24 kids (i : Int))) i))) ∧ Aside0 (w'.heap[W.heap.size]? = some (.cells #[.string ⟨#[115, 101, 108, 101, 99, 116, 111, 114]⟩, .string f1, .slice A kids.length c] 24)) ∧ Aside0 (W.grownBy w' v.ownBlock) ∧ Aside0 (v0.ownBlock = v.ownBlock ∨ ∃ b, v0.ownBlock = some b ∧ W.heap.size ≤ b))
  case atStart => exact ⟨0, rfl, Nat.zero_le _, rfl, HR8, HN8, HG8, HA8⟩
  case round =>
    obtain ⟨i, rfl, hi, HM, HRr, HNr, HGr, HAr⟩ := hrel
    have hBr := HB0.out.grown HGr.out HBS.out (fun k hk => (HOWN.out k hk).1)
    have HBr := Aside0.mk hBr
    have hsz := HGr.out.size
    have HSZ := Aside0.mk hsz
    have hcl := catTo_len (fun i => visL D (d + 1) (rd_T24 kids (i : Int))) (fun i => cnt D (rd_T24 kids (i : Int)))
    by_cases hlt : i < kids.length
    · obtain ⟨ad, A2, c2, eA, hK, hl2, hi2⟩ := kid_at HCR.out i hlt
      subst eA
      have hdk := HK.out i hlt
      have hci := hcl i (fun j hj => by have := visL_len (d + 1) (HK.out j (by omega)); omega)
      have hsl := sumTo_le (fun i => cnt D (rd_T24 kids (i : Int))) hlt
      have hKr : Kid wr (ad.add (i * 3)) (rd_T24 kids (i : Int)) A2 c2 := by
        obtain ⟨a, b, c⟩ := hK
        exact ⟨(hBr.cell (World.block_lt_of_cell? w0 _ a)).trans a, (hBr.cell (World.block_lt_of_cell? w0 _ b)).trans b, (hBr.cell (World.block_lt_of_cell? w0 _ c)).trans c⟩
      obtain ⟨g0, g1, g2⟩ := hKr
      have hal : ∀ o : Obj, Below wr.heap.size wr (wr.alloc o) := fun o => (Below.refl _ _).alloc (Nat.le_refl _) o
      have HCALL := Aside0.mk (IH (rd_T24 kids (i : Int)) A2 c2 (d + 1) _ u0 w0 (wr.alloc (.cells #[.string (rd_T24 kids (i : Int)).f0, .string (rd_T24 kids (i : Int)).f1, .slice A2 (rd_T24 kids (i : Int)).f2.length c2] 24)) hdk hi2 hl2 (hBr.trans ((hal _).mono hBr.size)) (Kd.R_below HRr.out (hal _)) (by have := HD0.out; omega) (by have := HD0.out; omega) (by have := HL.out; simp only [List.length_append, List.length_cons]; omega))
      have hno2 := fun o => ((hal o).block W.heap.size (lt_of_block HNr.out)).trans HNr.out
      have HNO2 := Aside0.mk (fun o => (⟨hno2 o, Kd.R_ne (Kd.R_below HRr.out (hal o)) (hno2 o) (by decide)⟩ : _ ∧ some W.heap.size ≠ u0.ownBlock))
      have HAL := Aside0.mk hal
      clear hK hi2 hdk hci hsl hal hno2 hl2
      have p0 : (0 : Int) ≤ (i : Int) := by omega
      have p1 : (i : Int) < (kids.length : Int) := by omega
      go_wp2_with (first | (go_at_call 25; (with_reducible refine HCALL.out.mono ?_); rintro e w9 ⟨v9, rfl, hR9, hG9, hA9⟩; have HR9 := Aside0.mk hR9; have HG9 := Aside0.mk hG9; have HA9 := Aside0.mk hA9; clear hR9 hG9 hA9))
      go_roundg (gk - 1)
      case measure => have := HM.out; omega
      case rel =>
        refine ⟨i + 1, by go_num, by omega, by have := HM.out; show _ = _; omega, ⟨?_⟩, ⟨?_⟩, ⟨?_⟩, ⟨?_⟩⟩
        · have := HR9.out
          rw [List.append_assoc, List.cons_append] at this
          exact this
        · exact (HG9.out.block _ (lt_of_block (HNO2.out (.cells #[.string (rd_T24 kids (i : Int)).f0, .string (rd_T24 kids (i : Int)).f1, .slice A2 (rd_T24 kids (i : Int)).f2.length c2] 24)).1) (HNO2.out (.cells #[.string (rd_T24 kids (i : Int)).f0, .string (rd_T24 kids (i : Int)).f1, .slice A2 (rd_T24 kids (i : Int)).f2.length c2] 24)).2).trans (HNO2.out (.cells #[.string (rd_T24 kids (i : Int)).f0, .string (rd_T24 kids (i : Int)).f1, .slice A2 (rd_T24 kids (i : Int)).f2.length c2] 24)).1
        · exact grown_trans (grown_trans HGr.out (grown_below (HAL.out (.cells #[.string (rd_T24 kids (i : Int)).f0, .string (rd_T24 kids (i : Int)).f1, .slice A2 (rd_T24 kids (i : Int)).f2.length c2] 24))) (.inl rfl)) HG9.out HAr.out
        · exact fresh_trans (by have := (HAL.out (.cells #[.string (rd_T24 kids (i : Int)).f0, .string (rd_T24 kids (i : Int)).f1, .slice A2 (rd_T24 kids (i : Int)).f2.length c2] 24)).size; omega) HAr.out HA9.out
    · have p1 : ¬ (i : Int) < (kids.length : Int) := by omega
      have hil : i = kids.length := by omega
      subst hil
      have hci := hcl kids.length (fun j hj => by have := visL_len (d + 1) (HK.out j hj); omega)
      have HCI := Aside0.mk hci
      have g0 := ((blk_cell HNr.out 0).trans rfl : wr.cell? ⟨W.heap.size, 0, none⟩ = some (.string ⟨#[115, 101, 108, 101, 99, 116, 111, 114]⟩))
      have g1 := ((blk_cell HNr.out 1).trans rfl : wr.cell? ⟨W.heap.size, 1, none⟩ = some (.string f1))
      go_wp2_with (first
        | ((with_reducible refine gate_builtin (b := .append) (xs := #[.tmp 45, .tmp 54]) rfl ?_); at_builtin; refine Kd.R_append_rows k29 (Rr := k29.K (wr.alloc (.cells #[.string ⟨#[110, 97, 109, 101]⟩, .string f1, .int .i64 (d + 1), .string ⟨#[]⟩, .string ⟨#[]⟩, .int .i64 (d + 1)] 29))) (w0 := (wr.alloc (.cells #[.string ⟨#[110, 97, 109, 101]⟩, .string f1, .int .i64 (d + 1), .string ⟨#[]⟩, .string ⟨#[]⟩, .int .i64 (d + 1)] 29))) w0.heap.size rfl (.tmp 45) (.tmp 54) 26 29 (.agg #[(.string ⟨#[]⟩), (.string ⟨#[]⟩), (.int .i64 0)]) 40 rfl Tryz.underlying26 info29 rfl (by decide) (by omega) u0 (l ++ (⟨⟨#[115, 101, 108, 101, 99, 116, 111, 114]⟩, ⟨#[]⟩, d⟩ :: catTo (fun i => visL D (d + 1) (rd_T24 kids (i : Int))) kids.length)) ([⟨⟨#[110, 97, 109, 101]⟩, f1, d + 1⟩, ⟨⟨#[]⟩, ⟨#[]⟩, d + 1⟩] : List S29) (some ⟨wr.heap.size, 0, none⟩) 2 2 (fun _ => True) (fun _ => False) rfl (by first | (go_simp; done) | (go_simp; rfl)) ?aO ?aR ?aM (fun _ hk => hk.elim) ?aF ?aB ?aS ?aL ?_; (case aO => exact Kd.R_below HRr.out ((Below.refl wr.heap.size wr).alloc (Nat.le_refl _) _)); (case aR => exact rows_two (heap_alloc_new wr _)); (case aM => exact fun x cs h => k29_M_of_K h); (case aF => exact fun _ _ => trivial); (case aB => exact Below.refl _ _); (case aS => have := HBS.out; have := HSZ.out; simp; omega); (case aL => have := HL.out; have := HCI.out; simp only [List.length_append, List.length_cons]; omega); intro v7 w7 hR7 hB7 hG7 hA7; have HR7 := Aside0.mk hR7; have HG7 := Aside0.mk (grown_trans (grown_trans HGr.out (grown_below ((Below.refl wr.heap.size wr).alloc (Nat.le_refl _) (.cells #[.string ⟨#[110, 97, 109, 101]⟩, .string f1, .int .i64 (d + 1), .string ⟨#[]⟩, .string ⟨#[]⟩, .int .i64 (d + 1)] 29))) (.inl rfl)) hG7 HAr.out); have HA7 := Aside0.mk (fresh_trans (by have := HSZ.out; simp; omega : W.heap.size ≤ (wr.alloc (.cells #[.string ⟨#[110, 97, 109, 101]⟩, .string f1, .int .i64 (d + 1), .string ⟨#[]⟩, .string ⟨#[]⟩, .int .i64 (d + 1)] 29)).heap.size) HAr.out hA7); have HS7 := Aside0.mk (Nat.le_trans HSZ.out (Nat.le_trans (by simp : wr.heap.size ≤ (wr.alloc (.cells #[.string ⟨#[110, 97, 109, 101]⟩, .string f1, .int .i64 (d + 1), .string ⟨#[]⟩, .string ⟨#[]⟩, .int .i64 (d + 1)] 29)).heap.size) hG7.size)); clear hR7 hB7 hG7 hA7)
        | ((with_reducible refine gate_builtin (b := .append) (xs := #[.tmp 56, .tmp 59]) rfl ?_); at_builtin; refine Kd.R_append k29 (w0 := w7) w0.heap.size rfl (.tmp 56) (.tmp 59) 26 29 (.agg #[(.string ⟨#[]⟩), (.string ⟨#[]⟩), (.int .i64 0)]) 40 rfl Tryz.underlying26 info29 rfl (by decide) (by omega) v7 ((l ++ (⟨⟨#[115, 101, 108, 101, 99, 116, 111, 114]⟩, ⟨#[]⟩, d⟩ :: catTo (fun i => visL D (d + 1) (rd_T24 kids (i : Int))) kids.length)) ++ [⟨⟨#[110, 97, 109, 101]⟩, f1, d + 1⟩, ⟨⟨#[]⟩, ⟨#[]⟩, d + 1⟩]) (⟨⟨#[]⟩, ⟨#[]⟩, d⟩ : S29) [.string ⟨#[]⟩, .string ⟨#[]⟩, .int .i64 d] (fun _ => True) (fun _ => False) rfl (by first | (go_simp; done) | (go_simp; rfl)) ?aP (fun _ hk => hk.elim) ?aF ?aO ?aB ?aS ?aL ?_; (case aP => exact k29_mkM _ _ _ _); (case aF => exact fun _ _ => trivial); (case aO => exact HR7.out); (case aB => exact Below.refl _ _); (case aS => have := HBS.out; have := HS7.out; omega); (case aL => have := HL.out; have := HCI.out; simp only [List.length_append, List.length_cons, List.length_nil]; omega); intro v6 w6 hR6 hB6 hG6 hA6; have HR6 := Aside0.mk hR6; have HG6 := Aside0.mk (grown_trans HG7.out hG6 HA7.out); have HA6 := Aside0.mk (fresh_trans HS7.out HA7.out hA6); clear hR6 hB6 hG6 hA6))
      go_ret
      refine ⟨_, rfl, ?_, HG6.out, HA6.out⟩
      have := HR6.out
      simp only [List.append_assoc, List.cons_append, List.nil_append] at this ⊢
      exact this

set_option maxHeartbeats 2000000 in
set_option maxRecDepth 100000 in
theorem visits_other (D : Nat) (IH : VisC D) (f0 f1 : ByteArray) (kids : List S24) (A : Option Addr) (c : Nat) (d : Int) (l : List S29) (v : Value) (w0 W : World) (hn : (f0.toList == ([110, 97, 109, 101] : List UInt8)) = false) (hin : (f0.toList == ([105, 110, 116] : List UInt8)) = false) (hse : (f0.toList == ([115, 101, 108, 101, 99, 116, 111, 114] : List UInt8)) = false) (hkids : ∀ i : Nat, i < kids.length → Deep D (rd_T24 kids (i : Int))) (hr : Kd.C k24 w0 A kids.length kids) (hc : kids.length ≤ c) (hB : Below w0.heap.size w0 W) (hR : Kd.R k29 29 W w0.heap.size (fun _ => True) v l) (h0 : 0 ≤ d) (hd : d + (D + 1 : Nat) ≤ 900) (hl : l.length + (8 + sumTo (fun i => cnt D (rd_T24 kids (i : Int))) kids.length) ≤ 100000) :
    Calls Tryz.prog 25 #[v, .agg #[.string f0, .string f1, .slice A kids.length c], .int .i64 d] W fun e W' => ∃ v', e = .returned v' ∧ Kd.R k29 29 W' w0.heap.size (fun _ => True) v' (l ++ (⟨f0, ⟨#[]⟩, d⟩ :: (catTo (fun i => visL D (d + 1) (rd_T24 kids (i : Int))) kids.length ++ ([] ++ [⟨⟨#[]⟩, ⟨#[]⟩, d⟩])))) ∧ W.grownBy W' v.ownBlock ∧ (v'.ownBlock = v.ownBlock ∨ ∃ b, v'.ownBlock = some b ∧ W.heap.size ≤ b) := by
  have hbs := hB.size
  have hkl : kids.length ≤ 100000 := by
    have := sumTo_ge (fun i => cnt D (rd_T24 kids (i : Int))) kids.length (fun i hi => (hkids i hi).pos)
    omega
  have hbn : Below W.heap.size W (W.alloc (.cells #[.string f0, .string f1, .slice A kids.length c] 24)) := (Below.refl W.heap.size W).alloc (Nat.le_refl _) _
  have hCW := Kd.C_below hr hB
  have HKO := Aside0.mk (spec_kindOf.calls f0 f1 A c kids f0 (W.alloc (.cells #[.string f0, .string f1, .slice A kids.length c] 24)) (Kd.C_below hCW hbn) hc (by unfold spec_kindOf.f; first | exact if_pos (by decide +kernel) | (rw [if_neg (by first | exact beq_eq_false_iff_ne.1 hin | decide +kernel)])))
  have HL := Aside0.mk hl
  have HK := Aside0.mk hkids
  have HR := Aside0.mk hR
  have HCR := Aside0.mk hr
  have HB0 := Aside0.mk hB
  have HOWN := Aside0.mk (fun k hk => ((Kd.R_bound hR).1 k hk).2)
  have HBS := Aside0.mk hbs
  have HD0 := Aside0.mk (show 0 ≤ d ∧ d + 1 + (D : Int) ≤ 900 by omega)
  have hw1 : wrap64 (d + 1) = d + 1 := w64 (by omega) (by omega)
  clear hl hkids hR hr hB hbs hbn hCW hc hd h0
  go_enter Tryz.func25, Tryz.ntmps25
  go_wp2_with (first
    | (go_at_call 34; (with_reducible refine HKO.out.mono ?_); rintro e w1 ⟨rfl, hb1⟩; have HB1 := Aside0.mk (((Below.refl W.heap.size W).alloc (Nat.le_refl _) (.cells #[.string f0, .string f1, .slice A kids.length c] 24)).trans (hb1.mono (by simp))); have hnode : w1.heap[W.heap.size]? = some (.cells #[.string f0, .string f1, .slice A kids.length c] 24) := (hb1.block _ (by simp)).trans (heap_alloc_new W _); have HNO := Aside0.mk hnode; have q0 := fun o => al_ ((blk_cell hnode 0).trans rfl : w1.cell? ⟨W.heap.size, 0, none⟩ = some (.string f0)) o; have q1 := fun o => al_ ((blk_cell hnode 1).trans rfl : w1.cell? ⟨W.heap.size, 1, none⟩ = some (.string f1)) o; clear hnode hb1)
    | ((with_reducible refine gate_builtin (b := .append) (xs := #[.tmp 25, .tmp 27]) rfl ?_); at_builtin; refine Kd.R_append k29 (w0 := (w1.alloc (.cells #[.string f0, .string ⟨#[]⟩, .int .i64 d] 29))) w0.heap.size rfl (.tmp 25) (.tmp 27) 26 29 (.agg #[(.string ⟨#[]⟩), (.string ⟨#[]⟩), (.int .i64 0)]) 40 rfl Tryz.underlying26 info29 rfl (by decide) (by omega) v l (⟨f0, ⟨#[]⟩, d⟩ : S29) [.string f0, .string ⟨#[]⟩, .int .i64 d] (fun _ => True) (fun _ => False) rfl (by first | (go_simp; done) | (go_simp; rfl)) ?aP (fun _ hk => hk.elim) ?aF ?aO ?aB ?aS ?aL ?_; (case aP => exact k29_mkM _ _ _ _); (case aF => exact fun _ _ => trivial); (case aO => exact Kd.R_below HR.out (HB1.out.trans (((Below.refl w1.heap.size w1).alloc (Nat.le_refl _) (.cells #[.string f0, .string ⟨#[]⟩, .int .i64 d] 29)).mono HB1.out.size))); (case aB => exact Below.refl _ _); (case aS => have := HB1.out.size; have := HBS.out; simp; omega); (case aL => have := HL.out; omega); intro v8 w8 hR8 hB8 hG8 hA8; have HR8 := Aside0.mk hR8; have HG8 := Aside0.mk (grown_trans (grown_below (HB1.out.trans (((Below.refl w1.heap.size w1).alloc (Nat.le_refl _) (.cells #[.string f0, .string ⟨#[]⟩, .int .i64 d] 29)).mono HB1.out.size))) hG8 (.inl rfl)); have HA8 := Aside0.mk (fresh_trans (v := v) (v1 := v) (by have := HB1.out.size; simp; omega : W.heap.size ≤ (w1.alloc (.cells #[.string f0, .string ⟨#[]⟩, .int .i64 d] 29)).heap.size) (.inl rfl) hA8); have hn8 : w8.heap[W.heap.size]? = some (.cells #[.string f0, .string f1, .slice A kids.length c] 24) := (hG8.block _ (by have := lt_of_block HNO.out; simp; omega) (fun e => (by have := (HOWN.out _ e.symm).2.1; omega))).trans ((((Below.refl w1.heap.size w1).alloc (Nat.le_refl _) (.cells #[.string f0, .string ⟨#[]⟩, .int .i64 d] 29)).block _ (lt_of_block HNO.out)).trans HNO.out); have HN8 := Aside0.mk hn8; have q2 := ((blk_cell hn8 2).trans rfl : w8.cell? ⟨W.heap.size, 2, none⟩ = some (.slice A kids.length c)); clear hR8 hB8 hG8 hA8 hn8))
  go_loopg [0, 32] kids.length (fun kq v0 v32 w' => ∃ i : Nat, v32 = .int .i64 (i : Int) ∧ i ≤ kids.length ∧ Hid (kq = kids.length - i) ∧ Aside0 (Kd.R k29 29 w' w0.heap.size (fun _ => True) v0 (l ++ (⟨f0, ⟨#[]⟩, d⟩ :: catTo (fun i => visL D (d + 1) (rd_T24 kids (i : Int))) i))) ∧ Aside0 (w'.heap[W.heap.size]? = some (.cells #[.string f0, .string f1, .slice A kids.length c] 24)) ∧ Aside0 (W.grownBy w' v.ownBlock) ∧ Aside0 (v0.ownBlock = v.ownBlock ∨ ∃ b, v0.ownBlock = some b ∧ W.heap.size ≤ b))
  case atStart => exact ⟨0, rfl, Nat.zero_le _, rfl, HR8, HN8, HG8, HA8⟩
  case round =>
    obtain ⟨i, rfl, hi, HM, HRr, HNr, HGr, HAr⟩ := hrel
    have hBr := HB0.out.grown HGr.out HBS.out (fun k hk => (HOWN.out k hk).1)
    have HBr := Aside0.mk hBr
    have hsz := HGr.out.size
    have HSZ := Aside0.mk hsz
    have hcl := catTo_len (fun i => visL D (d + 1) (rd_T24 kids (i : Int))) (fun i => cnt D (rd_T24 kids (i : Int)))
    by_cases hlt : i < kids.length
    · obtain ⟨ad, A2, c2, eA, hK, hl2, hi2⟩ := kid_at HCR.out i hlt
      subst eA
      have hdk := HK.out i hlt
      have hci := hcl i (fun j hj => by have := visL_len (d + 1) (HK.out j (by omega)); omega)
      have hsl := sumTo_le (fun i => cnt D (rd_T24 kids (i : Int))) hlt
      have hKr : Kid wr (ad.add (i * 3)) (rd_T24 kids (i : Int)) A2 c2 := by
        obtain ⟨a, b, c⟩ := hK
        exact ⟨(hBr.cell (World.block_lt_of_cell? w0 _ a)).trans a, (hBr.cell (World.block_lt_of_cell? w0 _ b)).trans b, (hBr.cell (World.block_lt_of_cell? w0 _ c)).trans c⟩
      obtain ⟨g0, g1, g2⟩ := hKr
      have hal : ∀ o : Obj, Below wr.heap.size wr (wr.alloc o) := fun o => (Below.refl _ _).alloc (Nat.le_refl _) o
      have HCALL := Aside0.mk (IH (rd_T24 kids (i : Int)) A2 c2 (d + 1) _ u0 w0 (wr.alloc (.cells #[.string (rd_T24 kids (i : Int)).f0, .string (rd_T24 kids (i : Int)).f1, .slice A2 (rd_T24 kids (i : Int)).f2.length c2] 24)) hdk hi2 hl2 (hBr.trans ((hal _).mono hBr.size)) (Kd.R_below HRr.out (hal _)) (by have := HD0.out; omega) (by have := HD0.out; omega) (by have := HL.out; simp only [List.length_append, List.length_cons]; omega))
      have hno2 := fun o => ((hal o).block W.heap.size (lt_of_block HNr.out)).trans HNr.out
      have HNO2 := Aside0.mk (fun o => (⟨hno2 o, Kd.R_ne (Kd.R_below HRr.out (hal o)) (hno2 o) (by decide)⟩ : _ ∧ some W.heap.size ≠ u0.ownBlock))
      have HAL := Aside0.mk hal
      clear hK hi2 hdk hci hsl hal hno2 hl2
      have p0 : (0 : Int) ≤ (i : Int) := by omega
      have p1 : (i : Int) < (kids.length : Int) := by omega
      go_wp2_with (first | (go_at_call 25; (with_reducible refine HCALL.out.mono ?_); rintro e w9 ⟨v9, rfl, hR9, hG9, hA9⟩; have HR9 := Aside0.mk hR9; have HG9 := Aside0.mk hG9; have HA9 := Aside0.mk hA9; clear hR9 hG9 hA9))
      go_roundg (gk - 1)
      case measure => have := HM.out; omega
      case rel =>
        refine ⟨i + 1, by go_num, by omega, by have := HM.out; show _ = _; omega, ⟨?_⟩, ⟨?_⟩, ⟨?_⟩, ⟨?_⟩⟩
        · have := HR9.out
          rw [List.append_assoc, List.cons_append] at this
          exact this
        · exact (HG9.out.block _ (lt_of_block (HNO2.out (.cells #[.string (rd_T24 kids (i : Int)).f0, .string (rd_T24 kids (i : Int)).f1, .slice A2 (rd_T24 kids (i : Int)).f2.length c2] 24)).1) (HNO2.out (.cells #[.string (rd_T24 kids (i : Int)).f0, .string (rd_T24 kids (i : Int)).f1, .slice A2 (rd_T24 kids (i : Int)).f2.length c2] 24)).2).trans (HNO2.out (.cells #[.string (rd_T24 kids (i : Int)).f0, .string (rd_T24 kids (i : Int)).f1, .slice A2 (rd_T24 kids (i : Int)).f2.length c2] 24)).1
        · exact grown_trans (grown_trans HGr.out (grown_below (HAL.out (.cells #[.string (rd_T24 kids (i : Int)).f0, .string (rd_T24 kids (i : Int)).f1, .slice A2 (rd_T24 kids (i : Int)).f2.length c2] 24))) (.inl rfl)) HG9.out HAr.out
        · exact fresh_trans (by have := (HAL.out (.cells #[.string (rd_T24 kids (i : Int)).f0, .string (rd_T24 kids (i : Int)).f1, .slice A2 (rd_T24 kids (i : Int)).f2.length c2] 24)).size; omega) HAr.out HA9.out
    · have p1 : ¬ (i : Int) < (kids.length : Int) := by omega
      have hil : i = kids.length := by omega
      subst hil
      have hci := hcl kids.length (fun j hj => by have := visL_len (d + 1) (HK.out j hj); omega)
      have HCI := Aside0.mk hci
      have g0 := ((blk_cell HNr.out 0).trans rfl : wr.cell? ⟨W.heap.size, 0, none⟩ = some (.string f0))
      have g1 := ((blk_cell HNr.out 1).trans rfl : wr.cell? ⟨W.heap.size, 1, none⟩ = some (.string f1))
      go_wp2_with (first
        | ((with_reducible refine gate_builtin (b := .append) (xs := #[.tmp 56, .tmp 59]) rfl ?_); at_builtin; refine Kd.R_append k29 (w0 := wr) w0.heap.size rfl (.tmp 56) (.tmp 59) 26 29 (.agg #[(.string ⟨#[]⟩), (.string ⟨#[]⟩), (.int .i64 0)]) 40 rfl Tryz.underlying26 info29 rfl (by decide) (by omega) u0 (l ++ (⟨f0, ⟨#[]⟩, d⟩ :: catTo (fun i => visL D (d + 1) (rd_T24 kids (i : Int))) kids.length)) (⟨⟨#[]⟩, ⟨#[]⟩, d⟩ : S29) [.string ⟨#[]⟩, .string ⟨#[]⟩, .int .i64 d] (fun _ => True) (fun _ => False) rfl (by first | (go_simp; done) | (go_simp; rfl)) ?aP (fun _ hk => hk.elim) ?aF ?aO ?aB ?aS ?aL ?_; (case aP => exact k29_mkM _ _ _ _); (case aF => exact fun _ _ => trivial); (case aO => exact HRr.out); (case aB => exact Below.refl _ _); (case aS => have := HBS.out; have := HSZ.out; omega); (case aL => have := HL.out; have := HCI.out; simp only [List.length_append, List.length_cons, List.length_nil]; omega); intro v6 w6 hR6 hB6 hG6 hA6; have HR6 := Aside0.mk hR6; have HG6 := Aside0.mk (grown_trans HGr.out hG6 HAr.out); have HA6 := Aside0.mk (fresh_trans HSZ.out HAr.out hA6); clear hR6 hB6 hG6 hA6))
      go_ret
      refine ⟨_, rfl, ?_, HG6.out, HA6.out⟩
      have := HR6.out
      simp only [List.append_assoc, List.cons_append, List.nil_append] at this ⊢
      exact this

end Go.Proofs.YtdcaabjkklppjaaGreatFmt.A
/- spec.Visits, in the print's form. -/
namespace Go.Proofs.YtdcaabjkklppjaaGreatFmt.A
open Go.RowKit Go.Proofs.YtdcaabjkklppjaaGreatFmtW.PrintWords Go.Proofs.YtdcaabjkklppjaaGreatFmtW.PrintLast Go.Proofs.YtdcaabjkklppjaaGreatFmtW.PrintMore
set_option linter.unusedVariables false
set_option linter.unusedSimpArgs false
attribute [local go_sem ↓] Go.wp_at_zero Go.wp_at_succ

theorem ba_of_list {s : ByteArray} {l : List UInt8} (h : s.toList = l) : s = ⟨l.toArray⟩ := by
  rw [Go.Lib.toList_data] at h
  cases s with
  | mk d => cases d with
    | mk m => simp at h; rw [h]
theorem ba_ne {s : ByteArray} {l : List UInt8} (h : ¬ s = ⟨l.toArray⟩) : (s.toList == l) = false := beq_eq_false_iff_ne.2 (fun e => h (ba_of_list e))
theorem visC_all : ∀ D, VisC D
  | 0 => fun n A c d l v w0 W h _ _ _ _ _ _ _ => h.elim
  | D + 1 => by
    have IH := visC_all D
    intro n A c d l v w0 W hdeep hr hc hB hR h0 hd hl
    obtain ⟨f0, f1, kids⟩ := n
    have hnk := hdeep.nk
    have hnk : nk ⟨f0, f1, kids⟩ = kids.length := hnk
    have hkids : ∀ i : Nat, i < kids.length → Deep D (rd_T24 kids (i : Int)) := hdeep.2
    rw [cnt, hnk] at hl
    have hl : l.length + (8 + sumTo (fun i => cnt D (rd_T24 kids (i : Int))) kids.length) ≤ 100000 := hl
    rw [visL]
    unfold kindB textB
    dsimp only
    by_cases e1 : f0 = bName
    · subst e1
      rw [if_neg (by decide +kernel), if_pos (.inl rfl), if_neg (by decide +kernel)]
      exact visits_name D IH f1 kids A c d l v w0 W hkids hr hc hB hR h0 hd hl
    · by_cases e2 : f0 = bInt
      · subst e2
        rw [if_pos rfl, if_pos (.inr rfl), if_neg (by decide +kernel)]
        exact visits_int D IH f1 kids A c d l v w0 W hkids hr hc hB hR h0 hd hl
      · rw [if_neg e2, if_neg (fun h => h.elim e1 e2)]
        by_cases e3 : f0 = bSel
        · subst e3
          rw [if_pos rfl]
          exact visits_sel D IH f1 kids A c d l v w0 W hkids hr hc hB hR h0 hd hl
        · rw [if_neg e3]
          exact visits_other D IH f0 f1 kids A c d l v w0 W (ba_ne e1) (ba_ne e2) (ba_ne e3) hkids hr hc hB hR h0 hd hl
open Classical in
noncomputable def spec_Visits.f (a0_0 : ByteArray) (a0_1 : ByteArray) (l0_2 : List S24) : Option (List S29) := if Deep 12 ⟨a0_0, a0_1, l0_2⟩ ∧ cnt 12 ⟨a0_0, a0_1, l0_2⟩ ≤ 90000 then some (visL 12 0 ⟨a0_0, a0_1, l0_2⟩) else none
set_option maxHeartbeats 2000000 in
set_option maxRecDepth 100000 in
theorem spec_Visits.calls (a0_0 : ByteArray) (a0_1 : ByteArray) (A0_2 : Option Addr) (c0_2 : Nat) (l0_2 : List S24) (r : List S29) (w : World) (hr0_2 : Kd.C k24 w A0_2 l0_2.length l0_2) (hc0_2 : l0_2.length ≤ c0_2) (h : spec_Visits.f a0_0 a0_1 l0_2 = some r) :
    Calls Tryz.prog 14 #[.agg #[.string a0_0, .string a0_1, .slice A0_2 l0_2.length c0_2]] w fun e w' => ∃ v0_, e = .returned v0_ ∧ Kd.R k29 29 w' w.heap.size (fun _ => True) v0_ r ∧ Below w.heap.size w w' := by
  unfold spec_Visits.f at h
  split at h
  next hg =>
    obtain rfl := Option.some.inj h
    have hb2 : Below w.heap.size w ((w.alloc (.cells #[.string a0_0, .string a0_1, .slice A0_2 l0_2.length c0_2] 24)).alloc (.cells #[] 29)) := ((Below.refl w.heap.size w).alloc (Nat.le_refl _) _).alloc (by simp) _
    have hem : Kd.R k29 29 ((w.alloc (.cells #[.string a0_0, .string a0_1, .slice A0_2 l0_2.length c0_2] 24)).alloc (.cells #[] 29)) w.heap.size (fun _ => True) (.slice (some ⟨w.heap.size + 1, 0, none⟩) 0 0) [] :=
      R_empty (g := w.heap.size + 1) (by have := heap_alloc_new (w.alloc (.cells #[.string a0_0, .string a0_1, .slice A0_2 l0_2.length c0_2] 24)) (.cells #[] 29); rwa [show (w.alloc (.cells #[.string a0_0, .string a0_1, .slice A0_2 l0_2.length c0_2] 24)).heap.size = w.heap.size + 1 from Array.size_push _] at this) (by omega) trivial
    have hcall := visC_all 12 ⟨a0_0, a0_1, l0_2⟩ A0_2 c0_2 0 [] _ w _ hg.1 hr0_2 hc0_2 hb2 hem (by omega) (by omega) (by have := hg.2; simp only [List.length_nil]; omega)
    have HC := Aside0.mk hcall
    have HB2 := Aside0.mk hb2
    clear hcall hb2 hem hr0_2 hc0_2 hg
    go_enter Tryz.func14, Tryz.ntmps14
    go_wp2_with (first | (go_at_call 25; (with_reducible refine HC.out.mono ?_); rintro e w9 ⟨v9, rfl, hR9, hG9, hA9⟩; have HR9 := Aside0.mk hR9; have HG9 := Aside0.mk hG9; clear hR9 hG9 hA9))
    go_ret
    refine ⟨_, rfl, HR9.out, HB2.out.grown HG9.out HB2.out.size (fun k hk => ?_)⟩
    have : w.heap.size + 1 = k := by simpa [Value.ownBlock] using hk
    omega
  next => cases h
end Go.Proofs.YtdcaabjkklppjaaGreatFmt.A
