/- impl.exprsOf. -/
import Derived.Test.YtdcaabjkklppjaaGreatFmtGTree
import Derived.Test.YtdcaabjkklppjaaGreatFmtGTreb
namespace Go.Proofs.YtdcaabjkklppjaaGreatFmt.A
open Go.RowKit Go.Proofs.YtdcaabjkklppjaaGreatFmtW.PrintWords Go.Proofs.YtdcaabjkklppjaaGreatFmtW.PrintLast Go.Proofs.YtdcaabjkklppjaaGreatFmtW.PrintMore
set_option linter.unusedVariables false
set_option linter.unusedSimpArgs false
attribute [local go_sem ↓] Go.wp_at_zero Go.wp_at_succ




theorem info64 : (Tryz.prog.info? 64).map (fun i => (i.zero, i.size, i.bytes)) = some (some .nilIface, 1, 16) := by kernel_rfl
/-- An interface value over a pointer: its type, its block. -/
def kI : Kd (Nat × Nat) where
  sz := 1
  E := []
  K := fun _ x cs => cs = [.iface x.1 (.pointer (some ⟨x.2, 0, none⟩))]
  M := fun _ _ _ x cs => cs = [.iface x.1 (.pointer (some ⟨x.2, 0, none⟩))]
  K_len := fun h => by rw [h]; rfl
  K_one := fun h u hu => by rw [h] at hu; simp at hu; rw [hu]; rfl
  K_below := fun _ h => h
  K_of_M := fun h => h
  M_mono := fun _ h => h
  M_bound := fun h => h
  M_move := fun _ h => h
  M_lower := fun _ h => h

theorem trees_step {D i : Nat} {kids : List S24} {w wr w1 w8 : World} {v3 v8 : Value} {xs : List (Nat × Nat)} {T1 b1 : Nat} (hT : ∀ j : Nat, j < xs.length → Tree (fun k => w.heap.size ≤ k ∧ k < wr.heap.size ∧ some k ≠ v3.ownBlock) wr D (rd_T24 kids (j : Int)) (.iface (xs.getD j (0, 0)).1 (.pointer (some ⟨(xs.getD j (0, 0)).2, 0, none⟩))))
    (hx : xs.length = i) (h1 : Tree (From wr.heap.size) w1 D (rd_T24 kids (i : Int)) (.iface T1 (.pointer (some ⟨b1, 0, none⟩)))) {ok : Nat → Prop} {q : Nat → Prop} (ho : ∀ k, v3.ownBlock = some k → ok k ∧ w.heap.size ≤ k ∧ k < wr.heap.size ∧ q k) (hb : Below w.heap.size w wr) (hb1 : Below wr.heap.size wr w1)
    (hg : w1.grownBy w8 v3.ownBlock) (hat : v8.ownBlock = v3.ownBlock ∨ ∃ b, v8.ownBlock = some b ∧ w1.heap.size ≤ b) :
    ∀ j : Nat, j < (xs ++ [(T1, b1)]).length → Tree (fun k => w.heap.size ≤ k ∧ k < w8.heap.size ∧ some k ≠ v8.ownBlock) w8 D (rd_T24 kids (j : Int)) (.iface ((xs ++ [(T1, b1)]).getD j (0, 0)).1 (.pointer (some ⟨((xs ++ [(T1, b1)]).getD j (0, 0)).2, 0, none⟩))) := by
  have hne : ∀ k, k < w1.heap.size → some k ≠ v3.ownBlock → some k ≠ v8.ownBlock := by
    intro k hk hn
    rcases hat with h | ⟨b, h, hle⟩
    · rw [h]; exact hn
    · rw [h]
      intro e
      injection e with e
      omega
  intro j hj
  by_cases hjx : j < xs.length
  · rw [show (xs ++ [(T1, b1)]).getD j (0, 0) = xs.getD j (0, 0) by rw [List.getD_eq_getElem?_getD, List.getD_eq_getElem?_getD, List.getElem?_append_left hjx]]
    refine Tree.keep (fun k hk hlt => ?_) (hT j hjx)
    obtain ⟨k1, k2, k3⟩ := hk
    have hlt1 : k < w1.heap.size := Nat.lt_of_lt_of_le hlt hb1.size
    exact ⟨⟨k1, Nat.lt_of_lt_of_le hlt1 hg.size, hne k hlt1 k3⟩, (hg.block k hlt1 k3).trans (hb1.block k hlt)⟩
  · have hj' : j = i := by
      rw [List.length_append, List.length_singleton] at hj
      omega
    subst hj'
    rw [show (xs ++ [(T1, b1)]).getD j (0, 0) = (T1, b1) by rw [List.getD_eq_getElem?_getD, List.getElem?_append_right (by omega), hx, Nat.sub_self]; rfl]
    refine Tree.keep (fun k hk hlt => ?_) h1
    have k1 : w.heap.size ≤ k := Nat.le_trans hb.size hk
    have k3 : some k ≠ v3.ownBlock := by
      intro e
      have := (ho k e.symm).2.2.1
      have hk : wr.heap.size ≤ k := hk
      omega
    exact ⟨⟨k1, Nat.lt_of_lt_of_le hlt hg.size, hne k hlt k3⟩, hg.block k hlt k3⟩
theorem trees_out {D : Nat} {kids : List S24} {w wr : World} {A : Option Addr} {n c : Nat} {xs : List (Nat × Nat)} (hT : ∀ j : Nat, j < xs.length → Tree (fun k => w.heap.size ≤ k ∧ k < wr.heap.size ∧ some k ≠ (Value.slice A n c).ownBlock) wr D (rd_T24 kids (j : Int)) (.iface (xs.getD j (0, 0)).1 (.pointer (some ⟨(xs.getD j (0, 0)).2, 0, none⟩))))
    (hC : Kd.C kI wr A xs.length xs) {ok q : Nat → Prop} (ho : ∀ k, (Value.slice A n c).ownBlock = some k → ok k ∧ w.heap.size ≤ k ∧ q k) (j : Nat) (hj : j < xs.length) :
    ∃ a v1, A = some a ∧ w.heap.size ≤ (a.add j).block ∧ wr.cell? (a.add j) = some v1 ∧ Tree (From w.heap.size) wr D (rd_T24 kids (j : Int)) v1 := by
  obtain ⟨ad, cs, rfl, _, hK, hc⟩ := Kd.C_get hC ((0 : Nat), (0 : Nat)) (j : Int) (by omega) (by omega)
  have hK : cs = [.iface (xs.getD j (0, 0)).1 (.pointer (some ⟨(xs.getD j (0, 0)).2, 0, none⟩))] := hK
  subst hK
  refine ⟨ad, _, rfl, ?_, ?_, (hT j hj).mono fun k hk => hk.1⟩
  · have := (ho ad.block rfl).2.1
    unfold Addr.add
    split <;> exact this
  · have := hc 0 _ rfl
    rw [Int.toNat_natCast] at this
    simpa [kI] using this
set_option maxHeartbeats 1000000 in
set_option maxRecDepth 100000 in
theorem exprs_any (S : Nat → ByteArray) (D : Nat) (IH : ExprC S D) (A : Option Addr) (c : Nat) (kids : List S24) (w : World) (hlen : kids.length ≤ 1000000) (hg : ∀ i : Nat, i < kids.length → Good S D (rd_T24 kids (i : Int))) (hr : Kd.C k24 w A kids.length kids) (hT : TokTab S w) :
    Calls Tryz.prog 48 #[.slice A kids.length c] w fun e w' => ∃ A' c', e = .returned (.slice A' kids.length c') ∧ (∀ i : Nat, i < kids.length → ∃ a v1, A' = some a ∧ w.heap.size ≤ (a.add i).block ∧ w'.cell? (a.add i) = some v1 ∧ Tree (From w.heap.size) w' D (rd_T24 kids (i : Int)) v1) ∧ Below w.heap.size w w' := by
  have HG := Aside0.mk hg
  have HR := Aside0.mk hr
  have HT := Aside0.mk hT
  have HB := Aside0.mk (Below.refl w.heap.size w)
  clear hg hr hT
  go_enter Tryz.func48, Tryz.ntmps48
  go_wp2
  go_loopg [3, 8] kids.length (fun kq v3 v8 w' => ∃ (i : Nat) (xs : List (Nat × Nat)), v8 = .int .i64 (i : Int) ∧ i ≤ kids.length ∧ Hid (kq = kids.length - i) ∧ Hid (xs.length = i) ∧ Aside0 (Kd.R kI 64 w' w.heap.size (fun _ => True) v3 xs) ∧ Aside0 (Below w.heap.size w w') ∧ Aside0 (∀ j : Nat, j < xs.length → Tree (fun k => w.heap.size ≤ k ∧ k < w'.heap.size ∧ some k ≠ v3.ownBlock) w' D (rd_T24 kids (j : Int)) (.iface (xs.getD j (0, 0)).1 (.pointer (some ⟨(xs.getD j (0, 0)).2, 0, none⟩)))))
  case atStart => exact ⟨0, [], rfl, Nat.zero_le _, rfl, rfl, ⟨Kd.R_nil _ _ _ _ _⟩, HB, ⟨fun j hj => absurd hj (Nat.not_lt_zero _)⟩⟩
  case round =>
    clear HB
    obtain ⟨i, xs, rfl, hi, HM, HX, HO, HB, HTR⟩ := hrel
    by_cases hlt : i < kids.length
    · obtain ⟨ad, A2, c2, eA, hK, hl2, hi2⟩ := kid_at HR.out i hlt
      cases eA
      have hgi := Aside0.mk (HG.out i hlt)
      have hKr : Kid wr (ad.add (i * 3)) (rd_T24 kids (i : Int)) A2 c2 := by
        obtain ⟨a, b, c⟩ := hK
        exact ⟨(HB.out.cell (World.block_lt_of_cell? w _ a)).trans a, (HB.out.cell (World.block_lt_of_cell? w _ b)).trans b, (HB.out.cell (World.block_lt_of_cell? w _ c)).trans c⟩
      obtain ⟨q0, q1, q2⟩ := hKr
      have HI := Aside0.mk (Kd.C_below hi2 HB.out)
      have HTr := Aside0.mk (HT.out.below HB.out)
      have HL := Aside0.mk hl2
      have HAL : Aside0 (∀ o : Obj, Below wr.heap.size wr (wr.alloc o)) := ⟨fun o => (Below.refl _ _).alloc (Nat.le_refl _) o⟩
      clear hK hi2 hl2
      have p0 : (0 : Int) ≤ (i : Int) := by omega
      have p1 : (i : Int) < (kids.length : Int) := by omega
      go_wp2_with (first
        | (go_at_call 33; refine (IH _ _ _ _ hgi.out ?h1 HL.out ?h2).mono ?_; (case h1 => exact Kd.C_below HI.out (HAL.out _)); (case h2 => exact HTr.out.below (HAL.out _)); rintro e w1 ⟨v1, rfl, hch, hb1⟩; obtain ⟨T1, b1, rfl⟩ := hch.form; have HB1 := Aside0.mk ((HAL.out _).trans (hb1.mono (HAL.out _).size)); have HC1 := Aside0.mk (hch.from_ (HAL.out _).size); clear hb1 hch)
        | ((with_reducible refine gate_builtin (b := .append) (xs := #[.tmp 12, .tmp 15]) rfl ?_); at_builtin; refine Kd.R_append kI (w0 := w) w.heap.size rfl (.tmp 12) (.tmp 15) 111 64 .nilIface 16 rfl Tryz.underlying111 info64 rfl (by decide) (by omega) u3 xs (T1, b1) [.iface T1 (.pointer (some ⟨b1, 0, none⟩))] (fun _ => True) (fun _ => False) rfl rfl ?aP (fun _ hk => hk.elim) ?aF ?aO ?aB ?aS ?aL ?_; (case aP => rfl); (case aF => exact (fun _ _ => trivial)); (case aO => exact Kd.R_below HO.out HB1.out); (case aB => exact HB.out.trans (HB1.out.mono HB.out.size)); (case aS => exact Nat.le_trans HB.out.size HB1.out.size); (case aL => have := HX.out; omega); intro v186 w8 ho hb hg hat; have HO8 := Aside0.mk ho; have HB8 := Aside0.mk hb; have HG8 := Aside0.mk hg; have HA8 := Aside0.mk hat; clear ho hb hg hat))
      go_roundg (gk - 1)
      case measure => have := HM.out; omega
      case rel => exact ⟨i + 1, xs ++ [(T1, b1)], by go_num, by omega, by have := HM.out; show _ = _; omega, by have := HX.out; show _ = _; simp; exact this, HO8, HB8, ⟨trees_step HTR.out (HX.out) HC1.out (fun k hk => (Kd.R_bound HO.out).1 k hk) HB.out HB1.out HG8.out HA8.out⟩⟩
    · have p1 : ¬ (i : Int) < (kids.length : Int) := by omega
      obtain ⟨A', c', rfl, hle', hC'⟩ := Kd.R_reads HO.out
      have HC' := Aside0.mk hC'
      clear hC' hle'
      have hil : i = kids.length := by omega
      have HXL := Aside0.mk (show xs.length = kids.length by rw [← hil]; exact HX.out)
      have HOB := Aside0.mk (Kd.R_bound HO.out).1
      have hxl := HXL.out
      go_wp2
      go_ret
      refine ⟨_, ⟨_, rfl⟩, fun j hj => ?_, HB.out⟩
      obtain ⟨a, v1, e1, e2, e3, e4⟩ := trees_out HTR.out HC'.out HOB.out j (by rw [HXL.out]; exact hj)
      exact ⟨a, e1, e2, v1, e3, e4⟩
end Go.Proofs.YtdcaabjkklppjaaGreatFmt.A
