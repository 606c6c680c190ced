/- impl.placedOf at the kind selector. -/
import Derived.Test.YtbojpbfckgjgbaaGreatGPl0
import Derived.Test.YtbojpbfckgjgbaaGreatA5
import Derived.Deep.RegionHeld3
import Derived.Deep.DrawnRows
namespace Go.Proofs.YtbojpbfckgjgbaaGreat.A
open Go.RowKit Go.Proofs.YtbojpbfckgjgbaaGreatW.PrintWords Go.Proofs.YtbojpbfckgjgbaaGreatW.PrintLast Go.Proofs.YtbojpbfckgjgbaaGreatW.PrintMore
set_option linter.unusedVariables false
set_option linter.unusedSimpArgs false
attribute [local go_sem ↓] Go.wp_at_zero Go.wp_at_succ


set_option maxHeartbeats 4000000 in
set_option maxRecDepth 100000 in
theorem pl_selector (D : Nat) (IH : PlacedC D) (a1 : ByteArray) (A2 : Option Addr) (c2 : Nat) (l2 : List Int) (A3 : Option Addr) (c3 : Nat) (l3 : List S25) (w : World) (ht : l2.length = 1) (hk : l3.length = 1) (h20 : l3.length ≤ 20) (hbd : ∀ i : Nat, i < l2.length → 1 ≤ rd l2 (i : Int) ∧ rd l2 (i : Int) ≤ 1000000) (hsz : a1.size ≤ 1000)
    (hg : ∀ i : Nat, i < l3.length → GoodP D (rd_T25 l3 (i : Int))) (hr2 : Kd.C (Kd.int .i64) w A2 l2.length l2) (hc2 : l2.length ≤ c2) (hr3 : Kd.C k25 w A3 l3.length l3) (hc3 : l3.length ≤ c3) :
    Calls Tryz.prog 11 #[.agg #[.string ⟨#[115, 101, 108, 101, 99, 116, 111, 114]⟩, .string a1, .slice A2 l2.length c2, .slice A3 l3.length c3]] w fun e w' => ∃ v, e = .returned v ∧ PosOf (From w.heap.size) w' v (firstP D (rd_T25 l3 ((0 : Nat) : Int))) (rd l2 0 + (a1.size : Int)) ∧ Below w.heap.size w w' := by
  have HG := Aside0.mk hg
  have HR2 := Aside0.mk hr2
  have HC2 := Aside0.mk hc2
  have HR3 := Aside0.mk hr3
  have HC3 := Aside0.mk hc3
  have HBD := Aside0.mk hbd
  have HSZ := Aside0.mk hsz
  have HT := Aside0.mk ht
  have HK := Aside0.mk hk
  have HB0 := Aside0.mk (((Below.refl w.heap.size w).alloc (Nat.le_refl _) (.cells #[.string ⟨#[115, 101, 108, 101, 99, 116, 111, 114]⟩, .string a1, .slice A2 l2.length c2, .slice A3 l3.length c3] 25)).alloc (by simp) (.cells #[] 33))
  have HX0 : Aside0 (((w.alloc (.cells #[.string ⟨#[115, 101, 108, 101, 99, 116, 111, 114]⟩, .string a1, .slice A2 l2.length c2, .slice A3 l3.length c3] 25)).alloc (.cells #[] 33)).heap[w.heap.size]? = some (.cells #[.string ⟨#[115, 101, 108, 101, 99, 116, 111, 114]⟩, .string a1, .slice A2 l2.length c2, .slice A3 l3.length c3] 25 (0, 0))) := ⟨(Below.heap_alloc _ _ _ (by simp)).trans (heap_alloc_new w _)⟩
  have HE0 : Aside0 (Kd.R kI 33 ((w.alloc (.cells #[.string ⟨#[115, 101, 108, 101, 99, 116, 111, 114]⟩, .string a1, .slice A2 l2.length c2, .slice A3 l3.length c3] 25)).alloc (.cells #[] 33)) w.heap.size (fun _ => True) (.slice (some ⟨w.heap.size + 1, 0, none⟩) 0 0) []) := ⟨R_emptyI (by have := heap_alloc_new (w.alloc (.cells #[.string ⟨#[115, 101, 108, 101, 99, 116, 111, 114]⟩, .string a1, .slice A2 l2.length c2, .slice A3 l3.length c3] 25)) (.cells #[] 33); rwa [World.size_alloc] at this) (by omega) trivial⟩
  clear hg hr2 hc2 hr3 hc3 hbd hsz ht hk
  go_enter Tryz.func11, Tryz.ntmps11
  go_wp2
  go_loopg [3, 10] l3.length (fun kq v3 v10 w' => ∃ (i : Nat) (xs : List (Nat × Nat)), v10 = .int .i64 (i : Int) ∧ i ≤ l3.length ∧ Hid (kq = l3.length - i) ∧ Hid (xs.length = i) ∧ Aside0 (Kd.R kI 33 w' w.heap.size (fun _ => True) v3 xs) ∧ Aside0 (Below w.heap.size w w') ∧ Aside0 (w'.heap[w.heap.size]? = some (.cells #[.string ⟨#[115, 101, 108, 101, 99, 116, 111, 114]⟩, .string a1, .slice A2 l2.length c2, .slice A3 l3.length c3] 25 (0, 0))) ∧ Aside0 (Poss (fun k => w.heap.size ≤ k ∧ k < w'.heap.size ∧ some k ≠ v3.ownBlock) w' D l3 xs))
  case atStart => exact ⟨0, [], rfl, Nat.zero_le _, rfl, rfl, HE0, HB0, HX0, ⟨fun j hj => absurd hj (Nat.not_lt_zero _)⟩⟩
  case round =>
    clear HB0 HX0 HE0
    obtain ⟨i, xs, rfl, hi, HM, HXL, HO, HB, HX, HTR⟩ := hrel
    by_cases hlt : i < l3.length
    · obtain ⟨ad, A4, c4, A5, c5, eA, q0, q1, q2, q3, hl4, hi4, hl5, hi5⟩ := at_T25 (Kd.C_below HR3.out HB.out) (i : Int) (by omega) (by omega)
      cases eA
      rw [Int.toNat_natCast] at q0 q1 q2 q3
      have HGI := Aside0.mk (HG.out i hlt)
      have HI4 := Aside0.mk hi4
      have HI5 := Aside0.mk hi5
      have HL4 := Aside0.mk hl4
      have HL5 := Aside0.mk hl5
      have HAL : Aside0 (∀ o : Obj, Below wr.heap.size wr (wr.alloc o)) := ⟨fun o => (Below.refl _ _).alloc (Nat.le_refl _) o⟩
      clear hi4 hi5 hl4 hl5
      have p0 : (0 : Int) ≤ (i : Int) := by omega
      have p1 : (i : Int) < (l3.length : Int) := by omega
      go_wp2_with (first
        | (go_at_call 11; refine (IH (rd_T25 l3 (i : Int)) _ _ _ _ _ ?hg ?h1 HL4.out ?h2 HL5.out).mono ?_; (case hg => exact HGI.out); (case h1 => exact Kd.C_below HI4.out (HAL.out _)); (case h2 => exact Kd.C_below HI5.out (HAL.out _)); rintro e w1 ⟨v1, rfl, hch, hb1⟩; obtain ⟨T1, b1, rfl⟩ := hch.form; have HB1 := Aside0.mk ((HAL.out _).trans (hb1.mono (HAL.out _).size)); have HC1 := Aside0.mk (hch.keep (K' := From wr.heap.size) (Nat.le_refl _) (fun k hk _ => ⟨Nat.le_trans (HAL.out _).size hk, rfl⟩)); clear hb1 hch)
        | ((with_reducible refine gate_builtin (b := .append) (xs := #[.tmp 14, .tmp 17]) rfl ?_); at_builtin; refine Kd.R_append kI (w0 := w) w.heap.size rfl (.tmp 14) (.tmp 17) 41 33 .nilIface 16 rfl Tryz.underlying41 info33 rfl (by decide) (by omega) u3 xs (T1, b1) [.iface T1 (.pointer (some ⟨b1, 0, none⟩))] (fun _ => True) (fun _ => False) rfl rfl ?aP (fun _ hk => hk.elim) ?aF ?aO ?aB ?aS ?aL ?_; (case aP => rfl); (case aF => exact (fun _ _ => trivial)); (case aO => exact Kd.R_below HO.out HB1.out); (case aB => exact HB.out.trans (HB1.out.mono HB.out.size)); (case aS => exact Nat.le_trans HB.out.size HB1.out.size); (case aL => have := HXL.out; omega); intro v186 w8 ho hb hg hat; have HO8 := Aside0.mk ho; have HB8 := Aside0.mk hb; have HG8 := Aside0.mk hg; have HA8 := Aside0.mk hat; clear ho hb hg hat))
      go_roundg (gk - 1)
      case measure => have := HM.out; omega
      case rel => exact ⟨i + 1, xs ++ [(T1, b1)], by go_num, by omega, by have := HM.out; show _ = _; omega, by have := HXL.out; show _ = _; simp; exact this, HO8, HB8, ⟨(HG8.out.block _ (Nat.lt_of_lt_of_le (lt_blk HX.out) HB1.out.size) (Kd.R_ne (Kd.R_below HO.out HB1.out) ((HB1.out.block _ (lt_blk HX.out)).trans HX.out) (by decide))).trans ((HB1.out.block _ (lt_blk HX.out)).trans HX.out)⟩, ⟨pos_step HTR.out (HXL.out) HC1.out (fun k hk => (Kd.R_bound HO.out).1 k hk) HB.out HB1.out HG8.out HA8.out⟩⟩
    · have p1 : ¬ (i : Int) < (l3.length : Int) := by omega
      have hil : i = l3.length := by omega
      have HXN := Aside0.mk (show xs.length = l3.length by rw [← hil]; exact HXL.out)
      subst hil
      obtain ⟨A9, c9, rfl⟩ := Kd.R_slice HO.out
      rw [HXN.out]
      have HD := Aside0.mk (below_drew (Below.refl wr.heap.size wr))
      have z0 := (blk_cell HX.out 0).trans (show _ = some (Value.string ⟨#[115, 101, 108, 101, 99, 116, 111, 114]⟩) from rfl)
      have z1 := (blk_cell HX.out 1).trans (show _ = some (Value.string a1) from rfl)
      have z2 := (blk_cell HX.out 2).trans (show _ = some (Value.slice A2 l2.length c2) from rfl)
      have z3 := (blk_cell HX.out 3).trans (show _ = some (Value.slice A3 l3.length c3) from rfl)
      obtain ⟨g0, eg0, y0⟩ := row_cell HO.out 0 (by have := HXN.out; have := HK.out; omega)
      have HP0 := Aside0.mk (poss_out HTR.out 0 (by have := HXN.out; have := HK.out; omega))
      subst eg0
      obtain ⟨T0, b0, hx0⟩ : ∃ T b, encI (xs.getD 0 (0, 0)) = .iface T (.pointer (some ⟨b, 0, none⟩)) := ⟨_, _, rfl⟩
      rw [hx0] at y0 HP0
      clear hx0
      have h3 : 1 ≤ l3.length := by have := HK.out; omega
      have h3_0 : (0 : Int) < (l3.length : Int) := by omega
      have h3_n : 0 < l3.length := by omega
      clear h3
      have HAT0 : Aside0 (impl_Placed_at.f ⟨#[115, 101, 108, 101, 99, 116, 111, 114]⟩ a1 l2 l3 0 = some (rd l2 0)) := ⟨by unfold impl_Placed_at.f; rw [if_pos (by omega), if_pos (by have := HT.out; omega)]⟩
      have HKEEP : Aside0 (∀ W, Below wr.heap.size wr W → (W.cell? ⟨w.heap.size, 0, none⟩ = some (.string ⟨#[115, 101, 108, 101, 99, 116, 111, 114]⟩) ∧ W.cell? ⟨w.heap.size, 1, none⟩ = some (.string a1) ∧ W.cell? ⟨w.heap.size, 2, none⟩ = some (.slice A2 l2.length c2) ∧ W.cell? ⟨w.heap.size, 3, none⟩ = some (.slice A3 l3.length c3) ∧ W.cell? ⟨g0, 0, none⟩ = some (.iface T0 (.pointer (some ⟨b0, 0, none⟩))))) := ⟨fun W hb => ⟨(hb.cell (World.block_lt_of_cell? wr _ z0)).trans z0, (hb.cell (World.block_lt_of_cell? wr _ z1)).trans z1, (hb.cell (World.block_lt_of_cell? wr _ z2)).trans z2, (hb.cell (World.block_lt_of_cell? wr _ z3)).trans z3, (hb.cell (World.block_lt_of_cell? wr _ y0)).trans y0⟩⟩
      go_wp2
      go_region_held3 (fun W => W.cell? ⟨w.heap.size, 0, none⟩ = some (.string ⟨#[115, 101, 108, 101, 99, 116, 111, 114]⟩) ∧ W.cell? ⟨w.heap.size, 1, none⟩ = some (.string a1) ∧ W.cell? ⟨w.heap.size, 2, none⟩ = some (.slice A2 l2.length c2) ∧ W.cell? ⟨w.heap.size, 3, none⟩ = some (.slice A3 l3.length c3) ∧ W.cell? ⟨g0, 0, none⟩ = some (.iface T0 (.pointer (some ⟨b0, 0, none⟩))))
        (first | exact HKEEP.out _ HD.out | exact HKEEP.out _ HB1.out | exact HKEEP.out _ (HB1.out.alloc HB1.out.size _) | exact HKEEP.out _ ((HB1.out.alloc HB1.out.size _).alloc (by have := HB1.out.size; simp; omega) _))
        ((first
        | (go_at_call_of 13 (0 : Int); refine (impl_Placed_at.calls _ _ _ _ _ _ _ _ _ _ _ ?h2 HC2.out ?h3 HC3.out HAT0.out).mono ?_; (case h2 => exact Kd.C_below HR2.out (HB.out.trans (HD.out.mono HB.out.size))); (case h3 => exact Kd.C_below HR3.out (HB.out.trans (HD.out.mono HB.out.size))); rintro e w1 ⟨rfl, hb⟩; have HB1 := Aside0.mk (HD.out.trans (hb.mono HD.out.size)); clear hb)))
      all_goals
        go_wp2_with fail
        go_ret
        have hw := HB.out.trans (HB1.out.mono HB.out.size)
        refine ⟨_, rfl, ?_, (hw.alloc hw.size _).alloc (by have := hw.size; simp; omega) _⟩
        have hi0 := heap_alloc_new w1 (.cells #[.int .i64 (rd l2 0), .string a1, .pointer none] 54)
        have hs0 := heap_alloc_new (w1.alloc (.cells #[.int .i64 (rd l2 0), .string a1, .pointer none] 54)) (.cells #[.iface T0 (.pointer (some ⟨b0, 0, none⟩)), .pointer (some ⟨w1.heap.size, 0, none⟩)] 56)
        rw [World.size_alloc] at hs0
        have hi1 := (Below.heap_alloc (w1.alloc (.cells #[.int .i64 (rd l2 0), .string a1, .pointer none] 54)) (.cells #[.iface T0 (.pointer (some ⟨b0, 0, none⟩)), .pointer (some ⟨w1.heap.size, 0, none⟩)] 56) _ (lt_blk hi0)).trans hi0
        have hz9 := (HB1.out.alloc HB1.out.size (.cells #[.int .i64 (rd l2 0), .string a1, .pointer none] 54)).alloc (by have := HB1.out.size; simp; omega) (.cells #[.iface T0 (.pointer (some ⟨b0, 0, none⟩)), .pointer (some ⟨w1.heap.size, 0, none⟩)] 56)
        have kb : From w.heap.size (w1.heap.size + 1) := by have := hw.size; show _ ≤ _; omega
        have hx := PosOf.keep (K' := From w.heap.size) HP0.out hz9.size (fun k hk hl => ⟨hk, hz9.block k hl⟩)
        have hn := m_name_End (From w.heap.size) _ _ _ _ _ hi1 hw.size (HBD.out 0 (by have := HT.out; omega)) HSZ.out
        exact ⟨50, _, 39, 38, rfl, meth50Pos _, meth50End _, call39, call38, m_sel_Pos _ _ _ _ _ hs0 kb _ _ hx, m_sel_End _ _ _ _ _ hs0 kb _ hn⟩
end Go.Proofs.YtbojpbfckgjgbaaGreat.A
