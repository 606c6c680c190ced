/- impl.exprsOf. -/
import Derived.Test.YtdcaabjkklppjaaGreatDoorGTree
import Derived.Test.YtdcaabjkklppjaaGreatDoorGTreb
namespace Go.Proofs.YtdcaabjkklppjaaGreatDoor.A
open Go.RowKit Go.Proofs.YtdcaabjkklppjaaGreatDoorW.PrintWords Go.Proofs.YtdcaabjkklppjaaGreatDoorW.PrintLast Go.Proofs.YtdcaabjkklppjaaGreatDoorW.PrintMore
set_option linter.unusedVariables false
set_option linter.unusedSimpArgs false
attribute [local go_sem ↓] Go.wp_at_zero Go.wp_at_succ




theorem info32 : (Tryz.prog.info? 32).map (fun i => (i.zero, i.size, i.bytes)) = some (some .nilIface, 1, 16) := by kernel_rfl
/-- An interface value over a pointer: its type, its block. -/
def kI : Kd (Nat × Nat) where
  sz := 1
  E := []
  K := fun _ x cs => cs = [.iface x.1 (.pointer (some ⟨x.2, 0, none⟩))]
  M := fun _ _ _ x cs => cs = [.iface x.1 (.pointer (some ⟨x.2, 0, none⟩))]
  K_len := fun h => by rw [h]; rfl
  K_one := fun h u hu => by rw [h] at hu; simp at hu; rw [hu]; rfl
  K_below := fun _ h => h
  K_of_M := fun h => h
  M_mono := fun _ h => h
  M_bound := fun h => h
  M_move := fun _ h => h
  M_lower := fun _ h => h

set_option maxHeartbeats 1000000 in
set_option maxRecDepth 100000 in
theorem exprs_any (S : Nat → ByteArray) (D : Nat) (IH : ExprC S D) (A : Option Addr) (c : Nat) (kids : List S24) (w : World) (hlen : kids.length ≤ 1000000) (hg : ∀ i : Nat, i < kids.length → Good S D (rd_T24 kids (i : Int))) (hr : Kd.C k24 w A kids.length kids) (hT : TokTab S w) :
    Calls Tryz.prog 16 #[.slice A kids.length c] w fun e w' => ∃ A' n c', e = .returned (.slice A' n c') ∧ Below w.heap.size w w' := by
  have HG := Aside0.mk hg
  have HR := Aside0.mk hr
  have HT := Aside0.mk hT
  have HB := Aside0.mk (Below.refl w.heap.size w)
  clear hg hr hT
  go_enter Tryz.func16, Tryz.ntmps16
  go_wp2
  go_loopg [3, 8] kids.length (fun kq v3 v8 w' => ∃ (i : Nat) (xs : List (Nat × Nat)), v8 = .int .i64 (i : Int) ∧ i ≤ kids.length ∧ Hid (kq = kids.length - i) ∧ Hid (xs.length = i) ∧ Aside0 (Kd.R kI 32 w' w.heap.size (fun _ => True) v3 xs) ∧ Aside0 (Below w.heap.size w w'))
  case atStart => exact ⟨0, [], rfl, Nat.zero_le _, rfl, rfl, ⟨Kd.R_nil _ _ _ _ _⟩, HB⟩
  case round =>
    clear HB
    obtain ⟨i, xs, rfl, hi, HM, HX, HO, HB⟩ := hrel
    by_cases hlt : i < kids.length
    · obtain ⟨ad, A2, c2, eA, hK, hl2, hi2⟩ := kid_at HR.out i hlt
      cases eA
      have hgi := Aside0.mk (HG.out i hlt)
      have hKr : Kid wr (ad.add (i * 3)) (rd_T24 kids (i : Int)) A2 c2 := by
        obtain ⟨a, b, c⟩ := hK
        exact ⟨(HB.out.cell (World.block_lt_of_cell? w _ a)).trans a, (HB.out.cell (World.block_lt_of_cell? w _ b)).trans b, (HB.out.cell (World.block_lt_of_cell? w _ c)).trans c⟩
      obtain ⟨q0, q1, q2⟩ := hKr
      have HI := Aside0.mk (Kd.C_below hi2 HB.out)
      have HTr := Aside0.mk (HT.out.below HB.out)
      have HL := Aside0.mk hl2
      have HAL : Aside0 (∀ o : Obj, Below wr.heap.size wr (wr.alloc o)) := ⟨fun o => (Below.refl _ _).alloc (Nat.le_refl _) o⟩
      clear hK hi2 hl2
      have p0 : (0 : Int) ≤ (i : Int) := by omega
      have p1 : (i : Int) < (kids.length : Int) := by omega
      go_wp2_with (first
        | (go_at_call 10; refine (IH _ _ _ _ hgi.out ?h1 HL.out ?h2).mono ?_; (case h1 => exact Kd.C_below HI.out (HAL.out _)); (case h2 => exact HTr.out.below (HAL.out _)); rintro e w1 ⟨v1, rfl, hch, hb1⟩; obtain ⟨T1, b1, rfl⟩ := hch.form; have HB1 := Aside0.mk ((HAL.out _).trans (hb1.mono (HAL.out _).size)); clear hb1 hch)
        | ((with_reducible refine gate_builtin (b := .append) (xs := #[.tmp 12, .tmp 15]) rfl ?_); at_builtin; refine Kd.R_append kI (w0 := w) w.heap.size rfl (.tmp 12) (.tmp 15) 47 32 .nilIface 16 rfl Tryz.underlying47 info32 rfl (by decide) (by omega) u3 xs (T1, b1) [.iface T1 (.pointer (some ⟨b1, 0, none⟩))] (fun _ => True) (fun _ => False) rfl rfl ?aP (fun _ hk => hk.elim) ?aF ?aO ?aB ?aS ?aL ?_; (case aP => rfl); (case aF => exact (fun _ _ => trivial)); (case aO => exact Kd.R_below HO.out HB1.out); (case aB => exact HB.out.trans (HB1.out.mono HB.out.size)); (case aS => exact Nat.le_trans HB.out.size HB1.out.size); (case aL => have := HX.out; omega); intro v186 w8 ho hb hg hat; have HO8 := Aside0.mk ho; have HB8 := Aside0.mk hb; clear ho hb hg hat))
      go_roundg (gk - 1)
      case measure => have := HM.out; omega
      case rel => exact ⟨i + 1, xs ++ [(T1, b1)], by go_num, by omega, by have := HM.out; show _ = _; omega, by have := HX.out; show _ = _; simp; exact this, HO8, HB8⟩
    · have p1 : ¬ (i : Int) < (kids.length : Int) := by omega
      obtain ⟨A', c', rfl⟩ := Kd.R_slice HO.out
      go_wp2
      go_ret
      exact ⟨⟨_, _, _, rfl⟩, HB.out⟩
end Go.Proofs.YtdcaabjkklppjaaGreatDoor.A
