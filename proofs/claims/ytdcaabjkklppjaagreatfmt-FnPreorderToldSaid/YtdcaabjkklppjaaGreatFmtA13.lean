/- laws.nodes9. -/
import Derived.Test.YtdcaabjkklppjaaGreatFmtGInr
namespace Go.Proofs.YtdcaabjkklppjaaGreatFmt.A
open Go.RowKit Go.Proofs.YtdcaabjkklppjaaGreatFmtW.PrintWords Go.Proofs.YtdcaabjkklppjaaGreatFmtW.PrintLast Go.Proofs.YtdcaabjkklppjaaGreatFmtW.PrintMore
set_option linter.unusedVariables false
set_option linter.unusedSimpArgs false
attribute [local go_sem ↓] Go.wp_at_zero Go.wp_at_succ

/-- The nodes among visits, each with another depth. -/
def nodeL (a1 : Int) (a2 : Bool) (v : S29) : List S29 := if v.f0.toList = ([] : List UInt8) then [] else [⟨v.f0, v.f1, if a2 = true then 0 else wrap64 (v.f2 + a1)⟩]
def nodesL (a1 : Int) (a2 : Bool) (l : List S29) : Nat → List S29
  | 0 => []
  | i + 1 => nodesL a1 a2 l i ++ nodeL a1 a2 (rd_T29 l (i : Int))
theorem nodesL_len (a1 : Int) (a2 : Bool) (l : List S29) : ∀ i, (nodesL a1 a2 l i).length ≤ i
  | 0 => Nat.le_refl _
  | i + 1 => by
    have h := nodesL_len a1 a2 l i
    rw [nodesL, List.length_append]
    unfold nodeL
    split
    · simp only [List.length_nil]; omega
    · simp only [List.length_cons, List.length_nil]; omega
set_option maxHeartbeats 2000000 in
set_option maxRecDepth 100000 in
theorem nodes9_any (A0 : Option Addr) (c0 : Nat) (l0 : List S29) (a1 : Int) (a2 : Bool) (w : World) (hl : l0.length ≤ 100000) (hr0 : Kd.C k29 w A0 l0.length l0) :
    Calls Tryz.prog 16 #[.slice A0 l0.length c0, .int .i64 a1, .bool a2] w fun e w' => ∃ v0_, e = .returned v0_ ∧ Kd.R k29 29 w' w.heap.size (fun _ => True) v0_ (nodesL a1 a2 l0 l0.length) ∧ Below w.heap.size w w' := by
  have HR := Aside0.mk hr0
  have HL := Aside0.mk hl
  have HB0 := Aside0.mk ((Below.refl w.heap.size w).alloc (Nat.le_refl _) (.cells #[] 29))
  have HE := Aside0.mk (R_empty (W := w.alloc (.cells #[] 29)) (base := w.heap.size) (g := w.heap.size) (ok := fun _ => True) (heap_alloc_new w _) (Nat.le_refl _) trivial)
  clear hr0 hl
  go_enter Tryz.func16, Tryz.ntmps16
  go_wp2
  go_loopg [7, 13] l0.length (fun kq v7 v13 w' => ∃ i : Nat, v13 = .int .i64 (i : Int) ∧ i ≤ l0.length ∧ Hid (kq = l0.length - i) ∧ Aside0 (Kd.R k29 29 w' w.heap.size (fun _ => True) v7 (nodesL a1 a2 l0 i)) ∧ Aside0 (Below w.heap.size w w'))
  case atStart => exact ⟨0, rfl, Nat.zero_le _, rfl, HE, HB0⟩
  case round =>
    clear HB0 HE
    obtain ⟨i, rfl, hi, HM, HO, HB⟩ := hrel
    have hl100 := HL.out
    by_cases hlt : i < l0.length
    · obtain ⟨ad, eA, hx0, hx1, hx2⟩ := at_T29 (Kd.C_below HR.out HB.out) (i : Int) (by omega) (by omega)
      rw [Int.toNat_natCast] at hx0 hx1 hx2
      subst eA
      have hln := nodesL_len a1 a2 l0 i
      have HLN := Aside0.mk hln
      have HND := Aside0.mk (show nodesL a1 a2 l0 (i + 1) = nodesL a1 a2 l0 i ++ nodeL a1 a2 (rd_T29 l0 (i : Int)) from rfl)
      clear hln
      generalize rd_T29 l0 (i : Int) = v at hx0 hx1 hx2 HND
      obtain ⟨f0, f1, f2⟩ := v
      have p0 : (0 : Int) ≤ (i : Int) := by omega
      have p1 : (i : Int) < (l0.length : Int) := by omega
      have HAL : Aside0 (∀ o : Obj, Below wr.heap.size wr (wr.alloc o)) := ⟨fun o => (Below.refl _ _).alloc (Nat.le_refl _) o⟩
      by_cases hk : f0.toList = ([] : List UInt8)
      · have hke : f0.toList.isEmpty = true := List.isEmpty_iff.2 hk
        have HND2 := Aside0.mk (show nodesL a1 a2 l0 (i + 1) = nodesL a1 a2 l0 i by rw [HND.out]; unfold nodeL; rw [if_pos hk, List.append_nil])
        have hkb : (f0.toList == ([] : List UInt8)) = true := beq_iff_eq.2 hk
        clear hk
        go_wp2
        go_roundg (gk - 1)
        case measure => have := HM.out; omega
        case rel => exact ⟨i + 1, by go_num, by omega, by have := HM.out; show _ = _; omega, ⟨by rw [HND2.out]; exact Kd.R_below HO.out (HAL.out _)⟩, ⟨HB.out.trans ((HAL.out _).mono HB.out.size)⟩⟩
      · have hke : f0.toList.isEmpty = false := Bool.eq_false_iff.2 (fun h_ => hk (List.isEmpty_iff.1 h_))
        have hkb : (f0.toList == ([] : List UInt8)) = false := beq_eq_false_iff_ne.2 hk
        have HK := Aside0.mk hk
        clear hk
        cases a2
        · have HND2 := Aside0.mk (show nodesL a1 false l0 (i + 1) = nodesL a1 false l0 i ++ [⟨f0, f1, wrap64 (f2 + a1)⟩] by rw [HND.out]; unfold nodeL; rw [if_neg HK.out, if_neg (by decide)])
          go_wp2_with (first | ((with_reducible refine gate_builtin (b := .append) (xs := #[.tmp 27, .tmp 29]) rfl ?_); at_builtin; refine Kd.R_append k29 (w0 := w) w.heap.size rfl (.tmp 27) (.tmp 29) 26 29 (.agg #[(.string ⟨#[]⟩), (.string ⟨#[]⟩), (.int .i64 0)]) 40 rfl Tryz.underlying26 info29 rfl (by decide) (by omega) u7 (nodesL a1 false l0 i) (⟨f0, f1, wrap64 (f2 + a1)⟩ : S29) [.string f0, .string f1, .int .i64 (wrap64 (f2 + a1))] (fun _ => True) (fun _ => False) rfl (by first | (go_simp; done) | (go_simp; rfl)) ?aP (fun _ hk => hk.elim) ?aF ?aO ?aB ?aS ?aL ?_; (case aP => exact k29_mkM _ _ _ _); (case aF => exact fun _ _ => trivial); (case aO => exact Kd.R_below HO.out (HAL.out _)); (case aB => exact HB.out.trans ((HAL.out _).mono HB.out.size)); (case aS => have := HB.out.size; simp; omega); (case aL => have := HLN.out; have := HL.out; omega); intro v8 w8 hR8 hB8 hG8 hA8; have HR8 := Aside0.mk hR8; have HB8 := Aside0.mk hB8; clear hR8 hB8 hG8 hA8))
          go_roundg (gk - 1)
          case measure => have := HM.out; omega
          case rel => exact ⟨i + 1, by go_num, by omega, by have := HM.out; show _ = _; omega, ⟨by rw [HND2.out]; exact HR8.out⟩, HB8⟩
        · have HND2 := Aside0.mk (show nodesL a1 true l0 (i + 1) = nodesL a1 true l0 i ++ [⟨f0, f1, 0⟩] by rw [HND.out]; unfold nodeL; rw [if_neg HK.out, if_pos rfl])
          go_wp2_with (first | ((with_reducible refine gate_builtin (b := .append) (xs := #[.tmp 27, .tmp 29]) rfl ?_); at_builtin; refine Kd.R_append k29 (w0 := w) w.heap.size rfl (.tmp 27) (.tmp 29) 26 29 (.agg #[(.string ⟨#[]⟩), (.string ⟨#[]⟩), (.int .i64 0)]) 40 rfl Tryz.underlying26 info29 rfl (by decide) (by omega) u7 (nodesL a1 true l0 i) (⟨f0, f1, 0⟩ : S29) [.string f0, .string f1, .int .i64 (0)] (fun _ => True) (fun _ => False) rfl (by first | (go_simp; done) | (go_simp; rfl)) ?aP (fun _ hk => hk.elim) ?aF ?aO ?aB ?aS ?aL ?_; (case aP => exact k29_mkM _ _ _ _); (case aF => exact fun _ _ => trivial); (case aO => exact Kd.R_below HO.out (HAL.out _)); (case aB => exact HB.out.trans ((HAL.out _).mono HB.out.size)); (case aS => have := HB.out.size; simp; omega); (case aL => have := HLN.out; have := HL.out; omega); intro v8 w8 hR8 hB8 hG8 hA8; have HR8 := Aside0.mk hR8; have HB8 := Aside0.mk hB8; clear hR8 hB8 hG8 hA8))
          go_roundg (gk - 1)
          case measure => have := HM.out; omega
          case rel => exact ⟨i + 1, by go_num, by omega, by have := HM.out; show _ = _; omega, ⟨by rw [HND2.out]; exact HR8.out⟩, HB8⟩
    · have p1 : ¬ (i : Int) < (l0.length : Int) := by omega
      have hil : i = l0.length := by omega
      subst hil
      go_wp2
      go_ret
      exact ⟨_, rfl, HO.out, HB.out⟩
def laws_nodes9.f (k : Nat) (l0 : List S29) (a1 : Int) (a2 : Bool) : Option (List S29) := if l0.length ≤ 100000 then some (nodesL a1 a2 l0 l0.length) else none
theorem laws_nodes9.mono : ∀ a0 a1 a2 k, LeO (laws_nodes9.f k a0 a1 a2) (laws_nodes9.f (k + 1) a0 a1 a2) := fun a0 a1 a2 k => LeO.refl _
theorem laws_nodes9.calls (k : Nat) (A0 : Option Addr) (c0 : Nat) (l0 : List S29) (a1 : Int) (a2 : Bool) (r : List S29) (w : World) (hr0 : Kd.C k29 w A0 l0.length l0) (hc0 : l0.length ≤ c0) (h : laws_nodes9.f k l0 a1 a2 = some r) :
    Calls Tryz.prog 16 #[.slice A0 l0.length c0, .int .i64 a1, .bool a2] w fun e w' => ∃ v0_, e = .returned v0_ ∧ Kd.R k29 29 w' w.heap.size (fun _ => True) v0_ r ∧ Below w.heap.size w w' := by
  unfold laws_nodes9.f at h
  split at h
  next hl =>
    obtain rfl := Option.some.inj h
    exact nodes9_any A0 c0 l0 a1 a2 w hl hr0
  next => cases h
end Go.Proofs.YtdcaabjkklppjaaGreatFmt.A
