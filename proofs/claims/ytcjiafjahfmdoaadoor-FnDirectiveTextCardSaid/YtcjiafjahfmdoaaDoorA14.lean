-- Written by a program of this session (gprint.py) out of the kit's print of the translation. Not trusted: Lean checks it.
import Derived.Test.YtcjiafjahfmdoaaDoorA0
import Derived.Test.YtcjiafjahfmdoaaDoorA2
import Derived.Test.YtcjiafjahfmdoaaDoorGTC
namespace Go.Proofs.YtcjiafjahfmdoaaDoor.A
open Go.RowKit Go.Proofs.YtcjiafjahfmdoaaDoorW.PrintWords Go.Proofs.YtcjiafjahfmdoaaDoorW.PrintLast Go.Proofs.YtcjiafjahfmdoaaDoorW.PrintMore
attribute [local go_sem] max2_int min2_int max_two min_two max_three min_three max_four min_four   -- for this text's walks alone
set_option linter.unusedVariables false
set_option linter.unusedSimpArgs false

-- GIVEN: function 17 (spec_TextComments)

/-! ### spec_IsComment: function 8 -/
def spec_IsComment.f (k : Nat) (a0 : ByteArray) : Option (Bool) := (spec_TextComments.f k a0).bind fun bt164 => (if bt164.2 = true then (if (bt164.1.length : Int) = 1 then (if 0 < (bt164.1.length : Int) then (if (rdOf ByteArray.empty bt164.1 0).toList = a0.toList then ((spec_isPlain.f k a0).bind fun t169 => (some t169)) else (some false)) else (none)) else (some false)) else (some false))
theorem spec_IsComment.mono : ∀ a0 k, LeO (spec_IsComment.f k a0) (spec_IsComment.f (k + 1) a0) := by
  intro a0 k
  unfold spec_IsComment.f
  repeat' first
      | (with_reducible exact spec_TextComments.mono _ _)
      | (with_reducible exact spec_isPlain.mono _ _)
      | (with_reducible exact LeO.refl _)
      | (with_reducible exact LeO.none _)
      | (with_reducible refine LeO.ite ?_ ?_)
      | (with_reducible refine LeO.bind ?_ (fun _ => ?_))
      | exact spec_TextComments.mono _ _
      | exact spec_isPlain.mono _ _
      | exact LeO.none _
      | refine LeO.ite ?_ ?_
      | refine LeO.bind ?_ (fun _ => ?_)
set_option maxHeartbeats 8000000 in
set_option maxRecDepth 100000 in
theorem spec_IsComment.calls (k : Nat) (a0 : ByteArray) (r : Bool) (w : World) (h : spec_IsComment.f k a0 = some r) :
    Calls Tryd.prog 8 #[.string a0] w fun e w' => e = .returned (.bool r) ∧ Below w.heap.size w w' := by
  have HB := Aside0.mk (Below.refl w.heap.size w)
  have H : ((spec_TextComments.f k a0).bind fun bt164 => (if bt164.2 = true then (if (bt164.1.length : Int) = 1 then (if 0 < (bt164.1.length : Int) then (if (rdOf ByteArray.empty bt164.1 0).toList = a0.toList then ((spec_isPlain.f k a0).bind fun t169 => (some t169)) else (some false)) else (none)) else (some false)) else (some false))) = some r := h
  clear h
  replace H := Option.bind_eq_some_iff.mp H
  obtain ⟨⟨t164, t165⟩, A20, H⟩ := H
  replace H : (if t165 = true then (if (t164.length : Int) = 1 then (if 0 < (t164.length : Int) then (if (rdOf ByteArray.empty t164 0).toList = a0.toList then ((spec_isPlain.f k a0).bind fun t169 => (some t169)) else (some false)) else (none)) else (some false)) else (some false)) = some r := H
  have A2 := Aside0.mk A20
  clear A20
  by_cases c3 : t165 = true
  · subst c3
    have H1 : (if (t164.length : Int) = 1 then (if 0 < (t164.length : Int) then (if (rdOf ByteArray.empty t164 0).toList = a0.toList then ((spec_isPlain.f k a0).bind fun t169 => (some t169)) else (some false)) else (none)) else (some false)) = some r := by rw [if_pos rfl] at H; exact H
    clear H
    have H := H1
    clear H1
    by_cases c4 : (t164.length : Int) = 1
    · rw [if_pos c4] at H
      have c4b0 : ((t164.length : Int) == 1) = true := beq_iff_eq.mpr c4
      have c4b1 : ((t164.length : Int) != 1) = false := bne_eq_false_iff_eq.mpr c4
      clear c4
      by_cases c5 : 0 < (t164.length : Int)
      · rw [if_pos c5] at H
        have c5b0 : decide (0 < (t164.length : Int)) = true := decide_eq_true c5
        have c5b1 : decide (0 < t164.length) = true := decide_eq_true (by omega)
        clear c5
        by_cases c6 : (rdOf ByteArray.empty t164 0).toList = a0.toList
        · rw [if_pos c6] at H
          have c6b0 : ((rdOf ByteArray.empty t164 0).toList == a0.toList) = true := beq_iff_eq.mpr c6
          have c6b1 : ((rdOf ByteArray.empty t164 0).toList != a0.toList) = false := bne_eq_false_iff_eq.mpr c6
          clear c6
          replace H := Option.bind_eq_some_iff.mp H
          obtain ⟨t169, A70, H⟩ := H
          replace H : (some t169) = some r := H
          have A7 := Aside0.mk A70
          clear A70
          obtain rfl := Option.some.inj H
          go_enter Tryd.func8, Tryd.ntmps8
          go_wp2_with (first | ((with_reducible refine gate_callee (f := 17) rfl ?_); refine goesL_ (some 7) rfl rfl Tryd.func17 (by kernel_rfl) rfl #[.string a0] rfl (by (try simp only [List.map_toArray, List.map_cons, List.map_nil]); first | done | rfl | (simp only [List.length_drop, List.length_take]; rfl)) ?_; (with_reducible refine (spec_TextComments.calls k a0 t164 true _ A2.out).mono ?_); rintro e w8 ⟨v166, rfl, ho0, hb⟩; refine ⟨_, rfl, ?_⟩; have n0_ := Aside0.mk (Kd.R_lower ho0 (below_size (by repeat (first | (with_reducible first | exact HB.out | apply below_alloc | apply pw_below_drewN | apply below_drew1) | exact HB.out)))); have n1_ := Aside0.mk (below_step (by repeat (first | (with_reducible first | exact HB.out | apply below_alloc | apply pw_below_drewN | apply below_drew1) | exact HB.out)) hb); clear HB; have HO167 := n0_; have HB := n1_; clear n0_ n1_; (try clear hb); (try clear hb2); (try clear hk); (try clear hi); (try clear ho0); obtain ⟨Ao9, co9, eo9⟩ := Kd.R_slice HO167.out; subst eo9; have p168 : 0 ≤ (0 : Int) := (by omega); have q168 : 0 < (t164.length : Int) := of_decide_eq_true (by first | (with_reducible assumption) | assumption); obtain ⟨ad168, e168, hx168_0⟩ := Kd.at_string (Kd.R_reads' HO167.out).2.2 0 p168 q168; cases e168; have qi168 : (0 < t164.length) = True := eq_true (by omega); (try rw [show ((0 : Int)).toNat = 0 from rfl] at hx168_0); (try rw [Addr.add_zero'] at hx168_0); replace p168 := eq_true p168; replace q168 := eq_true q168) | (go_at_call 10; (with_reducible refine (spec_isPlain.calls k a0 t169 _ A7.out).mono ?_); rintro e w' ⟨rfl, ⟨nd, rfl⟩⟩))
          go_ret
          exact ⟨by first | rfl | (simp [errW_none, errW_some] <;> rfl) | (simp [*, errW_none, errW_some] <;> rfl), by repeat (first | (with_reducible first | exact HB.out | apply below_alloc | apply pw_below_drewN | apply below_drew1) | exact HB.out)⟩
        · rw [if_neg c6] at H
          have c6b0 : ((rdOf ByteArray.empty t164 0).toList == a0.toList) = false := beq_eq_false_iff_ne.mpr c6
          have c6b1 : ((rdOf ByteArray.empty t164 0).toList != a0.toList) = true := bne_iff_ne.mpr c6
          obtain rfl := Option.some.inj H
          go_enter Tryd.func8, Tryd.ntmps8
          go_wp2_with (first | ((with_reducible refine gate_callee (f := 17) rfl ?_); refine goesL_ (some 7) rfl rfl Tryd.func17 (by kernel_rfl) rfl #[.string a0] rfl (by (try simp only [List.map_toArray, List.map_cons, List.map_nil]); first | done | rfl | (simp only [List.length_drop, List.length_take]; rfl)) ?_; (with_reducible refine (spec_TextComments.calls k a0 t164 true _ A2.out).mono ?_); rintro e w10 ⟨v166, rfl, ho0, hb⟩; refine ⟨_, rfl, ?_⟩; have n0_ := Aside0.mk (Kd.R_lower ho0 (below_size (by repeat (first | (with_reducible first | exact HB.out | apply below_alloc | apply pw_below_drewN | apply below_drew1) | exact HB.out)))); have n1_ := Aside0.mk (below_step (by repeat (first | (with_reducible first | exact HB.out | apply below_alloc | apply pw_below_drewN | apply below_drew1) | exact HB.out)) hb); clear HB; have HO167 := n0_; have HB := n1_; clear n0_ n1_; (try clear hb); (try clear hb2); (try clear hk); (try clear hi); (try clear ho0); obtain ⟨Ao11, co11, eo11⟩ := Kd.R_slice HO167.out; subst eo11; have p168 : 0 ≤ (0 : Int) := (by omega); have q168 : 0 < (t164.length : Int) := of_decide_eq_true (by first | (with_reducible assumption) | assumption); obtain ⟨ad168, e168, hx168_0⟩ := Kd.at_string (Kd.R_reads' HO167.out).2.2 0 p168 q168; cases e168; have qi168 : (0 < t164.length) = True := eq_true (by omega); (try rw [show ((0 : Int)).toNat = 0 from rfl] at hx168_0); (try rw [Addr.add_zero'] at hx168_0); replace p168 := eq_true p168; replace q168 := eq_true q168))
          go_ret
          exact ⟨by first | rfl | (simp [errW_none, errW_some] <;> rfl) | (simp [*, errW_none, errW_some] <;> rfl), by repeat (first | (with_reducible first | exact HB.out | apply below_alloc | apply pw_below_drewN | apply below_drew1) | exact HB.out)⟩
      · rw [if_neg c5] at H
        exact absurd H (by simp)
    · rw [if_neg c4] at H
      have c4b0 : ((t164.length : Int) == 1) = false := beq_eq_false_iff_ne.mpr c4
      have c4b1 : ((t164.length : Int) != 1) = true := bne_iff_ne.mpr c4
      obtain rfl := Option.some.inj H
      go_enter Tryd.func8, Tryd.ntmps8
      go_wp2_with (first | ((with_reducible refine gate_callee (f := 17) rfl ?_); refine goesL_ (some 7) rfl rfl Tryd.func17 (by kernel_rfl) rfl #[.string a0] rfl (by (try simp only [List.map_toArray, List.map_cons, List.map_nil]); first | done | rfl | (simp only [List.length_drop, List.length_take]; rfl)) ?_; (with_reducible refine (spec_TextComments.calls k a0 t164 true _ A2.out).mono ?_); rintro e w12 ⟨v166, rfl, ho0, hb⟩; refine ⟨_, rfl, ?_⟩; have n0_ := Aside0.mk (Kd.R_lower ho0 (below_size (by repeat (first | (with_reducible first | exact HB.out | apply below_alloc | apply pw_below_drewN | apply below_drew1) | exact HB.out)))); have n1_ := Aside0.mk (below_step (by repeat (first | (with_reducible first | exact HB.out | apply below_alloc | apply pw_below_drewN | apply below_drew1) | exact HB.out)) hb); clear HB; have HO167 := n0_; have HB := n1_; clear n0_ n1_; (try clear hb); (try clear hb2); (try clear hk); (try clear hi); (try clear ho0); obtain ⟨Ao13, co13, eo13⟩ := Kd.R_slice HO167.out; subst eo13))
      go_ret
      exact ⟨by first | rfl | (simp [errW_none, errW_some] <;> rfl) | (simp [*, errW_none, errW_some] <;> rfl), by repeat (first | (with_reducible first | exact HB.out | apply below_alloc | apply pw_below_drewN | apply below_drew1) | exact HB.out)⟩
  · replace c3 := Bool.eq_false_iff.mpr c3
    subst c3
    have H1 : (some false) = some r := by rw [if_neg (show ¬ (false = true) by decide)] at H; exact H
    clear H
    have H := H1
    clear H1
    obtain rfl := Option.some.inj H
    go_enter Tryd.func8, Tryd.ntmps8
    go_wp2_with (first | ((with_reducible refine gate_callee (f := 17) rfl ?_); refine goesL_ (some 7) rfl rfl Tryd.func17 (by kernel_rfl) rfl #[.string a0] rfl (by (try simp only [List.map_toArray, List.map_cons, List.map_nil]); first | done | rfl | (simp only [List.length_drop, List.length_take]; rfl)) ?_; (with_reducible refine (spec_TextComments.calls k a0 t164 false _ A2.out).mono ?_); rintro e w14 ⟨v166, rfl, ho0, hb⟩; refine ⟨_, rfl, ?_⟩; have n0_ := Aside0.mk (Kd.R_lower ho0 (below_size (by repeat (first | (with_reducible first | exact HB.out | apply below_alloc | apply pw_below_drewN | apply below_drew1) | exact HB.out)))); have n1_ := Aside0.mk (below_step (by repeat (first | (with_reducible first | exact HB.out | apply below_alloc | apply pw_below_drewN | apply below_drew1) | exact HB.out)) hb); clear HB; have HO167 := n0_; have HB := n1_; clear n0_ n1_; (try clear hb); (try clear hb2); (try clear hk); (try clear hi); (try clear ho0)))
    go_ret
    exact ⟨by first | rfl | (simp [errW_none, errW_some] <;> rfl) | (simp [*, errW_none, errW_some] <;> rfl), by repeat (first | (with_reducible first | exact HB.out | apply below_alloc | apply pw_below_drewN | apply below_drew1) | exact HB.out)⟩

-- NOT PRINTED: function 18 (impl_groupOf)

/-! ### stringslite_HasPrefix: function 52 -/
def stringslite_HasPrefix.f (a0 : ByteArray) (a1 : ByteArray) : Option (Bool) := if (a0.size : Int) ≥ (a1.size : Int) then (if 0 ≤ (a1.size : Int) then (if (a1.size : Int) ≤ (a0.size : Int) then (some ((a0.extract 0 ((a1.size : Int) : Int).toNat).toList == a1.toList)) else (none)) else (none)) else (some false)
set_option maxHeartbeats 8000000 in
set_option maxRecDepth 100000 in
theorem stringslite_HasPrefix.calls (a0 : ByteArray) (a1 : ByteArray) (r : Bool) (w : World) (h : stringslite_HasPrefix.f a0 a1 = some r) :
    Calls Tryd.prog 52 #[.string a0, .string a1] w fun e w' => e = .returned (.bool r) ∧ Drawn0 w w' := by
  have H : (if (a0.size : Int) ≥ (a1.size : Int) then (if 0 ≤ (a1.size : Int) then (if (a1.size : Int) ≤ (a0.size : Int) then (some ((a0.extract 0 ((a1.size : Int) : Int).toNat).toList == a1.toList)) else (none)) else (none)) else (some false)) = some r := h
  clear h
  by_cases c3 : (a0.size : Int) ≥ (a1.size : Int)
  · rw [if_pos c3] at H
    have c3b0 : decide ((a1.size : Int) ≤ (a0.size : Int)) = true := decide_eq_true c3
    have c3b1 : decide (a1.size ≤ a0.size) = true := decide_eq_true (Int.ofNat_le.mp c3)
    clear c3
    by_cases c4 : 0 ≤ (a1.size : Int)
    · rw [if_pos c4] at H
      have c4b0 := eq_true c4
      have c4b1 : decide (0 ≤ (a1.size : Int)) = true := decide_eq_true c4
      clear c4
      by_cases c5 : (a1.size : Int) ≤ (a0.size : Int)
      · rw [if_pos c5] at H
        have c5b0 := eq_true c5
        have c5b1 : decide ((a1.size : Int) ≤ (a0.size : Int)) = true := decide_eq_true c5
        clear c5
        obtain rfl := Option.some.inj H
        go_enter Tryd.func52, Tryd.ntmps52
        go_wp2
        go_ret
        exact ⟨by first | rfl | (simp; done) | (simp [*]; done), by repeat (first | exact Drawn0.refl _ | apply Drawn0.step)⟩
      · rw [if_neg c5] at H
        exact absurd H (by simp)
    · rw [if_neg c4] at H
      exact absurd H (by simp)
  · rw [if_neg c3] at H
    have c3b0 : decide ((a1.size : Int) ≤ (a0.size : Int)) = false := decide_eq_false c3
    have c3b1 : decide (a1.size ≤ a0.size) = false := decide_eq_false (fun h => c3 (Int.ofNat_le.mpr h))
    clear c3
    obtain rfl := Option.some.inj H
    go_enter Tryd.func52, Tryd.ntmps52
    go_wp2
    go_ret
    exact ⟨by first | rfl | (simp; done) | (simp [*]; done), by repeat (first | exact Drawn0.refl _ | apply Drawn0.step)⟩

/-! ### strings_HasPrefix: function 42 -/
def strings_HasPrefix.f (a0 : ByteArray) (a1 : ByteArray) : Option (Bool) := (stringslite_HasPrefix.f a0 a1).bind fun t170 => (some t170)
set_option maxHeartbeats 8000000 in
set_option maxRecDepth 100000 in
theorem strings_HasPrefix.calls (a0 : ByteArray) (a1 : ByteArray) (r : Bool) (w : World) (h : strings_HasPrefix.f a0 a1 = some r) :
    Calls Tryd.prog 42 #[.string a0, .string a1] w fun e w' => e = .returned (.bool r) ∧ Drawn0 w w' := by
  have H : ((stringslite_HasPrefix.f a0 a1).bind fun t170 => (some t170)) = some r := h
  clear h
  replace H := Option.bind_eq_some_iff.mp H
  obtain ⟨t170, A30, H⟩ := H
  replace H : (some t170) = some r := H
  have A3 := Aside0.mk A30
  clear A30
  obtain rfl := Option.some.inj H
  go_enter Tryd.func42, Tryd.ntmps42
  go_wp2_with (first | ((with_reducible refine gate_callee (f := 52) rfl ?_); refine goesL_ (some 7) rfl rfl Tryd.func52 (by kernel_rfl) rfl #[.string a0, .string a1] rfl (by (try simp only [List.map_toArray, List.map_cons, List.map_nil]); first | done | rfl | (simp only [List.length_drop, List.length_take]; rfl)) ?_; (with_reducible refine (stringslite_HasPrefix.calls a0 a1 t170 _ A3.out).mono ?_); rintro e w' ⟨rfl, ⟨nd, rfl⟩⟩; refine ⟨_, rfl, ?_⟩))
  go_ret
  exact ⟨by first | rfl | (simp; done) | (simp [*]; done), by repeat (first | exact Drawn0.refl _ | apply Drawn0.step)⟩

end Go.Proofs.YtcjiafjahfmdoaaDoor.A
