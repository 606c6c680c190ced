import Derived.Test.YtdmeackaiamkcaaGSid
namespace Go.Proofs.Ytdmeackaiamkcaa.A
set_option linter.unusedVariables false
set_option linter.unusedSimpArgs false
open Go.RowKit Go.Lib Go.Sort Go.Proofs.YtdmeackaiamkcaaW.PrintWords Go.Proofs.YtdmeackaiamkcaaW.PrintLast Go.Proofs.YtdmeackaiamkcaaW.PrintMore
section
variable {enc : Nat → Value} {lt : Nat → Nat → Bool} {W0 W : World} {sv : Value} {b q n : Nat} {d : Array Nat}

set_option maxHeartbeats 4000000 in
set_option maxRecDepth 100000 in
theorem ptr_partitionEqual (C : PS enc lt W0 sv b q n) (a z pivot : Nat) (S : Row enc W0 b n d W) (hap : a ≤ pivot) (hpb : pivot < z) (hz : z ≤ n) :
    Calls Try.prog 44 #[.iface 53 (.pointer (some ⟨q, 0, none⟩)), .int .i64 a, .int .i64 z, .int .i64 pivot] W fun e w' => e = .returned (.int .i64 (Sort.partitionEqual lt d a z pivot).1) ∧ Row enc W0 b n (Sort.partitionEqual lt d a z pivot).2 w' := by
  have hn := C.few
  have CC := Aside0.mk C
  clear C
  have mS := S.mS CC.out
  go_enter Try.func44, Try.ntmps44
  go_wp2_with (go_at_call 23; refine (S.swapZ CC.out a pivot _ _ (by omega) (by omega) (by omega) (by omega)).mono ?_; rintro e w1 ⟨rfl, hR⟩)
  clear mS S
  go_loopw [9, 10] (fun vi vj wr => ∃ (i j : Nat) (dk : Array Nat), vi = .int .i64 i ∧ vj = .int .i64 j ∧ a < i ∧ i ≤ j + 1 ∧ j < z ∧ Row enc W0 b n dk wr ∧
      Hid (Sort.partEqLoop lt a i j dk = Sort.partEqLoop lt a (a + 1) (z - 1) (Sort.swp d a pivot))) (fun vi vj _ => (intOf vj).toNat + 1 - (intOf vi).toNat)
  case atStart => exact ⟨a + 1, z - 1, Sort.swp d a pivot, by go_num, by go_num, by omega, by omega, by omega, hR, rfl⟩
  case round =>
    clear hR
    obtain ⟨i, j, dk, rfl, rfl, hai, hij, hjb, hR, AE⟩ := hrel
    go_wp2
    go_loopw [9] (fun vi w1 => ∃ (i' : Nat), vi = .int .i64 i' ∧ i ≤ i' ∧ i' ≤ j + 1 ∧ Row enc W0 b n dk w1 ∧
        Hid (Sort.scanUp (fun x => !lt dk[a]! x) dk j i' = Sort.scanUp (fun x => !lt dk[a]! x) dk j i)) (fun vi _ => j + 1 - (intOf vi).toNat)
    case atStart => exact ⟨i, rfl, Nat.le_refl _, hij, hR, rfl⟩
    case round =>
      clear hR
      obtain ⟨i', rfl, hii, hij', hR, hsc⟩ := hrel
      have mL := hR.mL CC.out
      by_cases hle : i' ≤ j
      · cases hlv : lt dk[a]! dk[i']! with
        | false =>
          go_wp2_with (go_at_call 24; refine (hR.lessZ CC.out a i' hlv _ _ (by omega) (by omega) (by omega) (by omega)).mono ?_; rintro e w1 ⟨rfl, hR1⟩)
          go_roundw
          case rel => exact ⟨i' + 1, by go_num, by omega, by omega, hR1, (scanUp_go (fun x => !lt dk[a]! x) dk j i' hle (by simp [hlv])).symm.trans hsc.out⟩
          case measure => simp [intOf]; omega
        | true =>
          have hi2 : Hid (i' = Sort.scanUp (fun x => !lt dk[a]! x) dk j i) := (scanUp_end (fun x => !lt dk[a]! x) dk j i' (Or.inr (by simp [hlv]))).symm.trans hsc.out
          go_wp2_with (go_at_call 24; refine (hR.lessZ CC.out a i' hlv _ _ (by omega) (by omega) (by omega) (by omega)).mono ?_; rintro e w1 ⟨rfl, hR1⟩)
          clear hsc mL hR
          go_loopw [10] (fun vj w2 => ∃ (j' : Nat), vj = .int .i64 j' ∧ j' ≤ j ∧ i' ≤ j' + 1 ∧ Row enc W0 b n dk w2 ∧
              Hid (Sort.scanDown (fun x => lt dk[a]! x) dk i' j' = Sort.scanDown (fun x => lt dk[a]! x) dk i' j)) (fun vj _ => (intOf vj).toNat)
          case atStart => exact ⟨j, rfl, Nat.le_refl _, hij', hR1, rfl⟩
          case round =>
            clear hR1
            obtain ⟨j', rfl, hjj, hij2, hR, hsd⟩ := hrel
            have mL := hR.mL CC.out
            by_cases hle2 : i' ≤ j'
            · cases hlv2 : lt dk[a]! dk[j']! with
              | true =>
                go_wp2_with (go_at_call 24; refine (hR.lessZ CC.out a j' hlv2 _ _ (by omega) (by omega) (by omega) (by omega)).mono ?_; rintro e w1 ⟨rfl, hR1⟩)
                go_roundw
                case rel => exact ⟨j' - 1, by go_num, by omega, by omega, hR1, (scanDown_go (fun x => lt dk[a]! x) dk i' j' hle2 (by omega) (by simp [hlv2])).symm.trans hsd.out⟩
                case measure => simp [intOf]; omega
              | false =>
                have hj2 : Hid (j' = Sort.scanDown (fun x => lt dk[a]! x) dk i' j) := (scanDown_end (fun x => lt dk[a]! x) dk i' j' (Or.inr (by simp [hlv2]))).symm.trans hsd.out
                have hlt3 := scans_lt lt a i j dk (by omega) hi2.out hj2.out hle2
                go_wp2_with (first
                  | (go_at_call 24; refine (hR.lessZ CC.out a j' hlv2 _ _ (by omega) (by omega) (by omega) (by omega)).mono ?_; rintro e w1 ⟨rfl, hR1⟩; have mS1 := hR1.mS CC.out)
                  | (go_at_call 23; refine (hR1.swapZ CC.out i' j' _ _ (by omega) (by omega) (by omega) (by omega)).mono ?_; rintro e w2 ⟨rfl, hR2⟩))
                go_roundw
                case rel => exact ⟨i' + 1, j' - 1, Sort.swp dk i' j', by go_num, by go_num, by omega, by omega, by omega, hR2, by show _ = _; rw [← AE.out]; exact (partEq_go lt a i j dk hi2.out hj2.out (by omega)).symm⟩
                case measure => simp [intOf]; omega
            · have hj2 : Hid (j' = Sort.scanDown (fun x => lt dk[a]! x) dk i' j) := (scanDown_end (fun x => lt dk[a]! x) dk i' j' (Or.inl hle2)).symm.trans hsd.out
              clear mL
              have mS := hR.mS CC.out
              go_wp2
              go_ret
              have e := partEq_break lt a i j dk hi2.out hj2.out (by omega)
              unfold Sort.partitionEqual
              rw [← AE.out, e]
              exact ⟨rfl, hR⟩
      · have hi2 : Hid (i' = Sort.scanUp (fun x => !lt dk[a]! x) dk j i) := (scanUp_end (fun x => !lt dk[a]! x) dk j i' (Or.inl hle)).symm.trans hsc.out
        go_wp2
        clear hsc mL
        go_loopw [10] (fun vj w2 => ∃ (j' : Nat), vj = .int .i64 j' ∧ j' ≤ j ∧ i' ≤ j' + 1 ∧ Row enc W0 b n dk w2 ∧
            Hid (Sort.scanDown (fun x => lt dk[a]! x) dk i' j' = Sort.scanDown (fun x => lt dk[a]! x) dk i' j)) (fun vj _ => (intOf vj).toNat)
        case atStart => exact ⟨j, rfl, Nat.le_refl _, hij', hR, rfl⟩
        case round =>
          clear hR
          obtain ⟨j', rfl, hjj, hij2, hR, hsd⟩ := hrel
          have mL := hR.mL CC.out
          by_cases hle2 : i' ≤ j'
          · exfalso; omega
          · have hj2 : Hid (j' = Sort.scanDown (fun x => lt dk[a]! x) dk i' j) := (scanDown_end (fun x => lt dk[a]! x) dk i' j' (Or.inl hle2)).symm.trans hsd.out
            clear mL
            have mS := hR.mS CC.out
            go_wp2
            go_ret
            have e := partEq_break lt a i j dk hi2.out hj2.out (by omega)
            unfold Sort.partitionEqual
            rw [← AE.out, e]
            exact ⟨rfl, hR⟩

set_option maxHeartbeats 8000000 in
set_option maxRecDepth 100000 in
theorem ptr_partition (C : PS enc lt W0 sv b q n) (a z pivot : Nat) (S : Row enc W0 b n d W) (hap : a ≤ pivot) (hpb : pivot < z) (hz : z ≤ n) :
    Calls Try.prog 45 #[.iface 53 (.pointer (some ⟨q, 0, none⟩)), .int .i64 a, .int .i64 z, .int .i64 pivot] W fun e w' => e = .returned (.tuple #[.int .i64 (Sort.partition lt d a z pivot).1, .bool (Sort.partition lt d a z pivot).2.1]) ∧ Row enc W0 b n (Sort.partition lt d a z pivot).2.2 w' := by
  have hn := C.few
  have CC := Aside0.mk C
  clear C
  have mS := S.mS CC.out
  obtain ⟨i, hi⟩ : ∃ i : Nat, i = a + 1 := ⟨_, rfl⟩
  obtain ⟨j, hj⟩ : ∃ j : Nat, j = z - 1 := ⟨_, rfl⟩
  obtain ⟨dk, hdk⟩ : ∃ dk : Array Nat, dk = Sort.swp d a pivot := ⟨_, rfl⟩
  have hai : a < i := by omega
  have hij : i ≤ j + 1 := by omega
  have hjb : j < z := by omega
  have hs0 := S.swapZ CC.out a pivot (a : Int) (pivot : Int) (by omega) (by omega) (by omega) (by omega)
  rw [← hdk] at hs0
  have Hi : Hid (i = a + 1) := hi
  have Hj : Hid (j = z - 1) := hj
  have Hdk : Hid (dk = Sort.swp d a pivot) := hdk
  clear hi hj hdk S
  go_enter Try.func45, Try.ntmps45
  go_wp2_with (go_at_call 23; refine hs0.mono ?_; rintro e W1 ⟨rfl, hR⟩)
  rw [show ((a : Int) + 1) = (i : Int) by have := Hi.out; omega, show ((z : Int) - 1) = (j : Int) by have := Hj.out; omega]
  clear mS hs0
  go_loopw [10] (fun vi w1 => ∃ (i' : Nat), vi = .int .i64 i' ∧ i ≤ i' ∧ i' ≤ j + 1 ∧ Row enc W0 b n dk w1 ∧
      Hid (Sort.scanUp (fun x => lt x dk[a]!) dk j i' = Sort.scanUp (fun x => lt x dk[a]!) dk j i)) (fun vi _ => j + 1 - (intOf vi).toNat)
  case atStart => exact ⟨i, rfl, Nat.le_refl _, hij, hR, rfl⟩
  case round =>
    clear hR
    obtain ⟨i', rfl, hii, hij', hR, hsc⟩ := hrel
    have mL := hR.mL CC.out
    by_cases hle : i' ≤ j
    · cases hlv : lt dk[i']! dk[a]! with
      | true =>
        go_wp2_with (go_at_call 24; refine (hR.lessZ CC.out i' a hlv _ _ (by omega) (by omega) (by omega) (by omega)).mono ?_; rintro e w1 ⟨rfl, hR1⟩)
        go_roundw
        case rel => exact ⟨i' + 1, by go_num, by omega, by omega, hR1, (scanUp_go (fun x => lt x dk[a]!) dk j i' hle (by simp [hlv])).symm.trans hsc.out⟩
        case measure => simp [intOf]; omega
      | false =>
        have hi2 : Hid (i' = Sort.scanUp (fun x => lt x dk[a]!) dk j i) := (scanUp_end (fun x => lt x dk[a]!) dk j i' (Or.inr (by simp [hlv]))).symm.trans hsc.out
        go_wp2_with (go_at_call 24; refine (hR.lessZ CC.out i' a hlv _ _ (by omega) (by omega) (by omega) (by omega)).mono ?_; rintro e w1 ⟨rfl, hR1⟩)
        clear hsc mL hR
        go_loopw [11] (fun vj w2 => ∃ (j' : Nat), vj = .int .i64 j' ∧ j' ≤ j ∧ i' ≤ j' + 1 ∧ Row enc W0 b n dk w2 ∧
            Hid (Sort.scanDown (fun x => !lt x dk[a]!) dk i' j' = Sort.scanDown (fun x => !lt x dk[a]!) dk i' j)) (fun vj _ => (intOf vj).toNat)
        case atStart => exact ⟨j, rfl, Nat.le_refl _, hij', hR1, rfl⟩
        case round =>
          clear hR1
          obtain ⟨j', rfl, hjj, hij2, hR, hsd⟩ := hrel
          have mL := hR.mL CC.out
          by_cases hle2 : i' ≤ j'
          · cases hlv2 : lt dk[j']! dk[a]! with
            | false =>
              go_wp2_with (go_at_call 24; refine (hR.lessZ CC.out j' a hlv2 _ _ (by omega) (by omega) (by omega) (by omega)).mono ?_; rintro e w1 ⟨rfl, hR1⟩)
              go_roundw
              case rel => exact ⟨j' - 1, by go_num, by omega, by omega, hR1, (scanDown_go (fun x => !lt x dk[a]!) dk i' j' hle2 (by omega) (by simp [hlv2])).symm.trans hsd.out⟩
              case measure => simp [intOf]; omega
            | true =>
              have hj2 : Hid (j' = Sort.scanDown (fun x => !lt x dk[a]!) dk i' j) := (scanDown_end (fun x => !lt x dk[a]!) dk i' j' (Or.inr (by simp [hlv2]))).symm.trans hsd.out
              have hlt3 := part_scans_lt lt a i j dk (by omega) hi2.out hj2.out hle2
              go_wp2_with (first
                | (go_at_call 24; refine (hR.lessZ CC.out j' a hlv2 _ _ (by omega) (by omega) (by omega) (by omega)).mono ?_; rintro e w1 ⟨rfl, hR1⟩; have mS1 := hR1.mS CC.out)
                | (go_at_call 23; refine (hR1.swapZ CC.out i' j' _ _ (by omega) (by omega) (by omega) (by omega)).mono ?_; rintro e w2 ⟨rfl, hR2⟩))
              (try rw [decide_eq_false (show ¬ j' < i' by omega)])
              obtain ⟨I0, hI0⟩ : ∃ I0 : Nat, I0 = i' + 1 := ⟨_, rfl⟩
              obtain ⟨J0, hJ0⟩ : ∃ J0 : Nat, J0 = j' - 1 := ⟨_, rfl⟩
              obtain ⟨D0, hD0⟩ : ∃ D0 : Array Nat, D0 = Sort.swp dk i' j' := ⟨_, rfl⟩
              have PF : Hid (Sort.partition lt d a z pivot = ((Sort.partLoop lt a I0 J0 D0).1, false, Sort.swp (Sort.partLoop lt a I0 J0 D0).2 (Sort.partLoop lt a I0 J0 D0).1 a)) := by
                rw [hI0, hJ0, hD0]; exact part_first_go lt d a z pivot Hi.out Hj.out Hdk.out hi2.out hj2.out (by omega)
              clear mL mS1 hR hR1
              go_loopw [10, 11] (fun vi vj wr => ∃ (i j : Nat) (dk : Array Nat), vi = .int .i64 i ∧ vj = .int .i64 j ∧ a < i ∧ i ≤ j + 1 ∧ j < z ∧ Row enc W0 b n dk wr ∧
                  Hid (Sort.partLoop lt a i j dk = Sort.partLoop lt a I0 J0 D0)) (fun vi vj _ => (intOf vj).toNat + 1 - (intOf vi).toNat)
              case atStart => exact ⟨i' + 1, j' - 1, Sort.swp dk i' j', by go_num, by go_num, by omega, by omega, by omega, hR2, by show _ = _; rw [hI0, hJ0, hD0]⟩
              case round =>
                clear hI0 hJ0 hD0 hj2 hi2 hlt3 Hi Hj Hdk hR2 hsd
                obtain ⟨i, j, dk, rfl, rfl, hai, hij, hjb, hR, AE⟩ := hrel
                go_wp2
                go_loopw [10] (fun vi w1 => ∃ (i' : Nat), vi = .int .i64 i' ∧ i ≤ i' ∧ i' ≤ j + 1 ∧ Row enc W0 b n dk w1 ∧
                    Hid (Sort.scanUp (fun x => lt x dk[a]!) dk j i' = Sort.scanUp (fun x => lt x dk[a]!) dk j i)) (fun vi _ => j + 1 - (intOf vi).toNat)
                case atStart => exact ⟨i, rfl, Nat.le_refl _, hij, hR, rfl⟩
                case round =>
                  clear hR
                  obtain ⟨i', rfl, hii, hij', hR, hsc⟩ := hrel
                  have mL := hR.mL CC.out
                  by_cases hle : i' ≤ j
                  · cases hlv : lt dk[i']! dk[a]! with
                    | true =>
                      go_wp2_with (go_at_call 24; refine (hR.lessZ CC.out i' a hlv _ _ (by omega) (by omega) (by omega) (by omega)).mono ?_; rintro e w1 ⟨rfl, hR1⟩)
                      go_roundw
                      case rel => exact ⟨i' + 1, by go_num, by omega, by omega, hR1, (scanUp_go (fun x => lt x dk[a]!) dk j i' hle (by simp [hlv])).symm.trans hsc.out⟩
                      case measure => simp [intOf]; omega
                    | false =>
                      have hi2 : Hid (i' = Sort.scanUp (fun x => lt x dk[a]!) dk j i) := (scanUp_end (fun x => lt x dk[a]!) dk j i' (Or.inr (by simp [hlv]))).symm.trans hsc.out
                      go_wp2_with (go_at_call 24; refine (hR.lessZ CC.out i' a hlv _ _ (by omega) (by omega) (by omega) (by omega)).mono ?_; rintro e w1 ⟨rfl, hR1⟩)
                      clear hsc mL hR
                      go_loopw [11] (fun vj w2 => ∃ (j' : Nat), vj = .int .i64 j' ∧ j' ≤ j ∧ i' ≤ j' + 1 ∧ Row enc W0 b n dk w2 ∧
                          Hid (Sort.scanDown (fun x => !lt x dk[a]!) dk i' j' = Sort.scanDown (fun x => !lt x dk[a]!) dk i' j)) (fun vj _ => (intOf vj).toNat)
                      case atStart => exact ⟨j, rfl, Nat.le_refl _, hij', hR1, rfl⟩
                      case round =>
                        clear hR1
                        obtain ⟨j', rfl, hjj, hij2, hR, hsd⟩ := hrel
                        have mL := hR.mL CC.out
                        by_cases hle2 : i' ≤ j'
                        · cases hlv2 : lt dk[j']! dk[a]! with
                          | false =>
                            go_wp2_with (go_at_call 24; refine (hR.lessZ CC.out j' a hlv2 _ _ (by omega) (by omega) (by omega) (by omega)).mono ?_; rintro e w1 ⟨rfl, hR1⟩)
                            go_roundw
                            case rel => exact ⟨j' - 1, by go_num, by omega, by omega, hR1, (scanDown_go (fun x => !lt x dk[a]!) dk i' j' hle2 (by omega) (by simp [hlv2])).symm.trans hsd.out⟩
                            case measure => simp [intOf]; omega
                          | true =>
                            have hj2 : Hid (j' = Sort.scanDown (fun x => !lt x dk[a]!) dk i' j) := (scanDown_end (fun x => !lt x dk[a]!) dk i' j' (Or.inr (by simp [hlv2]))).symm.trans hsd.out
                            have hlt3 := part_scans_lt lt a i j dk (by omega) hi2.out hj2.out hle2
                            go_wp2_with (first
                              | (go_at_call 24; refine (hR.lessZ CC.out j' a hlv2 _ _ (by omega) (by omega) (by omega) (by omega)).mono ?_; rintro e w1 ⟨rfl, hR1⟩; have mS1 := hR1.mS CC.out)
                              | (go_at_call 23; refine (hR1.swapZ CC.out i' j' _ _ (by omega) (by omega) (by omega) (by omega)).mono ?_; rintro e w2 ⟨rfl, hR2⟩))
                            go_roundw
                            case rel => exact ⟨i' + 1, j' - 1, Sort.swp dk i' j', by go_num, by go_num, by omega, by omega, by omega, hR2, by show _ = _; rw [← AE.out]; exact (part_go lt a i j dk hi2.out hj2.out (by omega)).symm⟩
                            case measure => simp [intOf]; omega
                        · have hj2 : Hid (j' = Sort.scanDown (fun x => !lt x dk[a]!) dk i' j) := (scanDown_end (fun x => !lt x dk[a]!) dk i' j' (Or.inl hle2)).symm.trans hsd.out
                          clear mL
                          have mS := hR.mS CC.out
                          go_wp2_with (go_at_call 23; refine (hR.swapZ CC.out j' a _ _ (by omega) (by omega) (by omega) (by omega)).mono ?_; rintro e w1 ⟨rfl, hR1⟩)
                          go_ret2
                          have e := part_break lt a i j dk hi2.out hj2.out (by omega)
                          rw [PF.out, ← AE.out, e]
                          exact ⟨rfl, hR1⟩
                  · have hi2 : Hid (i' = Sort.scanUp (fun x => lt x dk[a]!) dk j i) := (scanUp_end (fun x => lt x dk[a]!) dk j i' (Or.inl hle)).symm.trans hsc.out
                    go_wp2
                    clear hsc mL
                    go_loopw [11] (fun vj w2 => ∃ (j' : Nat), vj = .int .i64 j' ∧ j' ≤ j ∧ i' ≤ j' + 1 ∧ Row enc W0 b n dk w2 ∧
                        Hid (Sort.scanDown (fun x => !lt x dk[a]!) dk i' j' = Sort.scanDown (fun x => !lt x dk[a]!) dk i' j)) (fun vj _ => (intOf vj).toNat)
                    case atStart => exact ⟨j, rfl, Nat.le_refl _, hij', hR, rfl⟩
                    case round =>
                      clear hR
                      obtain ⟨j', rfl, hjj, hij2, hR, hsd⟩ := hrel
                      have mL := hR.mL CC.out
                      by_cases hle2 : i' ≤ j'
                      · exfalso; omega
                      · have hj2 : Hid (j' = Sort.scanDown (fun x => !lt x dk[a]!) dk i' j) := (scanDown_end (fun x => !lt x dk[a]!) dk i' j' (Or.inl hle2)).symm.trans hsd.out
                        clear mL
                        have mS := hR.mS CC.out
                        go_wp2_with (go_at_call 23; refine (hR.swapZ CC.out j' a _ _ (by omega) (by omega) (by omega) (by omega)).mono ?_; rintro e w1 ⟨rfl, hR1⟩)
                        go_ret2
                        have e := part_break lt a i j dk hi2.out hj2.out (by omega)
                        rw [PF.out, ← AE.out, e]
                        exact ⟨rfl, hR1⟩
          · have hj2 : Hid (j' = Sort.scanDown (fun x => !lt x dk[a]!) dk i' j) := (scanDown_end (fun x => !lt x dk[a]!) dk i' j' (Or.inl hle2)).symm.trans hsd.out
            clear mL
            have mS := hR.mS CC.out
            go_wp2_with (go_at_call 23; refine (hR.swapZ CC.out j' a _ _ (by omega) (by omega) (by omega) (by omega)).mono ?_; rintro e w1 ⟨rfl, hR1⟩)
            go_ret2
            have e := part_first_break lt d a z pivot Hi.out Hj.out Hdk.out hi2.out hj2.out (by omega)
            rw [e]
            exact ⟨rfl, hR1⟩
    · have hi2 : Hid (i' = Sort.scanUp (fun x => lt x dk[a]!) dk j i) := (scanUp_end (fun x => lt x dk[a]!) dk j i' (Or.inl hle)).symm.trans hsc.out
      go_wp2
      clear hsc mL
      go_loopw [11] (fun vj w2 => ∃ (j' : Nat), vj = .int .i64 j' ∧ j' ≤ j ∧ i' ≤ j' + 1 ∧ Row enc W0 b n dk w2 ∧
          Hid (Sort.scanDown (fun x => !lt x dk[a]!) dk i' j' = Sort.scanDown (fun x => !lt x dk[a]!) dk i' j)) (fun vj _ => (intOf vj).toNat)
      case atStart => exact ⟨j, rfl, Nat.le_refl _, hij', hR, rfl⟩
      case round =>
        clear hR
        obtain ⟨j', rfl, hjj, hij2, hR, hsd⟩ := hrel
        have mL := hR.mL CC.out
        by_cases hle2 : i' ≤ j'
        · exfalso; omega
        · have hj2 : Hid (j' = Sort.scanDown (fun x => !lt x dk[a]!) dk i' j) := (scanDown_end (fun x => !lt x dk[a]!) dk i' j' (Or.inl hle2)).symm.trans hsd.out
          clear mL
          have mS := hR.mS CC.out
          go_wp2_with (go_at_call 23; refine (hR.swapZ CC.out j' a _ _ (by omega) (by omega) (by omega) (by omega)).mono ?_; rintro e w1 ⟨rfl, hR1⟩)
          go_ret2
          have e := part_first_break lt d a z pivot Hi.out Hj.out Hdk.out hi2.out hj2.out (by omega)
          rw [e]
          exact ⟨rfl, hR1⟩
end
end Go.Proofs.Ytdmeackaiamkcaa.A
