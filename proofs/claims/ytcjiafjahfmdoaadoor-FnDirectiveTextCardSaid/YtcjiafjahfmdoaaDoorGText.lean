/- The text of a group of comments in memory (CommentGroup.Text) is textF of the comments' texts, under its bounds: at most 1000000 comments, at most 1000000000 lines, a text of at most 2^47 bytes. -/
import Derived.Test.YtcjiafjahfmdoaaDoorGTextF
import Derived.Test.YtcjiafjahfmdoaaDoorGGroup
import Derived.Test.YtcjiafjahfmdoaaDoorLays
import Derived.WalkSpells
namespace Go.Proofs.YtcjiafjahfmdoaaDoor.A
set_option linter.unusedVariables false
set_option linter.unusedSimpArgs false
open Go.RowKit Go.Proofs.YtcjiafjahfmdoaaDoorW.PrintWords Go.Proofs.YtcjiafjahfmdoaaDoorW.PrintLast Go.Proofs.YtcjiafjahfmdoaaDoorW.PrintMore
attribute [local go_sem ↓] Go.wp_at_zero Go.wp_at_succ
def noStr : ByteArray := ⟨#[]⟩
/-- The last line of those kept. -/
def lastOf (o : List ByteArray) : ByteArray := rdOf ByteArray.empty o ((o.length : Int) - 1)
/-- The lines that stay: no empty ones ahead of the first, one in the place of several. -/
def comp : List ByteArray → List ByteArray → List ByteArray
  | o, [] => o
  | o, x :: l => if x.toList = ([] : List UInt8) then (if 0 < o.length then (if (lastOf o).toList = ([] : List UInt8) then comp o l else comp (o ++ [x]) l) else comp o l) else comp (o ++ [x]) l
/-- The lines as they are joined. -/
def ended (o : List ByteArray) : List ByteArray := if 0 < o.length then (if (lastOf o).toList = ([] : List UInt8) then o else o ++ [(⟨#[]⟩ : ByteArray)]) else o
def joinF (o : List ByteArray) : Option ByteArray := if (Lib.join (o.map (·.data.toList)) [10]).length ≤ 140737488355328 then some ⟨(Lib.join (o.map (·.data.toList)) [10]).toArray⟩ else none
def textF (k : Nat) (l : List ByteArray) : Option ByteArray := (textLines.f k l).bind fun t => if t.length ≤ 1000000000 then joinF (ended (comp [] t)) else none

theorem fill_step {l : List S25} {n k : Nat} (hn : n = l.length) (h : k < l.length) : ((l.take k).map (·.f1) ++ List.replicate (n - k) noStr).set k (rd_T25 l (k : Int)).f1 = (l.take (k + 1)).map (·.f1) ++ List.replicate (n - (k + 1)) noStr := by
  subst hn
  rw [take25 h, List.map_append]
  obtain ⟨m, hm⟩ : ∃ m, l.length - k = m + 1 := ⟨l.length - k - 1, by omega⟩
  have hm2 : l.length - (k + 1) = m := by omega
  rw [hm, hm2, List.set_append_right _ _ (by simp; omega)]
  have : k - ((l.take k).map (·.f1)).length = 0 := by simp; omega
  rw [this, List.replicate_succ]
  simp
theorem made_zero (w : World) : Kd.R Kd.string 9 (w.alloc (.cells (madeCells #[.string ⟨#[]⟩] 10) 9)) w.heap.size (fun _ => True) (.slice (some ⟨w.heap.size, 0, none⟩) 0 10) [] :=
  Kd.R_of_own (h1 := fun x => rfl) (xs := []) (World.ownsRow_made (size := 1) w (madeCells #[.string ⟨#[]⟩] 10) 10 (Nat.le_refl _) (by unfold maxLen; omega) (by simp [size_madeCells])) (fun _ _ => trivial)
theorem comp_nil (o : List ByteArray) : comp o [] = o := rfl
theorem comp_full {o : List ByteArray} {x : ByteArray} {l : List ByteArray} (h : ¬ x.toList = ([] : List UInt8)) : comp o (x :: l) = comp (o ++ [x]) l := by rw [comp, if_neg h]
theorem comp_none {o : List ByteArray} {x : ByteArray} {l : List ByteArray} (h : x.toList = ([] : List UInt8)) (h0 : ¬ 0 < o.length) : comp o (x :: l) = comp o l := by rw [comp, if_pos h, if_neg h0]
theorem comp_twice {o : List ByteArray} {x : ByteArray} {l : List ByteArray} (h : x.toList = ([] : List UInt8)) (h0 : 0 < o.length) (h1 : (lastOf o).toList = ([] : List UInt8)) : comp o (x :: l) = comp o l := by rw [comp, if_pos h, if_pos h0, if_pos h1]
theorem comp_once {o : List ByteArray} {x : ByteArray} {l : List ByteArray} (h : x.toList = ([] : List UInt8)) (h0 : 0 < o.length) (h1 : ¬ (lastOf o).toList = ([] : List UInt8)) : comp o (x :: l) = comp (o ++ [x]) l := by rw [comp, if_pos h, if_pos h0, if_neg h1]
theorem drop_rd {T M : List ByteArray} {i : Nat} (hi : i < T.length) (hd : M.drop i = T.drop i) : T.drop i = rdOf ByteArray.empty M (i : Int) :: T.drop (i + 1) ∧ M.drop (i + 1) = T.drop (i + 1) := by
  have hl : i < M.length := by
    have := congrArg List.length hd
    simp at this
    omega
  have h1 : M[i] = T[i] := by
    have := congrArg List.head? hd
    rw [List.head?_drop, List.head?_drop] at this
    simpa [hl, hi] using this
  refine ⟨?_, ?_⟩
  · rw [List.drop_eq_getElem_cons hi]
    simp [rdOf, hl, h1]
  · have := congrArg (List.drop 1) hd
    rw [List.drop_drop, List.drop_drop] at this
    exact this
theorem last_take {M : List ByteArray} {n : Nat} (hn : n ≤ M.length) (h0 : 0 < n) : lastOf (M.take n) = rdOf ByteArray.empty M ((n : Int) - 1) := by
  unfold lastOf
  have hl : (M.take n).length = n := by simp; omega
  rw [hl]
  have e : ((n : Int) - 1).toNat = n - 1 := by omega
  unfold rdOf
  rw [e, List.getD_eq_getElem?_getD, List.getD_eq_getElem?_getD, List.getElem?_take, if_pos (by omega)]
theorem set_keep {M : List ByteArray} {n i : Nat} (x : ByteArray) (hi : i < M.length) (hn : n ≤ i) : (M.set n x).take (n + 1) = M.take n ++ [x] ∧ (M.set n x).drop (i + 1) = M.drop (i + 1) := by
  refine ⟨?_, ?_⟩
  · rw [List.take_set, List.take_succ_eq_append_getElem (by omega), List.set_append_right _ _ (by simp; omega)]
    have : n - (M.take n).length = 0 := by simp; omega
    rw [this]
    simp
  · rw [List.drop_set_of_lt (by omega)]
theorem R_front {w : World} {base n m c : Nat} {A : Option Addr} {xs : List ByteArray} (h : Kd.R Kd.string 9 w base (fun _ => True) (.slice A m c) xs) (hn : n ≤ xs.length) : Kd.R Kd.string 9 w base (fun _ => True) (.slice A n c) (xs.take n) := by
  have hm : m = xs.length := (Kd.R_reads' h).1
  subst hm
  have ho := Kd.own_of_R h
  have hl : (xs.take n).length = n := by simp; omega
  refine Kd.R_of_own (h1 := fun x => rfl) ?_ (fun _ _ => trivial)
  rw [hl]
  refine ⟨by simp [encs]; omega, ?_⟩
  rcases ho.2 with ⟨h0, h1⟩ | ⟨g, cap, cur, hv, hb, hh, hc, hc2, hs, ht⟩
  · have : n = 0 := by omega
    subst this
    injection h0 with ha hb hc
    subst ha
    subst hc
    exact .inl ⟨rfl, rfl⟩
  · injection hv with ha hb2 hc3
    subst ha
    subst hc3
    refine .inr ⟨g, c, cur, rfl, hb, hh, by omega, hc2, hs, ?_⟩
    have e : encs Value.string (xs.take n) = (encs Value.string xs).take n := by simp [encs, List.map_take]
    rw [e, ← ht, List.take_take, Nat.min_eq_left (by omega), Nat.mul_one]
theorem join_call {w : World} {base : Nat} {v : Value} {xs : List ByteArray} {r : ByteArray} (h : Kd.R Kd.string 9 w base (fun _ => True) v xs) (hj : joinF xs = some r) (hl : xs.length ≤ 140737488355328) :
    Calls Tryd.prog 36 #[v, .string ⟨#[10]⟩] w fun e w' => e = .returned (.string r) ∧ Below w.heap.size w w' := by
  unfold joinF at hj
  split at hj
  next hb =>
    have hj := (Option.some.inj hj).symm
    obtain ⟨A, c, rfl⟩ := Kd.R_slice h
    obtain ⟨_, hc, hC⟩ := Kd.R_reads' h
    cases A with
    | none =>
      have hx : xs = [] := by
        have ho := Kd.own_of_R h
        rcases ho.2 with ⟨h0, h1⟩ | ⟨g, cap, cur, hv, _⟩
        · exact List.eq_nil_of_length_eq_zero h1
        · cases hv
      subst hx
      subst hj
      refine (Tryd.strings_Join_none none c ⟨#[10]⟩ w).mono ?_
      rintro e w' ⟨rfl, rfl⟩
      exact ⟨rfl, Below.refl _ _⟩
    | some ad =>
      obtain ⟨g, rfl⟩ := Kd.R_head h
      have ho := Kd.own_of_R h
      subst hj
      refine (Tryd.strings_Join g 0 c xs ⟨#[10]⟩ w ?_ (own_lt ho g rfl) hl hc hb).mono ?_
      · intro j x hx
        obtain ⟨hj1, hj2⟩ := List.getElem?_eq_some_iff.1 hx
        have := (own_at_of (d := ByteArray.empty) ho (j : Int) (by omega) (by omega)).1
        rw [Int.toNat_natCast] at this
        rw [Nat.zero_add, this]
        simp [rdOf, hj1, hj2]
      · rintro e w' ⟨rfl, hb'⟩
        exact ⟨rfl, hb'⟩
  next => cases hj

set_option maxHeartbeats 16000000 in
set_option maxRecDepth 100000 in
theorem groupText_any (g base : Nat) (v : Value) (ps : List Nat) (l : List S25) (K : Nat) (r : ByteArray) (w : World) (G : Grp w base g v ps l) (hlen : l.length ≤ 1000000) (h : textF K (l.map (·.f1)) = some r) :
    Calls Tryd.prog 19 #[.pointer (some ⟨g, 0, none⟩)] w fun e w' => e = .returned (.string r) ∧ Below w.heap.size w w' := by
  obtain ⟨A, c, rfl⟩ := own_slice G.own
  obtain ⟨n, hn⟩ : ∃ n, n = l.length := ⟨_, rfl⟩
  have hg0 : w.cell? ⟨g, 0, none⟩ = some (.slice A n c) := by rw [hn]; exact (blk_cell G.blk 0).trans rfl
  have hgo := blk_lt G.blk
  have hmk := print_make_of (P := Tryd.prog) 29 9 (.string ⟨#[]⟩) 16 Tryd.underlying29 info9 rfl (by decide) n (by omega)
  have hmk0 : ∀ W : World, (Instr.makeSlice 29 (.int .i64 0) (.int .i64 10)).run Tryd.prog W = .ok (.slice (some ⟨W.heap.size, 0, none⟩) 0 10) (W.alloc (.cells (madeCells #[.string ⟨#[]⟩] 10) 9)) := fun W => by kernel_rfl
  have HG := Aside0.mk G
  have HH := Aside0.mk h
  have HN := Aside0.mk hn
  rw [← hn] at hlen
  clear G h hn
  go_enter Tryd.func19, Tryd.ntmps19
  go_wp2
  go_loopg [28] n (fun kq v28 w' => ∃ k : Nat, v28 = .int .i64 k ∧ k ≤ n ∧ Hid (kq = n - k) ∧ Aside0 (Kd.R Kd.string 9 w' w.heap.size (fun _ => True) (.slice (some ⟨w.heap.size, 0, none⟩) n n) ((l.take k).map (·.f1) ++ List.replicate (n - k) noStr)) ∧ Aside0 (Below w.heap.size w w'))
  case atStart =>
    refine ⟨0, by simp, Nat.zero_le _, rfl, ⟨?_⟩, ⟨below_alloc (Below.refl _ _) _⟩⟩
    have h0 := own_made_of (enc := Value.string) (d := noStr) w w.heap.size 9 n (Nat.le_refl _) (by omega)
    have h1 := Kd.R_of_own (h1 := fun x => rfl) (ok := fun _ => True) (xs := List.replicate n noStr) (by simpa using h0) (fun _ _ => trivial)
    rw [show (l.take 0).map (·.f1) ++ List.replicate (n - 0) noStr = List.replicate n noStr by simp]
    exact h1
  case round =>
    obtain ⟨k, rfl, hk, HM, HR, HB⟩ := hrel
    by_cases hlt : k < n
    · obtain ⟨b, cap, p, hv, _, cb, c0, c1⟩ := HG.out.elem k (by have := HN.out; omega)
      injection hv with hA _ hcap
      subst hA
      subst hcap
      replace cb := (HB.out.cell (World.block_lt_of_cell? _ _ cb)).trans cb
      replace c1 := (HB.out.cell (World.block_lt_of_cell? _ _ c1)).trans c1
      clear c0
      obtain ⟨M, hM⟩ : ∃ M, (l.take k).map (·.f1) ++ List.replicate (n - k) noStr = M := ⟨_, rfl⟩
      have HM1 := Aside0.mk hM
      obtain ⟨x, hx⟩ : ∃ x, rd_T25 l (k : Int) = x := ⟨_, rfl⟩
      have HX := Aside0.mk hx
      rw [hx] at c1
      have HR1 := HR.out
      rw [hM] at HR1
      have hML : M.length = n := by rw [← hM]; have := HN.out; simp; omega
      have ho := Kd.own_of_R HR1
      rw [hML] at ho
      obtain ⟨d0, d1⟩ := own_at_of (d := noStr) ho (k : Int) (by omega) (by omega)
      rw [Int.toNat_natCast] at d0 d1
      obtain ⟨hs0, hs1⟩ := own_store_of ho (k : Int) x.f1
      rw [Int.toNat_natCast] at hs0 hs1
      have HS0 := Aside0.mk hs0
      obtain ⟨y, hy⟩ : ∃ y, rdOf noStr M (k : Int) = y := ⟨_, rfl⟩
      rw [hy] at d0
      have HLT := Aside0.mk hlt
      clear hs0 hs1 hM hx hy hML ho HR1 hlt HR
      have p0 : (0 : Int) ≤ (k : Int) := by omega
      have p1 : (k : Int) < (n : Int) := by have := HLT.out; omega
      go_wp2
      go_roundg (gk - 1)
      case measure => have := HM.out; omega
      case rel =>
        have hlt := HLT.out
        have hn := HN.out
        refine ⟨k + 1, by go_num, by omega, by have := HM.out; show _ = _; omega, ⟨?_⟩, ⟨HB.out.setCell (Nat.le_refl _) _⟩⟩
        have h0 := HS0.out
        have e := fill_step hn (k := k) (by omega)
        rw [HX.out] at e
        rw [← HM1.out, e] at h0
        exact Kd.R_of_own (h1 := fun x => rfl) (by rw [show ((l.take (k + 1)).map (·.f1) ++ List.replicate (n - (k + 1)) noStr).length = n by simp; omega]; exact h0) (fun _ _ => trivial)
    · have hkn : k = n := by omega
      subst hkn
      obtain ⟨L, hL⟩ : ∃ L, l.map (·.f1) = L := ⟨_, rfl⟩
      have HH1 := HH.out
      rw [hL] at HH1
      have HR1 := HR.out
      have hLn : k = L.length := by rw [← hL]; have := HN.out; simpa using this
      have eL : (l.take k).map (·.f1) ++ List.replicate (k - k) noStr = L := by
        rw [List.take_of_length_le (by have := HN.out; omega), Nat.sub_self, List.replicate_zero, List.append_nil, hL]
      rw [eL] at HR1
      clear HR HH HG HN hk HM hL eL hg0 hgo hmk
      subst hLn
      obtain ⟨wA, hwA⟩ : ∃ wA, wA = wr := ⟨_, rfl⟩
      subst hwA
      have HBA := HB
      have HR0 := Aside0.mk (Kd.R_reads' HR1).2.2
      clear HR1 HB
      generalize (some (⟨w.heap.size, 0, none⟩ : Addr)) = A0 at HR0 ⊢
      unfold textF at HH1
      obtain ⟨t, ht, HT1⟩ := Option.bind_eq_some_iff.1 HH1
      unfold textLines.f at ht
      have HT := Aside0.mk HT1
      have H' := Aside0.mk ht
      clear HH1 HT1 ht
      go_wp2
      have HO170 := Aside0.mk (made_zero wA)
      have HB : Aside0 (Below wA.heap.size wA (wA.alloc (.cells (madeCells #[.string ⟨#[]⟩] 10) 9))) := ⟨below_alloc (Below.refl _ _) _⟩
      generalize (wA.alloc (.cells (madeCells #[.string ⟨#[]⟩] 10) 9)) = wB at HO170 HB ⊢
      go_loopg [6, 44] K (fun kq v6 v44 w' => ∃ (x6_1 : List ByteArray) (x44_1 : Int), v44 = .int .i64 x44_1 ∧ Aside0 (textLines.l0 kq x6_1 L (L.length : Int) x44_1 = some t) ∧ Aside0 (kq ≤ K) ∧ Aside0 (Kd.R Kd.string 9 w' wA.heap.size (fun _ => True) v6 x6_1) ∧ Aside0 (Below wA.heap.size wA w'))
      case atStart => exact ⟨([] : List ByteArray), (0), (by first | rfl | (simp; done) | (simp [*]; done)), H', ⟨Nat.le_refl _⟩, ⟨by (with_reducible repeat (first | apply Kd.R_alloc | apply Kd.R_drewN | apply Kd.R_drew)); exact HO170.out⟩, ⟨by repeat (first | (with_reducible first | exact HB.out | apply below_alloc | apply pw_below_drewN | apply below_drew1) | exact HB.out)⟩⟩
      case round =>
        clear H'
        try clear p2
        try clear c3
        obtain ⟨x6_1, x44_1, rfl, HA, HK1, HO_6, HB⟩ := hrel
        cases gk with
        | zero => exact absurd HA.out (by simp [textLines.l0])
        | succ k1 =>
          have H := HA.out
          clear HA
          simp only [textLines.l0] at H
          by_cases c4 : x44_1 < (L.length : Int)
          · rw [if_pos c4] at H
            have c4b0 : decide (x44_1 < (L.length : Int)) = true := decide_eq_true c4
            clear c4
            by_cases c5 : 0 ≤ x44_1
            · rw [if_pos c5] at H
              have c5b0 : decide (0 ≤ x44_1) = true := decide_eq_true c5
              clear c5
              by_cases c6 : x44_1 < (L.length : Int)
              · rw [if_pos c6] at H
                have c6b0 : decide (x44_1 < (L.length : Int)) = true := decide_eq_true c6
                clear c6
                have hcell : ∃ ad, A0 = some ad ∧ wr.cell? (ad.add x44_1.toNat) = some (.string (rdOf ByteArray.empty L x44_1)) := by
                  obtain ⟨ad171, e171, hx171_0⟩ := Kd.at_string HR0.out x44_1 (of_decide_eq_true c5b0) (of_decide_eq_true c6b0)
                  exact ⟨ad171, e171, (HB.out.cell (World.block_lt_of_cell? wA _ hx171_0)).trans hx171_0⟩
                obtain ⟨cc, hcc⟩ : ∃ cc, rdOf ByteArray.empty L x44_1 = cc := ⟨_, rfl⟩
                rw [hcc] at H hcell
                clear hcc
                by_cases c7 : 1 < (cc.size : Int)
                · rw [if_pos c7] at H
                  have c7b0 : decide (1 < (cc.size : Int)) = true := decide_eq_true c7
                  have c7b1 : decide (1 < cc.size) = true := decide_eq_true (by omega)
                  clear c7
                  have HC9 := Aside0.mk H
                  clear H
                  have p171 : 0 ≤ (x44_1 : Int) := of_decide_eq_true (by first | (with_reducible assumption) | assumption)
                  have q171 : x44_1 < (L.length : Int) := of_decide_eq_true (by first | (with_reducible assumption) | assumption)
                  obtain ⟨ad171, e171, hx171_0⟩ := hcell
                  cases e171
                  replace p171 := eq_true p171
                  replace q171 := eq_true q171
                  have p8 : 0 ≤ (1 : Int) := (by omega)
                  have q8 : 1 < cc.size := (by have : (1 : Int) < (cc.size : Int) := of_decide_eq_true (by first | (with_reducible assumption) | assumption); omega)
                  have hx8 : ∀ h : 1 < cc.size, ((cc[1]'h).toNat : Int) = bt cc 1 := bt_at cc 1
                  clear p8
                  have qi8 : (1 < (cc.size : Int)) = True := eq_true (of_decide_eq_true (by first | (with_reducible assumption) | assumption))
                  replace q8 := eq_true q8
                  go_upto_block 4 with (fail)
                  go_cut [8] (fun v8 wc => ∃ (kq : Nat) (x8_8 : ByteArray), v8 = .string x8_8 ∧ Aside0 (textLines.j1 kq x6_1 x8_8 L (L.length : Int) x44_1 = some t) ∧ Aside0 (kq ≤ k1) ∧ Aside0 (Kd.R Kd.string 9 wc wA.heap.size (fun _ => True) u6 x6_1) ∧ Aside0 (Below wA.heap.size wA wc))
                  case first =>
                    have H := HC9.out
                    clear HC9
                    by_cases c10 : (bt cc 1) = 47
                    · rw [if_pos c10] at H
                      have c10b0 : ((bt cc 1) == 47) = true := beq_iff_eq.mpr c10
                      have c10b1 : ((bt cc 1) != 47) = false := bne_eq_false_iff_eq.mpr c10
                      clear c10
                      (first | rw [c10b0] | (simp only [i64_w, i32_w]; rw [c10b0]) | skip)
                      by_cases c11 : 2 ≤ (cc.size : Int)
                      · rw [if_pos c11] at H
                        have c11b0 := eq_true c11
                        have c11b1 : decide (2 ≤ (cc.size : Int)) = true := decide_eq_true c11
                        clear c11
                        obtain ⟨rs, hrs⟩ : ∃ rs, cc.extract 2 cc.size = rs := ⟨_, rfl⟩
                        rw [hrs] at H
                        by_cases c12 : (rs.size : Int) = 0
                        · rw [if_pos c12] at H
                          have c12b0 : ((rs.size : Int) == 0) = true := beq_iff_eq.mpr c12
                          have c12b1 : ((rs.size : Int) != 0) = false := bne_eq_false_iff_eq.mpr c12
                          clear c12
                          have H' := Aside0.mk H
                          clear H
                          go_wp2
                          go_meet
                          case rel => exact ⟨_, rs, (by first | rfl | (simp; done) | (simp [*]; done)), H', ⟨by have := HK1.out; first | omega | exact Nat.le_refl _⟩, ⟨by (with_reducible repeat (first | apply Kd.R_alloc | apply Kd.R_drewN | apply Kd.R_drew)); exact HO_6.out⟩, ⟨by repeat (first | (with_reducible first | exact HB.out | apply below_alloc | apply pw_below_drewN | apply below_drew1) | exact HB.out)⟩⟩
                        · rw [if_neg c12] at H
                          have c12b0 : ((rs.size : Int) == 0) = false := beq_eq_false_iff_ne.mpr c12
                          have c12b1 : ((rs.size : Int) != 0) = true := bne_iff_ne.mpr c12
                          by_cases c13 : 0 < (rs.size : Int)
                          · rw [if_pos c13] at H
                            have c13b0 : decide (0 < (rs.size : Int)) = true := decide_eq_true c13
                            have c13b1 : decide (0 < rs.size) = true := decide_eq_true (by omega)
                            clear c13
                            by_cases c15 : (bt rs 0) = 32
                            · rw [if_pos c15] at H
                              have c15b0 : ((bt rs 0) == 32) = true := beq_iff_eq.mpr c15
                              have c15b1 : ((bt rs 0) != 32) = false := bne_eq_false_iff_eq.mpr c15
                              clear c15
                              by_cases c16 : 1 ≤ (rs.size : Int)
                              · rw [if_pos c16] at H
                                have c16b0 := eq_true c16
                                have c16b1 : decide (1 ≤ (rs.size : Int)) = true := decide_eq_true c16
                                clear c16
                                have H' := Aside0.mk H
                                clear H
                                have p14 : 0 ≤ (0 : Int) := (by omega)
                                have q14 : 0 < rs.size := (by have : (0 : Int) < (rs.size : Int) := of_decide_eq_true (by first | (with_reducible assumption) | assumption); omega)
                                have hx14 : ∀ h : 0 < rs.size, ((rs[0]'h).toNat : Int) = bt rs 0 := bt_at rs 0
                                clear p14
                                have qi14 : (0 < (rs.size : Int)) = True := eq_true (of_decide_eq_true (by first | (with_reducible assumption) | assumption))
                                replace q14 := eq_true q14
                                go_wp2
                                go_meet
                                case rel => exact ⟨_, (rs.extract 1 rs.size), (by first | rfl | (simp; done) | (simp [*]; done)), H', ⟨by have := HK1.out; first | omega | exact Nat.le_refl _⟩, ⟨by (with_reducible repeat (first | apply Kd.R_alloc | apply Kd.R_drewN | apply Kd.R_drew)); exact HO_6.out⟩, ⟨by repeat (first | (with_reducible first | exact HB.out | apply below_alloc | apply pw_below_drewN | apply below_drew1) | exact HB.out)⟩⟩
                              · rw [if_neg c16] at H
                                exact absurd H (by simp)
                            · rw [if_neg c15] at H
                              have c15b0 : ((bt rs 0) == 32) = false := beq_eq_false_iff_ne.mpr c15
                              have c15b1 : ((bt rs 0) != 32) = true := bne_iff_ne.mpr c15
                              replace H := Option.bind_eq_some_iff.mp H
                              obtain ⟨t172, A170, H⟩ := H
                              replace H : (if t172 = true then (textLines.l0 k1 x6_1 L (L.length : Int) (wrap64 (x44_1 + 1))) else (textLines.j1 k1 x6_1 rs L (L.length : Int) x44_1)) = some t := H
                              have A17 := Aside0.mk A170
                              clear A170
                              by_cases c18 : t172 = true
                              · subst c18
                                have H1 : (textLines.l0 k1 x6_1 L (L.length : Int) (wrap64 (x44_1 + 1))) = some t := by rw [if_pos rfl] at H; exact H
                                clear H
                                have H := H1
                                clear H1
                                have H' := Aside0.mk H
                                clear H
                                have p14 : 0 ≤ (0 : Int) := (by omega)
                                have q14 : 0 < rs.size := (by have : (0 : Int) < (rs.size : Int) := of_decide_eq_true (by first | (with_reducible assumption) | assumption); omega)
                                have hx14 : ∀ h : 0 < rs.size, ((rs[0]'h).toNat : Int) = bt rs 0 := bt_at rs 0
                                clear p14
                                have qi14 : (0 < (rs.size : Int)) = True := eq_true (of_decide_eq_true (by first | (with_reducible assumption) | assumption))
                                replace q14 := eq_true q14
                                go_wp2_with (first | ((with_reducible refine gate_callee (f := 33) rfl ?_); refine goesL_ (some 63) rfl rfl Tryd.func33 (by kernel_rfl) rfl #[.string rs] rfl (by (try simp only [List.map_toArray, List.map_cons, List.map_nil]); first | done | rfl | (simp only [List.length_drop, List.length_take]; rfl)) ?_; (with_reducible refine (goprinter_go_ast_isDirective.calls k1 rs true _ A17.out).mono ?_); rintro e w' ⟨rfl, ⟨nd, rfl⟩⟩; refine ⟨_, rfl, ?_⟩))
                                go_roundg k1
                                case measure => have := HK1.out; omega
                                case rel => exact ⟨(x6_1), (wrap64 (x44_1 + 1)), (by first | rfl | (simp; done) | (simp [*]; done)), H', ⟨by have := HK1.out; omega⟩, ⟨by (with_reducible repeat (first | apply Kd.R_alloc | apply Kd.R_drewN | apply Kd.R_drew)); exact HO_6.out⟩, ⟨by repeat (first | (with_reducible first | exact HB.out | apply below_alloc | apply pw_below_drewN | apply below_drew1) | exact HB.out)⟩⟩
                              · replace c18 := Bool.eq_false_iff.mpr c18
                                subst c18
                                have H1 : (textLines.j1 k1 x6_1 rs L (L.length : Int) x44_1) = some t := by rw [if_neg (show ¬ (false = true) by decide)] at H; exact H
                                clear H
                                have H := H1
                                clear H1
                                have H' := Aside0.mk H
                                clear H
                                have p14 : 0 ≤ (0 : Int) := (by omega)
                                have q14 : 0 < rs.size := (by have : (0 : Int) < (rs.size : Int) := of_decide_eq_true (by first | (with_reducible assumption) | assumption); omega)
                                have hx14 : ∀ h : 0 < rs.size, ((rs[0]'h).toNat : Int) = bt rs 0 := bt_at rs 0
                                clear p14
                                have qi14 : (0 < (rs.size : Int)) = True := eq_true (of_decide_eq_true (by first | (with_reducible assumption) | assumption))
                                replace q14 := eq_true q14
                                go_wp2_with (first | ((with_reducible refine gate_callee (f := 33) rfl ?_); refine goesL_ (some 63) rfl rfl Tryd.func33 (by kernel_rfl) rfl #[.string rs] rfl (by (try simp only [List.map_toArray, List.map_cons, List.map_nil]); first | done | rfl | (simp only [List.length_drop, List.length_take]; rfl)) ?_; (with_reducible refine (goprinter_go_ast_isDirective.calls k1 rs false _ A17.out).mono ?_); rintro e w' ⟨rfl, ⟨nd, rfl⟩⟩; refine ⟨_, rfl, ?_⟩))
                                go_meet
                                case rel => exact ⟨_, rs, (by first | rfl | (simp; done) | (simp [*]; done)), H', ⟨by have := HK1.out; first | omega | exact Nat.le_refl _⟩, ⟨by (with_reducible repeat (first | apply Kd.R_alloc | apply Kd.R_drewN | apply Kd.R_drew)); exact HO_6.out⟩, ⟨by repeat (first | (with_reducible first | exact HB.out | apply below_alloc | apply pw_below_drewN | apply below_drew1) | exact HB.out)⟩⟩
                          · rw [if_neg c13] at H
                            exact absurd H (by simp)
                      · rw [if_neg c11] at H
                        exact absurd H (by simp)
                    · rw [if_neg c10] at H
                      have c10b0 : ((bt cc 1) == 47) = false := beq_eq_false_iff_ne.mpr c10
                      have c10b1 : ((bt cc 1) != 47) = true := bne_iff_ne.mpr c10
                      (first | rw [c10b0] | (simp only [i64_w, i32_w]; rw [c10b0]) | skip)
                      by_cases c19 : (bt cc 1) = 42
                      · rw [if_pos c19] at H
                        have c19b0 : ((bt cc 1) == 42) = true := beq_iff_eq.mpr c19
                        have c19b1 : ((bt cc 1) != 42) = false := bne_eq_false_iff_eq.mpr c19
                        clear c19
                        by_cases c20 : 2 ≤ (wrap64 ((cc.size : Int) - 2))
                        · rw [if_pos c20] at H
                          have c20b0 := eq_true c20
                          have c20b1 : decide (2 ≤ (wrap64 ((cc.size : Int) - 2))) = true := decide_eq_true c20
                          clear c20
                          by_cases c21 : (wrap64 ((cc.size : Int) - 2)) ≤ (cc.size : Int)
                          · rw [if_pos c21] at H
                            have c21b0 := eq_true c21
                            have c21b1 : decide ((wrap64 ((cc.size : Int) - 2)) ≤ (cc.size : Int)) = true := decide_eq_true c21
                            clear c21
                            have H' := Aside0.mk H
                            clear H
                            go_wp2
                            go_meet
                            case rel => exact ⟨_, (cc.extract 2 ((wrap64 ((cc.size : Int) - 2)) : Int).toNat), (by first | rfl | (simp; done) | (simp [*]; done)), H', ⟨by have := HK1.out; first | omega | exact Nat.le_refl _⟩, ⟨by (with_reducible repeat (first | apply Kd.R_alloc | apply Kd.R_drewN | apply Kd.R_drew)); exact HO_6.out⟩, ⟨by repeat (first | (with_reducible first | exact HB.out | apply below_alloc | apply pw_below_drewN | apply below_drew1) | exact HB.out)⟩⟩
                          · rw [if_neg c21] at H
                            exact absurd H (by simp)
                        · rw [if_neg c20] at H
                          exact absurd H (by simp)
                      · rw [if_neg c19] at H
                        have c19b0 : ((bt cc 1) == 42) = false := beq_eq_false_iff_ne.mpr c19
                        have c19b1 : ((bt cc 1) != 42) = true := bne_iff_ne.mpr c19
                        have H' := Aside0.mk H
                        clear H
                        go_wp2
                        go_meet
                        case rel => exact ⟨_, cc, (by first | rfl | (simp; done) | (simp [*]; done)), H', ⟨by have := HK1.out; first | omega | exact Nat.le_refl _⟩, ⟨by (with_reducible repeat (first | apply Kd.R_alloc | apply Kd.R_drewN | apply Kd.R_drew)); exact HO_6.out⟩, ⟨by repeat (first | (with_reducible first | exact HB.out | apply below_alloc | apply pw_below_drewN | apply below_drew1) | exact HB.out)⟩⟩
                  case rest =>
                    clear HC9
                    try clear c1
                    try clear p1
                    try clear q1
                    try clear hx1
                    try clear qi1
                    try clear c2
                    try clear p2
                    try clear c3
                    try clear c4
                    try clear c4b0
                    try clear c5
                    try clear c5b0
                    try clear c6
                    try clear c6b0
                    try clear p6
                    try clear c7
                    try clear c7b0
                    try clear c7b1
                    try clear p8
                    try clear q8
                    try clear hx8
                    try clear qi8
                    try clear c10
                    try clear c10b0
                    try clear c10b1
                    try clear c11
                    try clear c11b0
                    try clear c11b1
                    try clear c12
                    try clear c12b0
                    try clear c12b1
                    try clear c13
                    try clear c13b0
                    try clear c13b1
                    try clear p14
                    try clear q14
                    try clear hx14
                    try clear qi14
                    try clear c15
                    try clear c15b0
                    try clear c15b1
                    try clear c16
                    try clear c16b0
                    try clear c16b1
                    try clear p17
                    try clear q17
                    try clear hx17
                    try clear c18
                    try clear c19
                    try clear c19b0
                    try clear c19b1
                    try clear c20
                    try clear c20b0
                    try clear c20b1
                    try clear c21
                    try clear c21b0
                    try clear c21b1
                    try clear hx171_0
                    try clear p14
                    try clear p171
                    try clear p2
                    try clear p8
                    try clear q14
                    try clear q171
                    try clear q8
                    obtain ⟨kq, x8_8, rfl, HA, HJ8, HO_6, HB⟩ := hcut
                    cases kq with
                    | zero => exact absurd HA.out (by simp [textLines.j1])
                    | succ kj8 =>
                      have H := HA.out
                      clear HA
                      simp only [textLines.j1] at H
                      replace H := Option.bind_eq_some_iff.mp H
                      obtain ⟨t173, A220, H⟩ := H
                      replace H : (textLines.l1 kj8 x6_1 L (L.length : Int) x44_1 t173 (t173.length : Int) 0) = some t := H
                      have A22 := Aside0.mk A220
                      clear A220
                      have H' := Aside0.mk H
                      clear H
                      go_wp2_with (first | ((with_reducible refine gate_callee (f := 34) rfl ?_); refine goesL_ (some 72) rfl rfl Tryd.func34 (by kernel_rfl) rfl #[.string x8_8, .string (⟨#[10]⟩ : ByteArray)] rfl (by (try simp only [List.map_toArray, List.map_cons, List.map_nil]); first | done | rfl | (simp only [List.length_drop, List.length_take]; rfl)) ?_; (with_reducible refine (goprinter_go_ast_zzSplit.calls kj8 x8_8 (⟨#[10]⟩ : ByteArray) t173 _ A22.out).mono ?_); rintro e w23 ⟨v174, rfl, ho0, hb⟩; refine ⟨_, rfl, ?_⟩; have n0_ := Aside0.mk (Kd.R_elder' (by (with_reducible repeat (first | apply Kd.R_alloc | apply Kd.R_drewN | apply Kd.R_drew)); exact HO_6.out) (Kd.R_base ho0) hb); have n1_ := Aside0.mk (Kd.R_lower (Kd.R_new' ho0 (Kd.R_lt (by (with_reducible repeat (first | apply Kd.R_alloc | apply Kd.R_drewN | apply Kd.R_drew)); exact HO_6.out))) (below_size (by repeat (first | (with_reducible first | exact HB.out | apply below_alloc | apply pw_below_drewN | apply below_drew1) | exact HB.out)))); have n2_ := Aside0.mk (below_step (by repeat (first | (with_reducible first | exact HB.out | apply below_alloc | apply pw_below_drewN | apply below_drew1) | exact HB.out)) hb); clear HO_6; clear HB; have HO_6 := n0_; have HO175 := n1_; have HB := n2_; clear n0_ n1_ n2_; (try clear hb); (try clear hb2); (try clear hk); (try clear hi); (try clear ho0); obtain ⟨Ao24, co24, eo24⟩ := Kd.R_slice HO175.out; subst eo24))
                      go_loopg [6, 75] kj8 (fun kq v6 v75 w' => ∃ (x6_3 : List ByteArray) (x75_3 : Int), v75 = .int .i64 x75_3 ∧ Aside0 (textLines.l1 kq x6_3 L (L.length : Int) x44_1 t173 (t173.length : Int) x75_3 = some t) ∧ Aside0 (kq ≤ kj8) ∧ Aside0 (Kd.R Kd.string 9 w' wA.heap.size (fun k_ => some k_ ≠ ((.slice Ao24 t173.length co24) : Value).ownBlock) v6 x6_3) ∧ Aside0 (Kd.R Kd.string 9 w' wA.heap.size (fun k_ => some k_ ≠ (v6 : Value).ownBlock) (.slice Ao24 t173.length co24) t173) ∧ Aside0 (Below wA.heap.size wA w'))
                      case atStart => exact ⟨(x6_1), (0), (by first | rfl | (simp; done) | (simp [*]; done)), H', ⟨Nat.le_refl _⟩, ⟨by (with_reducible repeat (first | apply Kd.R_alloc | apply Kd.R_drewN | apply Kd.R_drew)); exact Kd.R_mono HO_6.out (fun _ hk => hk.2)⟩, ⟨by (with_reducible repeat (first | apply Kd.R_alloc | apply Kd.R_drewN | apply Kd.R_drew)); exact Kd.R_mono HO175.out (fun _ hk => hk.2)⟩, ⟨by repeat (first | (with_reducible first | exact HB.out | apply below_alloc | apply pw_below_drewN | apply below_drew1) | exact HB.out)⟩⟩
                      case round =>
                        clear H'
                        try clear c1
                        try clear p1
                        try clear q1
                        try clear hx1
                        try clear qi1
                        try clear c2
                        try clear p2
                        try clear c3
                        try clear c4
                        try clear c4b0
                        try clear c5
                        try clear c5b0
                        try clear c6
                        try clear c6b0
                        try clear p6
                        try clear c7
                        try clear c7b0
                        try clear c7b1
                        try clear p8
                        try clear q8
                        try clear hx8
                        try clear qi8
                        try clear c10
                        try clear c10b0
                        try clear c10b1
                        try clear c11
                        try clear c11b0
                        try clear c11b1
                        try clear c12
                        try clear c12b0
                        try clear c12b1
                        try clear c13
                        try clear c13b0
                        try clear c13b1
                        try clear p14
                        try clear q14
                        try clear hx14
                        try clear qi14
                        try clear c15
                        try clear c15b0
                        try clear c15b1
                        try clear c16
                        try clear c16b0
                        try clear c16b1
                        try clear p17
                        try clear q17
                        try clear hx17
                        try clear c18
                        try clear c19
                        try clear c19b0
                        try clear c19b1
                        try clear c20
                        try clear c20b0
                        try clear c20b1
                        try clear c21
                        try clear c21b0
                        try clear c21b1
                        try clear hx171_0
                        try clear p1
                        try clear p14
                        try clear p17
                        try clear p171
                        try clear p2
                        try clear p6
                        try clear p8
                        try clear q1
                        try clear q14
                        try clear q17
                        try clear q171
                        try clear q8
                        obtain ⟨x6_3, x75_3, rfl, HA, HK3, HO_6, HO_73, HB⟩ := hrel
                        cases gk with
                        | zero => exact absurd HA.out (by simp [textLines.l1])
                        | succ k3 =>
                          have H := HA.out
                          clear HA
                          simp only [textLines.l1] at H
                          by_cases c25 : x75_3 < (t173.length : Int)
                          · rw [if_pos c25] at H
                            have c25b0 : decide (x75_3 < (t173.length : Int)) = true := decide_eq_true c25
                            clear c25
                            by_cases c26 : 0 ≤ x75_3
                            · rw [if_pos c26] at H
                              have c26b0 : decide (0 ≤ x75_3) = true := decide_eq_true c26
                              clear c26
                              by_cases c27 : x75_3 < (t173.length : Int)
                              · rw [if_pos c27] at H
                                have c27b0 : decide (x75_3 < (t173.length : Int)) = true := decide_eq_true c27
                                clear c27
                                replace H := Option.bind_eq_some_iff.mp H
                                obtain ⟨t177, A280, H⟩ := H
                                replace H : (if x6_3.length < 8796093022208 then (textLines.l1 k3 (x6_3 ++ [t177]) L (L.length : Int) x44_1 t173 (t173.length : Int) (wrap64 (x75_3 + 1))) else (none)) = some t := H
                                have A28 := Aside0.mk A280
                                clear A280
                                by_cases c29 : x6_3.length < 8796093022208
                                · rw [if_pos c29] at H
                                  have LMc29 := Aside0.mk c29
                                  clear c29
                                  obtain ⟨y178, hy178⟩ : ∃ y_ : List ByteArray, y_ = (x6_3 ++ [t177]) := ⟨_, rfl⟩
                                  replace H : (textLines.l1 k3 y178 L (L.length : Int) x44_1 t173 (t173.length : Int) (wrap64 (x75_3 + 1))) = some t := by first | (rw [hy178]; with_reducible exact H) | (have H2_ := (Option.bind_some _ _).symm.trans H; rw [hy178]; with_reducible exact H2_) | (have H2_ := (Option.bind_some _ _).symm.trans H; with_reducible exact H2_) | with_reducible exact H | (rw [hy178]; exact H) | exact H
                                  have Ny178 := Aside0.mk hy178
                                  clear hy178
                                  have H' := Aside0.mk H
                                  clear H
                                  have p176 : 0 ≤ (x75_3 : Int) := of_decide_eq_true (by first | (with_reducible assumption) | assumption)
                                  have q176 : x75_3 < (t173.length : Int) := of_decide_eq_true (by first | (with_reducible assumption) | assumption)
                                  obtain ⟨ad176, e176, hx176_0⟩ := Kd.at_string (Kd.R_reads' HO_73.out).2.2 x75_3 p176 q176
                                  cases e176
                                  replace p176 := eq_true p176
                                  replace q176 := eq_true q176
                                  go_wp2_with (first | ((with_reducible refine gate_callee (f := 35) rfl ?_); refine goesL_ (some 81) rfl rfl Tryd.func35 (by kernel_rfl) rfl #[.string (rdOf ByteArray.empty t173 x75_3)] rfl (by (try simp only [List.map_toArray, List.map_cons, List.map_nil]); first | done | rfl | (simp only [List.length_drop, List.length_take]; rfl)) ?_; (with_reducible refine (goprinter_go_ast_stripTrailingWhitespace.calls k3 (rdOf ByteArray.empty t173 x75_3) t177 _ A28.out).mono ?_); rintro e w' ⟨rfl, ⟨nd, rfl⟩⟩; refine ⟨_, rfl, ?_⟩) | ((with_reducible refine gate_builtin (b := .append) (xs := #[.tmp 79, .tmp 82]) rfl ?_); at_builtin; refine Kd.R_append Kd.string (w0 := wA) wA.heap.size rfl (.tmp 79) (.tmp 82) 29 9 (.string ⟨#[]⟩) 16 rfl Tryd.underlying29 info9 rfl (by decide) (by omega) u6 x6_3 t177 [.string t177] (fun k_ => some k_ ≠ (.slice (some ad176) t173.length co24 : Value).ownBlock) (fun _ => False) rfl rfl ?aP (fun _ hk => hk.elim) ?aF ?aO ?aB ?aS ?aL ?_; (case aP => exact rfl); (case aB => exact (by repeat (first | (with_reducible first | exact HB.out | apply below_alloc | apply pw_below_drewN | apply below_drew1) | exact HB.out))); (case aF => exact (fun k_ hk => Kd.fresh' (Kd.R_lt (by (with_reducible repeat (first | apply Kd.R_alloc | apply Kd.R_drewN | apply Kd.R_drew)); exact HO_73.out)) k_ hk)); (case aO => exact (by (with_reducible repeat (first | apply Kd.R_alloc | apply Kd.R_drewN | apply Kd.R_drew)); exact HO_6.out)); (case aS => exact (below_size (by repeat (first | (with_reducible first | exact HB.out | apply below_alloc | apply pw_below_drewN | apply below_drew1) | exact HB.out)))); (case aL => have := LMc29.out; omega); intro v179 w30 ho hb hg hat; rw [← Ny178.out] at ho; have n0_ := Aside0.mk (Kd.R_after (ok := (fun _ => True)) (by (with_reducible repeat (first | apply Kd.R_alloc | apply Kd.R_drewN | apply Kd.R_drew)); exact Kd.R_mono HO_73.out (fun _ hk => ⟨trivial, hk⟩)) hg hat); have n1_ := Aside0.mk (hb); have n2_ := Aside0.mk (ho); clear HO_73; clear HB; clear HO_6; have HO_73 := n0_; have HB := n1_; have HO180 := n2_; clear n0_ n1_ n2_; clear ho hb hg hat))
                                  go_roundg k3
                                  case measure => have := HK1.out; have := HJ8.out; have := HK3.out; omega
                                  case rel => exact ⟨(y178), (wrap64 (x75_3 + 1)), (by first | rfl | (simp; done) | (simp [*]; done)), H', ⟨by have := HK1.out; have := HJ8.out; have := HK3.out; omega⟩, ⟨by (with_reducible repeat (first | apply Kd.R_alloc | apply Kd.R_drewN | apply Kd.R_drew)); exact HO180.out⟩, ⟨by (with_reducible repeat (first | apply Kd.R_alloc | apply Kd.R_drewN | apply Kd.R_drew)); exact Kd.R_mono HO_73.out (fun _ hk => hk.2)⟩, ⟨by repeat (first | (with_reducible first | exact HB.out | apply below_alloc | apply pw_below_drewN | apply below_drew1) | exact HB.out)⟩⟩
                                · rw [if_neg c29] at H
                                  exact absurd H (by simp)
                              · rw [if_neg c27] at H
                                exact absurd H (by simp)
                            · rw [if_neg c26] at H
                              exact absurd H (by simp)
                          · rw [if_neg c25] at H
                            have c25b0 : decide (x75_3 < (t173.length : Int)) = false := decide_eq_false c25
                            clear c25
                            have H' := Aside0.mk H
                            clear H
                            go_wp2
                            go_roundg k3
                            case measure => have := HK1.out; have := HJ8.out; have := HK3.out; omega
                            case rel => exact ⟨(x6_3), (wrap64 (x44_1 + 1)), (by first | rfl | (simp; done) | (simp [*]; done)), H', ⟨by have := HK1.out; have := HJ8.out; have := HK3.out; omega⟩, ⟨by (with_reducible repeat (first | apply Kd.R_alloc | apply Kd.R_drewN | apply Kd.R_drew)); exact Kd.R_mono HO_6.out (fun _ hk => trivial)⟩, ⟨by repeat (first | (with_reducible first | exact HB.out | apply below_alloc | apply pw_below_drewN | apply below_drew1) | exact HB.out)⟩⟩
                · rw [if_neg c7] at H
                  exact absurd H (by simp)
              · rw [if_neg c6] at H
                exact absurd H (by simp)
            · rw [if_neg c5] at H
              exact absurd H (by simp)
          · rw [if_neg c4] at H
            have c4b0 : decide (x44_1 < (L.length : Int)) = false := decide_eq_false c4
            clear c4
            obtain rfl := Option.some.inj H
            obtain ⟨Ao, co, eo⟩ := Kd.R_slice HO_6.out
            subst eo
            have hT1 := HT.out
            have ht9 : x6_1.length ≤ 1000000000 := by
              by_cases h : x6_1.length ≤ 1000000000
              · exact h
              · rw [if_neg h] at hT1
                cases hT1
            rw [if_pos ht9] at hT1
            have HT2 := Aside0.mk hT1
            have HT9 := Aside0.mk ht9
            clear hT1 HT
            go_wp2
            go_loopg [12, 88] x6_1.length (fun kq v12 v88 w' => ∃ (n i : Nat) (M : List ByteArray), v12 = .int .i64 n ∧ v88 = .int .i64 i ∧ Aside0 (i ≤ x6_1.length ∧ n ≤ i) ∧ Hid (kq = x6_1.length - i) ∧ Aside0 (Kd.R Kd.string 9 w' wA.heap.size (fun _ => True) (.slice Ao x6_1.length co) M) ∧ Aside0 (M.length = x6_1.length ∧ M.drop i = x6_1.drop i ∧ comp (M.take n) (x6_1.drop i) = comp [] x6_1) ∧ Aside0 (Below wA.heap.size wA w'))
            case atStart =>
              exact ⟨0, 0, x6_1, by simp, by simp, ⟨Nat.zero_le _, Nat.le_refl _⟩, rfl, HO_6, ⟨rfl, rfl, by simp⟩, HB⟩
            case round =>
              obtain ⟨n, i, M, rfl, rfl, HI, HM, HR, HP, HB⟩ := hrel
              by_cases hlt : i < x6_1.length
              · have hni := HI.out.2
                have hML := HP.out.1
                obtain ⟨ad, eA, _⟩ := Kd.at_string (Kd.R_reads' HR.out).2.2 (i : Int) (by omega) (by omega)
                cases eA
                obtain ⟨gB, rfl⟩ := Kd.R_head HR.out
                have ho := Kd.own_of_R HR.out
                rw [hML] at ho
                obtain ⟨d0, _⟩ := own_at_of (d := ByteArray.empty) ho (i : Int) (by omega) (by omega)
                obtain ⟨e0, e1⟩ := own_at_of (d := ByteArray.empty) ho (n : Int) (by omega) (by omega)
                obtain ⟨dx, dm⟩ := drop_rd hlt HP.out.2.1
                rw [Int.toNat_natCast] at d0 e0 e1
                obtain ⟨x, hx⟩ : ∃ x, rdOf ByteArray.empty M (i : Int) = x := ⟨_, rfl⟩
                obtain ⟨y, hy⟩ : ∃ y, rdOf ByteArray.empty M (n : Int) = y := ⟨_, rfl⟩
                rw [hx] at d0 dx
                rw [hy] at e0
                have HC := HP.out.2.2
                rw [dx] at HC
                obtain ⟨s0, s1⟩ := own_store_of ho (n : Int) x
                rw [Int.toNat_natCast] at s0 s1
                have HS0 := Aside0.mk s0
                have HD := Aside0.mk dm
                have HLT := Aside0.mk hlt
                have HML := Aside0.mk hML
                have HNI := Aside0.mk hni
                have HO := Aside0.mk ho
                have sk := set_keep x (M := M) (n := n) (i := i) (by omega) hni
                have HSK := Aside0.mk sk
                have gB0 := own_base ho gB rfl
                have gBA : wA.heap.size ≤ gB := gB0
                have HGB := Aside0.mk gBA
                have p0 : (0 : Int) ≤ (i : Int) := by omega
                have p1 : (i : Int) < (x6_1.length : Int) := by omega
                have q0 : (0 : Int) ≤ (n : Int) := by omega
                have q1 : (n : Int) < (x6_1.length : Int) := by omega
                clear dx dm hx hy s0 s1 sk gB0 gBA hlt hML hni ho
                by_cases hxe : x.toList = ([] : List UInt8)
                · have b0 : (x.toList == ([] : List UInt8)) = true := beq_iff_eq.mpr hxe
                  have b1 : (x.toList != ([] : List UInt8)) = false := bne_eq_false_iff_eq.mpr hxe
                  have HXE := Aside0.mk hxe
                  clear hxe
                  rcases Nat.eq_zero_or_pos n with hn0 | hn0
                  · have hz : decide ((0 : Int) < (n : Int)) = false := decide_eq_false (by omega)
                    have hz2 : decide (0 < n) = false := decide_eq_false (by omega)
                    have HC2 := Aside0.mk ((comp_none HXE.out (by simp [hn0])).symm.trans HC)
                    clear hn0 HC
                    go_wp2
                    go_roundg (gk - 1)
                    case measure => have := HM.out; have := HLT.out; omega
                    case rel =>
                      have hlt := HLT.out
                      have hni := HNI.out
                      have ht8 := HT9.out
                      exact ⟨n, i + 1, M, by go_num, by go_num, ⟨by omega, by omega⟩, by have := HM.out; show _ = _; omega, HR, ⟨HML.out, HD.out, HC2.out⟩, HB⟩
                  · obtain ⟨d2, _⟩ := own_at_of (d := ByteArray.empty) HO.out ((n : Int) - 1) (by omega) (by omega)
                    have hla := last_take (M := M) (n := n) (by have := HML.out; have := HNI.out; have := HLT.out; omega) hn0
                    obtain ⟨z, hz⟩ : ∃ z, rdOf ByteArray.empty M ((n : Int) - 1) = z := ⟨_, rfl⟩
                    rw [hz] at d2 hla
                    have HLA := Aside0.mk hla
                    have hpos : 0 < (M.take n).length := by have := HML.out; have := HNI.out; have := HLT.out; simp; omega
                    have HPOS := Aside0.mk hpos
                    clear hz hla hpos
                    obtain ⟨m, rfl⟩ : ∃ m, n = m + 1 := ⟨n - 1, by omega⟩
                    have em : ((m + 1 : Nat) : Int) - 1 = (m : Int) := by omega
                    rw [em, Int.toNat_natCast] at d2
                    clear em hn0
                    have q2 : (m : Int) < (x6_1.length : Int) := by omega
                    have q3 : decide ((0 : Int) < (m : Int) + 1) = true := decide_eq_true (by omega)
                    by_cases hze : z.toList = ([] : List UInt8)
                    · have z0 : (z.toList == ([] : List UInt8)) = true := beq_iff_eq.mpr hze
                      have z1 : (z.toList != ([] : List UInt8)) = false := bne_eq_false_iff_eq.mpr hze
                      have HC2 := Aside0.mk ((comp_twice HXE.out HPOS.out (by rw [HLA.out]; exact hze)).symm.trans HC)
                      clear hze HC
                      go_wp2

                      go_roundg (gk - 1)
                      case measure => have := HM.out; have := HLT.out; omega
                      case rel =>
                        have hlt := HLT.out
                        have hni := HNI.out
                        have ht8 := HT9.out
                        exact ⟨m + 1, i + 1, M, by go_num, by go_num, ⟨by omega, by omega⟩, by have := HM.out; show _ = _; omega, HR, ⟨HML.out, HD.out, HC2.out⟩, HB⟩
                    · have z0 : (z.toList == ([] : List UInt8)) = false := beq_eq_false_iff_ne.mpr hze
                      have z1 : (z.toList != ([] : List UInt8)) = true := bne_iff_ne.mpr hze
                      have HC2 := Aside0.mk ((comp_once HXE.out HPOS.out (by rw [HLA.out]; exact hze)).symm.trans HC)
                      clear hze HC
                      go_wp2
                      go_roundg (gk - 1)
                      case measure => have := HM.out; have := HLT.out; omega
                      case rel =>
                        have hlt := HLT.out
                        have hni := HNI.out
                        have ht8 := HT9.out
                        refine ⟨m + 1 + 1, i + 1, M.set (m + 1) x, by go_num, by go_num, ⟨by omega, by omega⟩, by have := HM.out; show _ = _; omega, ⟨?_⟩, ⟨by rw [List.length_set]; exact HML.out, ?_, ?_⟩, ⟨HB.out.setCell HGB.out _⟩⟩
                        · exact Kd.R_of_own (h1 := fun x => rfl) (by rw [List.length_set, HML.out]; exact HS0.out) (fun _ _ => trivial)
                        · rw [HSK.out.2]; exact HD.out
                        · rw [HSK.out.1]; exact HC2.out
                · have b0 : (x.toList == ([] : List UInt8)) = false := beq_eq_false_iff_ne.mpr hxe
                  have b1 : (x.toList != ([] : List UInt8)) = true := bne_iff_ne.mpr hxe
                  have HC2 := Aside0.mk ((comp_full hxe).symm.trans HC)
                  clear hxe HC
                  go_wp2
                  go_roundg (gk - 1)
                  case measure => have := HM.out; have := HLT.out; omega
                  case rel =>
                    have hlt := HLT.out
                    have hni := HNI.out
                    have ht8 := HT9.out
                    refine ⟨n + 1, i + 1, M.set n x, by go_num, by go_num, ⟨by omega, by omega⟩, by have := HM.out; show _ = _; omega, ⟨?_⟩, ⟨by rw [List.length_set]; exact HML.out, ?_, ?_⟩, ⟨HB.out.setCell HGB.out _⟩⟩
                    · exact Kd.R_of_own (h1 := fun x => rfl) (by rw [List.length_set, HML.out]; exact HS0.out) (fun _ _ => trivial)
                    · rw [HSK.out.2]; exact HD.out
                    · rw [HSK.out.1]; exact HC2.out
              · obtain ⟨o, hoe⟩ : ∃ o, comp [] x6_1 = o := ⟨_, rfl⟩
                have ho : M.take n = o := by
                  have := HP.out.2.2
                  rw [List.drop_eq_nil_of_le (by omega), hoe] at this
                  exact this
                have hnM : n ≤ M.length := by have := HI.out; have := HP.out.1; omega
                have hno : n = o.length := by rw [← ho]; simp; omega
                have hnT : n ≤ x6_1.length := by have := HI.out; omega
                have HT3 := HT2.out
                rw [hoe] at HT3
                obtain ⟨i9, hi9, hz0, hz1, hz2⟩ := info_parts info9
                have hco := (Kd.R_reads' HR.out).2.1
                have hcut : ∀ W : World, (Instr.slice 29 (.slice Ao x6_1.length co) (some (.int .i64 0)) (some (.int .i64 (n : Int))) none).run Tryd.prog W = .ok (.slice Ao n co) W := by
                  intro W
                  rw [cut_mid (P := Tryd.prog) 29 9 .i64 .i64 Tryd.underlying29 hi9 1 hz1 Ao x6_1.length co 0 (n : Int) (by omega) (by omega) (by omega) hco W]
                  cases Ao <;> simp [Addr.add]
                have HRC := Aside0.mk (R_front HR.out hnM)
                rw [ho] at HRC
                have HNT := Aside0.mk hnT
                subst hno
                have HJ := Aside0.mk HT3
                clear HT3 hoe ho hnM hco HP HR HT2 hi9 hz0 hz1 hz2 hnT
                by_cases h0 : 0 < o.length
                · obtain ⟨ad, eA, _⟩ := Kd.at_string (Kd.R_reads' HRC.out).2.2 (0 : Int) (by omega) (by omega)
                  cases eA
                  obtain ⟨gB, rfl⟩ := Kd.R_head HRC.out
                  obtain ⟨d2, _⟩ := own_at_of (d := ByteArray.empty) (Kd.own_of_R HRC.out) ((o.length : Int) - 1) (by omega) (by omega)
                  obtain ⟨z, hz⟩ : ∃ z, rdOf ByteArray.empty o ((o.length : Int) - 1) = z := ⟨_, rfl⟩
                  have HJ1 := HJ.out
                  unfold ended lastOf at HJ1
                  rw [if_pos h0] at HJ1
                  rw [hz] at d2 HJ1
                  have d3 : wr.cell? ⟨gB, o.length - 1, none⟩ = some (.string z) := by
                    have e : ((o.length : Int) - 1).toNat = o.length - 1 := by omega
                    rw [e] at d2
                    exact d2
                  have q0 : decide ((0 : Int) < (o.length : Int)) = true := decide_eq_true (by omega)
                  have q1 : decide (0 < o.length) = true := decide_eq_true h0
                  have q2 : (o.length : Int) ≤ 1000000000 := by have := HNT.out; omega
                  clear hz HJ
                  by_cases hze : z.toList = ([] : List UInt8)
                  · have z0 : (z.toList == ([] : List UInt8)) = true := beq_iff_eq.mpr hze
                    have z1 : (z.toList != ([] : List UInt8)) = false := bne_eq_false_iff_eq.mpr hze
                    rw [if_pos hze] at HJ1
                    have HJ2 := Aside0.mk HJ1
                    clear hze HJ1
                    go_wp2_with (go_at_call 36; refine (join_call HRC.out HJ2.out (by omega)).mono ?_; rintro e w1 ⟨rfl, hb1⟩)
                    go_ret
                    exact ⟨rfl, HBA.out.trans (HB.out.trans (hb1.mono HB.out.size) |>.mono HBA.out.size)⟩
                  · have z0 : (z.toList == ([] : List UInt8)) = false := beq_eq_false_iff_ne.mpr hze
                    have z1 : (z.toList != ([] : List UInt8)) = true := bne_iff_ne.mpr hze
                    rw [if_neg hze] at HJ1
                    have HJ2 := Aside0.mk HJ1
                    clear hze HJ1
                    go_wp2_with (first
                      | ((with_reducible refine gate_builtin (b := .append) (xs := #[.tmp 126, .tmp 127]) rfl ?_); at_builtin; refine Kd.R_append Kd.string (w0 := wA) wA.heap.size rfl (.tmp 126) (.tmp 127) 29 9 (.string ⟨#[]⟩) 16 rfl Tryd.underlying29 info9 rfl (by decide) (by omega) _ o (⟨#[]⟩ : ByteArray) [.string (⟨#[]⟩ : ByteArray)] (fun _ => True) (fun _ => False) rfl rfl ?aP (fun _ hk => hk.elim) ?aF ?aO ?aB ?aS ?aL ?_; (case aP => exact rfl); (case aB => exact HB.out); (case aF => exact fun _ _ => trivial); (case aO => exact HRC.out); (case aS => exact HB.out.size); (case aL => omega); intro v9 w9 ho9 hb9 hg9 hat9; have HO9 := Aside0.mk ho9; have HB9 := Aside0.mk hb9; clear ho9 hb9 hg9 hat9)
                      | (go_at_call 36; refine (join_call HO9.out HJ2.out (by simp; omega)).mono ?_; rintro e w1 ⟨rfl, hb1⟩))
                    go_ret
                    exact ⟨rfl, HBA.out.trans (HB9.out.trans (hb1.mono HB9.out.size) |>.mono HBA.out.size)⟩
                · have ho0 : o = [] := List.eq_nil_of_length_eq_zero (by omega)
                  subst ho0
                  have HJ2 : Aside0 (joinF [] = some r) := HJ
                  clear HJ h0
                  go_wp2_with (go_at_call 36; refine (join_call HRC.out HJ2.out (by simp)).mono ?_; rintro e w1 ⟨rfl, hb1⟩)
                  go_ret
                  exact ⟨rfl, HBA.out.trans (HB.out.trans (hb1.mono HB.out.size) |>.mono HBA.out.size)⟩

end Go.Proofs.YtcjiafjahfmdoaaDoor.A
