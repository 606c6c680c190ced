/- The program's arguments, as plain lists of bytes. -/
import Derived.Test.YtcjiafjahfmdoaaFmtPureB
import Derived.Test.YtcjiafjahfmdoaaFmtA20
import Derived.Lib.TrimAscii
namespace Go.Proofs.YtcjiafjahfmdoaaFmt.A
open Go.RowKit Go.Proofs.YtcjiafjahfmdoaaFmtW.PrintWords Go.Proofs.YtcjiafjahfmdoaaFmtW.PrintLast Go.Proofs.YtcjiafjahfmdoaaFmtW.PrintMore
set_option linter.unusedVariables false
set_option linter.unusedSimpArgs false

theorem dec_ascii {s : ByteArray} {pos : Nat} (h : pos < s.size) (ha : AscB s) : Utf8.decode s pos = (((bs s)[pos]'(by rw [bs_len]; exact h)).toNat, 1) := by
  have hl : pos < (bs s).length := by rw [bs_len]; exact h
  have e : s.data.toList.getD pos 0 = (bs s)[pos] := by
    show (bs s).getD pos 0 = _
    simp [hl]
  rw [Go.Lib.decode_N, e]
  exact Go.Lib.decodeN_ascii _ _ _ _ _ (ha _ (List.getElem_mem hl))
theorem idx_from (p : Nat → Bool) (truth : Bool) (s : ByteArray) (ha : AscB s) : ∀ (f pos : Nat), s.size ≤ pos + f → pos ≤ s.size →
    Go.Lib.idxFuncFrom p truth s f pos = if pos + (((bs s).drop pos).takeWhile (fun c => p c.toNat != truth)).length < s.size then ((pos + (((bs s).drop pos).takeWhile (fun c => p c.toNat != truth)).length : Nat) : Int) else -1
  | 0, pos, h, hp => by
    rw [List.drop_eq_nil_of_le (by rw [bs_len]; omega)]
    show (-1 : Int) = _
    rw [if_neg (by simp; omega)]
  | f + 1, pos, h, hp => by
    unfold Go.Lib.idxFuncFrom
    by_cases hlt : pos < s.size
    · have hl : pos < (bs s).length := by rw [bs_len]; exact hlt
      rw [if_pos hlt, dec_ascii hlt ha, List.drop_eq_getElem_cons hl]
      by_cases hc : p ((bs s)[pos]).toNat = truth
      · have hb : (p ((bs s)[pos]).toNat != truth) = false := by rw [hc]; simp
        rw [if_pos hc, List.takeWhile_cons, hb]
        simp [hlt]
      · have hb : (p ((bs s)[pos]).toNat != truth) = true := bne_iff_ne.2 hc
        rw [if_neg hc, List.takeWhile_cons, hb, idx_from p truth s ha f (pos + 1) (by omega) (by omega)]
        simp only [if_true, List.length_cons]
        rw [show pos + 1 + (List.takeWhile (fun c => p c.toNat != truth) (List.drop (pos + 1) (bs s))).length = pos + ((List.takeWhile (fun c => p c.toNat != truth) (List.drop (pos + 1) (bs s))).length + 1) by omega]
    · rw [if_neg hlt, List.drop_eq_nil_of_le (by rw [bs_len]; omega), if_neg (by simp; omega)]
theorem trimLeft_any (p : Nat → Bool) (s : ByteArray) (ha : AscB s) : Go.Lib.trimLeftF p s = mkB ((bs s).dropWhile (fun c => p c.toNat)) := by
  have hi := idx_from p false s ha s.size 0 (by omega) (Nat.zero_le _)
  have e : (fun c : UInt8 => p c.toNat != false) = fun c => p c.toNat := by funext c; simp
  rw [e, List.drop_zero, Nat.zero_add] at hi
  have hd := drop_take (fun c => p c.toNat) (bs s)
  unfold Go.Lib.trimLeftF Go.Lib.idxFunc
  rw [hi]
  by_cases h : ((bs s).takeWhile (fun c => p c.toNat)).length < s.size
  · rw [if_pos h, if_neg (by omega), Int.toNat_natCast]
    apply bs_inj
    rw [ext_all, bs_mk, hd]
  · rw [if_neg h, if_pos rfl, ← hd, List.drop_eq_nil_of_le (by rw [bs_len]; omega)]
    rfl
theorem space_plain {c : UInt8} (h : Plain (c.toNat : Int)) (h10 : c ≠ 10) : Go.Lib.isSpaceR c.toNat = isS c := by
  have n10 : (c == 10) = false := beq_eq_false_iff_ne.2 h10
  have nn : ∀ d : UInt8, ¬ Plain (d.toNat : Int) → (c == d) = false := fun d hd => beq_eq_false_iff_ne.2 fun e => hd (by rw [← e]; exact h)
  have hd : ∀ n : Int, 11 ≤ n → n ≤ 13 → ¬ Plain n := fun n h1 h2 hp => by unfold Plain at hp; omega
  have n11 := nn 11 (hd _ (by decide) (by decide))
  have n12 := nn 12 (hd _ (by decide) (by decide))
  have n13 := nn 13 (hd _ (by decide) (by decide))
  have e : Go.Lib.isSp c = isS c := by
    unfold Go.Lib.isSp isS
    rw [n10, n11, n12, n13]
    cases (c == 32) <;> cases (c == 9) <;> rfl
  have hlt : c.toNat < 128 := by unfold Plain at h; omega
  rw [← e]
  cases hb : Go.Lib.isSp c with
  | true => exact (Go.Lib.isSp_true hb).2
  | false => exact Go.Lib.isSp_false hb hlt
theorem isSp_eq {c : UInt8} (h : Plain (c.toNat : Int) ∧ c ≠ 10) : Go.Lib.isSpaceR c.toNat = isS c := space_plain h.1 h.2
/-- Plain bytes, no newline among them. -/
def PL (x : Bs) : Prop := ∀ d ∈ x, Plain (d.toNat : Int) ∧ d ≠ 10
theorem PL.asc {x : Bs} (h : PL x) : ∀ c ∈ x, c.toNat < 128 := by
  intro c hc
  obtain ⟨h1, _⟩ := h c hc
  unfold Plain at h1
  omega
theorem plain13 : ¬ Plain ((13 : UInt8).toNat : Int) := by
  intro h
  have h1 : Plain (13 : Int) := h
  unfold Plain at h1
  omega
theorem PL.ascii {x : Bs} (h : PL x) : Asc x := by
  intro c hc
  obtain ⟨h1, h2⟩ := h c hc
  exact ⟨h.asc c hc, h2, fun e => plain13 (by rw [← e]; exact h1)⟩
theorem PL.app {a b : Bs} (h : PL (a ++ b)) : PL a ∧ PL b := ⟨fun d hd => h d (List.mem_append_left _ hd), fun d hd => h d (List.mem_append_right _ hd)⟩
theorem PL.tail {c : UInt8} {t : Bs} (h : PL (c :: t)) : PL t := fun d hd => h d (List.mem_cons_of_mem _ hd)
theorem dw_congr {p q : UInt8 → Bool} : ∀ {l : Bs}, (∀ c ∈ l, p c = q c) → l.dropWhile p = l.dropWhile q
  | [], _ => rfl
  | c :: l, h => by
    rw [List.dropWhile_cons, List.dropWhile_cons, h c (List.mem_cons_self ..), dw_congr (l := l) fun d hd => h d (List.mem_cons_of_mem _ hd)]
theorem tw_congr {p q : UInt8 → Bool} : ∀ {l : Bs}, (∀ c ∈ l, p c = q c) → l.takeWhile p = l.takeWhile q
  | [], _ => rfl
  | c :: l, h => by
    rw [List.takeWhile_cons, List.takeWhile_cons, h c (List.mem_cons_self ..), tw_congr (l := l) fun d hd => h d (List.mem_cons_of_mem _ hd)]
theorem mkB_asc {x : Bs} (h : PL x) : AscB (mkB x) := by
  intro c hc
  rw [bs_mk] at hc
  exact h.asc c hc
/-- The blanks that a text begins with. -/
def bl (x : Bs) : Nat := (x.takeWhile isS).length
theorem bl_le (x : Bs) : bl x ≤ x.length := takeWhile_len _ x
theorem bl_drop (x : Bs) : x.drop (bl x) = x.dropWhile isS := drop_take isS x
theorem trim_plain {x : Bs} (h : PL x) : Go.Lib.trimLeftF Go.Lib.isSpaceR (mkB x) = mkB (x.dropWhile isS) := by
  rw [trimLeft_any _ _ (mkB_asc h), bs_mk, dw_congr (fun c hc => isSp_eq (h c hc))]
theorem ar20 {x b : Nat} {p : Int} (hb : b ≤ x) (hx : x ≤ 1000000000) (h0 : 0 ≤ p) (hp : p ≤ 3000000000) : wrap64 ((x : Int) - ((x - b : Nat) : Int)) = (b : Int) ∧ 0 ≤ (b : Int) ∧ (b : Int) ≤ (x : Int) ∧ wrap64 (p + (b : Int)) = p + (b : Int) := by
  unfold wrap64
  omega
theorem skip_any {x : Bs} {p : Int} (b : Nat) (hb : b ≤ x.length) (hx : x.length ≤ 1000000000) (h0 : 0 ≤ p) (hp : p ≤ 3000000000) : goprinter_go_ast_directiveScanner_skip.f (mkB x) p (b : Int) = some (mkB (x.drop b), p + (b : Int)) := by
  obtain ⟨_, q1, q2, q3⟩ := ar20 hb hx h0 hp
  unfold goprinter_go_ast_directiveScanner_skip.f
  rw [mk_size, if_pos q1, if_pos q2, q3, Int.toNat_natCast]
  have e := ext_drop (mkB x) b
  rw [mk_size, bs_mk] at e
  rw [e]
theorem take_any {x : Bs} {p : Int} (b : Nat) (hb : b ≤ x.length) (hx : x.length ≤ 1000000000) (h0 : 0 ≤ p) (hp : p ≤ 3000000000) : goprinter_go_ast_directiveScanner_take.f (mkB x) p (b : Int) = some (mkB (x.take b), mkB (x.drop b), p + (b : Int)) := by
  obtain ⟨_, q1, q2, q3⟩ := ar20 hb hx h0 hp
  unfold goprinter_go_ast_directiveScanner_take.f
  rw [skip_any b hb hx h0 hp]
  simp only [Option.bind_some]
  rw [mk_size, if_pos q1, if_pos q2, Int.toNat_natCast, ext_mk, bs_mk]
theorem skipSpace_any {x : Bs} (h : PL x) {p : Int} (hx : x.length ≤ 1000000000) (h0 : 0 ≤ p) (hp : p ≤ 3000000000) : goprinter_go_ast_directiveScanner_skipSpace.f (mkB x) p = some (mkB (x.dropWhile isS), p + (bl x : Int)) := by
  obtain ⟨q0, q1, q2, q3⟩ := ar20 (bl_le x) hx h0 hp
  unfold goprinter_go_ast_directiveScanner_skipSpace.f strings_TrimLeftFunc.f
  rw [trim_plain h]
  simp only [Option.bind_some]
  rw [mk_size, mk_size, ← bl_drop, List.length_drop, q0, skip_any (bl x) (bl_le x) hx h0 hp]
  rfl
theorem wd_sp {x : Bs} (h : PL x) : (x.takeWhile fun c => Go.Lib.isSpaceR c.toNat != true) = wd x := by
  refine tw_congr fun c hc => ?_
  rw [isSp_eq (h c hc)]
  cases isS c <;> rfl
theorem wd_drop (x : Bs) : x.take (wd x).length = wd x := take_take _ x
theorem takeNonSpace_any {x : Bs} (h : PL x) {p : Int} (hx : x.length ≤ 1000000000) (h0 : 0 ≤ p) (hp : p ≤ 3000000000) : goprinter_go_ast_directiveScanner_takeNonSpace.f (mkB x) p = some (mkB (wd x), mkB (x.drop (wd x).length), p + ((wd x).length : Int)) := by
  have hi := idx_from Go.Lib.isSpaceR true (mkB x) (mkB_asc h) (mkB x).size 0 (by omega) (Nat.zero_le _)
  rw [List.drop_zero, bs_mk, wd_sp h, Nat.zero_add] at hi
  unfold goprinter_go_ast_directiveScanner_takeNonSpace.f strings_IndexFunc.f Go.Lib.idxFunc
  simp only [Option.bind_some]
  rw [hi, mk_size]
  by_cases hlt : (wd x).length < x.length
  · rw [if_pos hlt, if_neg (fun e => absurd e (by omega)), take_any _ (wd_le x) hx h0 hp, wd_drop]
    rfl
  · have e : x.length = (wd x).length := Nat.le_antisymm (Nat.le_of_not_lt hlt) (wd_le x)
    rw [if_neg hlt, if_pos rfl, e, take_any _ (wd_le x) hx h0 hp, wd_drop]
    rfl

/-- As the program tells them. -/
def pA (place : Int) (a : Bs × Bool × Nat) : S53 := ⟨mkB a.1, place + (a.2.2 : Int)⟩
def scP (place : Int) (acc : List S53) : Sc → List S53 × Bool
  | some (some l) => (acc ++ l.map (pA place), false)
  | _ => ([], true)
theorem scP_cons (place : Int) (acc : List S53) (a : Bs × Bool × Nat) (r : Sc) (h : r ≠ none) : scP place (acc ++ [pA place a]) r = scP place acc (scons a r) := by
  match r with
  | none => exact absurd rfl h
  | some none => rfl
  | some (some l) => simp only [scP, scons, List.map_cons, List.append_assoc, List.cons_append, List.nil_append]
theorem scons_ne {a : Bs × Bool × Nat} {r : Sc} (h : scons a r ≠ none) : r ≠ none := fun e => h (by rw [e]; rfl)
theorem scons_yes {a : Bs × Bool × Nat} {r : Sc} (h : ∃ l, scons a r = some (some l)) : ∃ l, r = some (some l) := by
  obtain ⟨l, h⟩ := h
  match r with
  | none => cases h
  | some none => cases h
  | some (some l) => exact ⟨l, rfl⟩
theorem QT_of {c : UInt8} {y : Bs} (hQ : isQ c = true) (hp : PL y) (hT : c = 34 → ToldAll (y.length + 1) y) (hl : y.length + 1 ≤ 1000000000) : QT (mkB (c :: y)).data.toList := by
  show QT (bs (mkB (c :: y)))
  rw [bs_mk]
  exact ⟨c, y, rfl, isQ_or hQ, hp.ascii, hT, hl⟩
theorem prefix_none {c : UInt8} {y : Bs} (hqt : QT (mkB (c :: y)).data.toList) (h : qp (c :: y) = none) : strconv_QuotedPrefix.f (mkB (c :: y)) = some (⟨#[]⟩, true) := by
  unfold strconv_QuotedPrefix.f
  rw [if_pos hqt, show (mkB (c :: y)).data.toList = c :: y from bs_mk _, h]
theorem prefix_some {c : UInt8} {y o z : Bs} (hqt : QT (mkB (c :: y)).data.toList) (h : qp (c :: y) = some (o, z)) : strconv_QuotedPrefix.f (mkB (c :: y)) = some (mkB ((c :: y).take (y.length + 1 - z.length)), false) := by
  unfold strconv_QuotedPrefix.f
  rw [if_pos hqt, show (mkB (c :: y)).data.toList = c :: y from bs_mk _, h]
  simp only
  rw [ext_mk, bs_mk, mk_size]
  rfl
theorem unquote_some {c : UInt8} {y o : Bs} (hqt : QT (mkB (c :: y)).data.toList) (h : qp (c :: y) = some (o, [])) : strconv_Unquote.f (mkB (c :: y)) = some (mkB o, false) := by
  unfold strconv_Unquote.f
  rw [if_pos hqt, show (mkB (c :: y)).data.toList = c :: y from bs_mk _, h]
  rfl
theorem decode_d {d : UInt8} {z : Bs} (h : PL (d :: z)) : (utf8_DecodeRuneInString.f (mkB (d :: z))).bind (fun bt215 => unicode_IsSpace.f bt215.1) = some (isS d) := by
  have hd := h.asc d (List.mem_cons_self ..)
  unfold utf8_DecodeRuneInString.f
  rw [show (mkB (d :: z)).data.toList = d :: z from bs_mk _]
  simp only [List.length_cons, Nat.zero_lt_succ, List.getElem?_cons_zero]
  rw [if_pos hd]
  simp only [Option.bind_some]
  unfold unicode_IsSpace.f
  rw [if_pos ⟨Int.natCast_nonneg _, by omega⟩, Int.toNat_natCast, isSp_eq (h d (List.mem_cons_self ..))]
theorem ar21 {n k : Nat} (h : 2 * (n + 1) + 5 ≤ k) : ∃ m, k = m + 2 ∧ 2 * n + 5 ≤ m := ⟨k - 2, by omega, by omega⟩
theorem ar22 {i a p z N : Nat} (ha : a ≤ i) (h : i + (p + z + 1) ≤ N) (hN : N ≤ 1000000000) : a < 5864062014805 ∧ z ≤ 1000000000 ∧ p + z + 1 ≤ 1000000000 ∧ i + (p + 1) + z ≤ N ∧ p + 1 ≤ p + z + 1 ∧ p + 1 ≤ 1000000000 := by omega
theorem ar23 {place : Int} {i x N : Nat} (h0 : 0 ≤ place) (h1 : place ≤ 1000000) (hi : i + x ≤ N) (hN : N ≤ 1000000000) : 0 ≤ place + (i : Int) ∧ place + (i : Int) ≤ 3000000000 := by omega
theorem ar24 {i w r t N : Nat} (h : i + (t + 1) ≤ N) (hw : w ≤ t + 1) (hr : r = t + 1 - w) (hN : N ≤ 1000000000) : i + w + r ≤ N ∧ r ≤ 1000000000 ∧ t + 1 ≤ 1000000000 := by omega

theorem empty_iff (x : Bs) : ((mkB x).toList = ([] : List UInt8)) ↔ x = [] := by rw [bs_list, bs_mk]

set_option maxHeartbeats 1000000 in
theorem prog_l0 (place : Int) (h0 : 0 ≤ place) (hp : place ≤ 1000000) (N : Nat) (hN : N ≤ 1000000000) : ∀ (n : Nat) (u : Bs) (i k : Nat) (acc : List S53), PL u → (TS u ∨ ∃ l, sc n u i = some (some l)) → u.length < n → i + u.length ≤ N → acc.length ≤ i → 2 * n + 5 ≤ k → sc n u i ≠ none →
    ∃ X Y, goprinter_go_ast_Directive_ParseArgs.l0 k acc (mkB (u.dropWhile isS)) (place + (i : Int) + (bl u : Int)) = some ((scP place acc (sc n u i)).1, (scP place acc (sc n u i)).2, X, Y)
  | 0, _, _, _, _, _, _, h, _, _, _, _ => absurd h (Nat.not_lt_zero _)
  | n + 1, [], i, k, acc, hP, hT, hl, hi, ha, hk, hne => by
    obtain ⟨k, rfl, _⟩ := ar21 hk
    simp only [goprinter_go_ast_Directive_ParseArgs.l0]
    rw [if_pos ((empty_iff (List.dropWhile isS [])).2 rfl)]
    simp only [sc, scP, List.map_nil, List.append_nil]
    exact ⟨_, _, rfl⟩
  | n + 1, c :: t, i, k, acc, hP, hT, hl, hi, ha, hk, hne => by
    have hl' : t.length < n := Nat.lt_of_succ_lt_succ hl
    rw [sc] at hne hT ⊢
    cases hS : isS c with
    | true =>
      rw [hS, if_pos rfl] at hne hT
      rw [if_pos rfl]
      obtain ⟨X, Y, hXY⟩ := prog_l0 place h0 hp N hN n t (i + 1) k acc hP.tail (hT.imp (fun h => h.2) id) hl' (by rw [Nat.add_right_comm]; exact hi) (Nat.le_succ_of_le ha) (Nat.le_trans (Nat.add_le_add_right (Nat.mul_le_mul_left 2 (Nat.le_succ n)) 5) hk) hne
      refine ⟨X, Y, ?_⟩
      rw [← hXY, List.dropWhile_cons, hS, if_pos rfl]
      have e : bl (c :: t) = bl t + 1 := by unfold bl; rw [List.takeWhile_cons, hS]; rfl
      rw [e]
      congr 1
      rw [Int.natCast_add, Int.natCast_add, Int.add_assoc, Int.add_assoc, Int.add_assoc, Int.add_comm (bl t : Int)]
    | false =>
      obtain ⟨k, rfl, hk1⟩ := ar21 hk
      rw [hS, if_neg nft] at hne hT
      rw [if_neg nft, List.dropWhile_cons, hS, if_neg nft]
      have eb : bl (c :: t) = 0 := by unfold bl; rw [List.takeWhile_cons, hS]; rfl
      rw [eb, show ((0 : Nat) : Int) = 0 from rfl, Int.add_zero]
      obtain ⟨p0, p1⟩ := ar23 h0 hp hi hN
      have hcl : (c :: t).length ≤ 1000000000 := Nat.le_trans (Nat.le_trans (Nat.le_add_left _ _) hi) hN
      have hb0 : bt (mkB (c :: t)) 0 = (c.toNat : Int) := bt_get (c := mkB (c :: t)) (i := 0) (by rw [bs_mk]; rfl)
      have g0 : 0 < ((mkB (c :: t)).size : Int) := by rw [mk_size]; exact Int.natCast_pos.2 (Nat.succ_pos _)
      have hj : ∃ b : Bool, goprinter_go_ast_Directive_ParseArgs.l0 (k + 2) acc (mkB (c :: t)) (place + (i : Int)) = goprinter_go_ast_Directive_ParseArgs.j1 (k + 1) acc (place + (i : Int)) b (mkB (c :: t)) (place + (i : Int)) ∧ b = isQ c := by
        rw [goprinter_go_ast_Directive_ParseArgs.l0, if_neg (fun e => List.cons_ne_nil _ _ ((empty_iff _).1 e)), if_pos g0, hb0]
        by_cases c96 : c = 96
        · subst c96
          exact ⟨_, if_pos eq96, rfl⟩
        · refine ⟨_, if_neg (ne96 c96), ?_⟩
          unfold isQ
          rw [beq_eq_false_iff_ne.2 c96, Bool.or_false]
          by_cases c34 : c = 34
          · subst c34; rfl
          · rw [beq_eq_false_iff_ne.2 c34, beq_eq_false_iff_ne.2 (ne34 c34)]
      obtain ⟨b, hj, rfl⟩ := hj
      rw [hj]
      clear hj hb0 g0
      rw [goprinter_go_ast_Directive_ParseArgs.j1]
      cases hQ : isQ c with
      | true =>
        rw [hQ, if_pos rfl] at hne hT
        rw [if_pos rfl, if_pos rfl]
        have hPt : PL t := hP.tail
        cases hq : qp (c :: t) with
        | none =>
          rw [hq] at hT
          have hTS : TS (c :: t) := hT.elim id fun ⟨l, h⟩ => by cases h
          have hqt := QT_of hQ hPt (fun _ => TS_told _ _ hTS.2) hcl
          rw [prefix_none hqt hq]
          simp only [Option.bind_some]
          rw [if_pos trivial]
          exact ⟨_, _, rfl⟩
        | some oz =>
          obtain ⟨o, z⟩ := oz
          obtain ⟨p, hpz, hqp, hTp⟩ := qp_prefix (isQ_or hQ) hq
          have hqt := QT_of hQ hPt (fun e => (hTp e).2) hcl
          have htl : t.length = p.length + z.length := by rw [hpz, List.length_append]
          have hzt : t.length + 1 - z.length = p.length + 1 := by rw [htl, Nat.add_right_comm, Nat.add_sub_cancel]
          have hi2 : i + (p.length + z.length + 1) ≤ N := by rw [← htl]; exact hi
          obtain ⟨q1, q2, q3, q4, q5, q6⟩ := ar22 ha hi2 hN
          have hPp : PL p := (hpz ▸ hPt : PL (p ++ z)).app.1
          have hPz : PL z := (hpz ▸ hPt : PL (p ++ z)).app.2
          have htk : (c :: t).take (p.length + 1) = c :: p := by rw [hpz, List.take_succ_cons]; exact congrArg _ (List.take_left ..)
          have hdr : (c :: t).drop (p.length + 1) = z := by rw [hpz, List.drop_succ_cons]; exact List.drop_left ..
          have hqt2 := QT_of (y := p) hQ hPp (fun e => (hTp e).1) q6
          have hzn : z.length < n := Nat.lt_of_le_of_lt (by rw [htl]; exact Nat.le_add_left _ _) hl'
          have hmk : (mkB (c :: p)).size = p.length + 1 := by rw [mk_size]; rfl
          obtain ⟨p2, p3⟩ := ar23 (i := i + (p.length + 1)) h0 hp q4 hN
          have hpl : p.length + 1 ≤ (c :: t).length := by rw [List.length_cons, htl]; exact q5
          rw [prefix_some hqt hq, hzt, htk]
          simp only [Option.bind_some, hq]
          rw [if_neg nft, hmk, take_any (p.length + 1) hpl hcl p0 p1, htk, hdr]
          simp only [Option.bind_some]
          rw [unquote_some hqt2 hqp]
          simp only [Option.bind_some, hzt]
          have hpos : place + (i : Int) + ((p.length + 1 : Nat) : Int) = place + ((i + (p.length + 1) : Nat) : Int) := by rw [Int.add_assoc, ← Int.natCast_add]
          rw [hpos]
          rw [hq] at hne hT
          simp only [hzt] at hne hT
          have nx : okz z = true → ∃ X Y, ((goprinter_go_ast_directiveScanner_skipSpace.f (mkB z) (place + ((i + (p.length + 1) : Nat) : Int))).bind fun bt213 => goprinter_go_ast_Directive_ParseArgs.l0 k (acc ++ [(⟨mkB o, place + (i : Int)⟩ : S53)]) bt213.1 bt213.2) = some ((scP place acc (scons (o, false, i) (sc n z (i + (p.length + 1))))).1, (scP place acc (scons (o, false, i) (sc n z (i + (p.length + 1))))).2, X, Y) := by
            intro hok
            rw [if_pos hok] at hne hT
            have hTz : TS z ∨ ∃ l, sc n z (i + (p.length + 1)) = some (some l) := hT.imp (fun h => TS_app (a := p) (hpz ▸ h.2)) scons_yes
            have hne2 := scons_ne hne
            rw [skipSpace_any hPz q2 p2 p3]
            simp only [Option.bind_some]
            obtain ⟨X, Y, hXY⟩ := prog_l0 place h0 hp N hN n z (i + (p.length + 1)) k (acc ++ [⟨mkB o, place + (i : Int)⟩]) hPz hTz hzn q4 (by rw [List.length_append]; exact Nat.add_le_add ha (Nat.succ_le_succ (Nat.zero_le _))) hk1 hne2
            refine ⟨X, Y, ?_⟩
            rw [hXY]
            have hsc := scP_cons place acc (o, false, i) _ hne2
            rw [← hsc]
            rfl
          cases z with
          | nil =>
            rw [if_pos ((empty_iff _).2 rfl), if_pos q1]
            exact nx rfl
          | cons d z' =>
            have hdd := decode_d hPz
            rw [if_neg (fun e => List.cons_ne_nil _ _ ((empty_iff _).1 e))]
            obtain ⟨rr, hr1, hr2⟩ := Option.bind_eq_some_iff.1 hdd
            rw [hr1]
            simp only [Option.bind_some]
            rw [hr2]
            simp only [Option.bind_some]
            rw [show okz (d :: z') = isS d from rfl] at nx ⊢
            cases hSd : isS d with
            | true =>
              rw [if_pos rfl, if_pos q1, if_pos rfl]
              exact nx hSd
            | false =>
              rw [if_neg nft, if_neg nft]
              exact ⟨_, _, rfl⟩
      | false =>
        rw [hQ, if_neg nft] at hne hT
        rw [if_neg nft, if_neg nft]
        have hA : ¬ (wd (c :: t)).any isQ = true := fun e => hne (if_pos e)
        rw [if_neg hA] at hne hT ⊢
        have hne2 := scons_ne hne
        have hwl : (wd (c :: t)).length = (wd t).length + 1 := by rw [wd_cons hS]; rfl
        have hln : ((c :: t).drop (wd (c :: t)).length).length = t.length + 1 - (wd (c :: t)).length := by rw [List.length_drop]; rfl
        obtain ⟨q1, q2, q3⟩ := ar24 hi (wd_le (c :: t)) hln hN
        obtain ⟨p2, p3⟩ := ar23 (i := i + (wd (c :: t)).length) h0 hp q1 hN
        have hsp : c :: t = wd (c :: t) ++ (c :: t).drop (wd (c :: t)).length := by
          conv => lhs; rw [← List.take_append_drop (wd (c :: t)).length (c :: t)]
          rw [wd_drop]
        have hPr : PL ((c :: t).drop (wd (c :: t)).length) := (PL.app (hsp ▸ hP)).2
        have hTr : TS ((c :: t).drop (wd (c :: t)).length) ∨ ∃ l, sc n ((c :: t).drop (wd (c :: t)).length) (i + (wd (c :: t)).length) = some (some l) := hT.imp (fun h => by rw [hsp] at h; exact TS_app h) scons_yes
        have hln2 : ((c :: t).drop (wd (c :: t)).length).length < n := by rw [hln, hwl]; exact ar16 hl'
        have g8 : acc.length < 5864062014805 := ar14 (S := N) (Nat.le_trans hN (by decide)) (Nat.le_trans (Nat.le_add_right _ _) hi) ha
        have hpos : place + (i : Int) + ((wd (c :: t)).length : Int) = place + ((i + (wd (c :: t)).length : Nat) : Int) := by rw [Int.add_assoc, ← Int.natCast_add]
        rw [takeNonSpace_any hP hcl p0 p1]
        simp only [Option.bind_some]
        rw [if_pos g8, hpos, skipSpace_any hPr q2 p2 p3]
        simp only [Option.bind_some]
        obtain ⟨X, Y, hXY⟩ := prog_l0 place h0 hp N hN n _ (i + (wd (c :: t)).length) k (acc ++ [⟨mkB (wd (c :: t)), place + (i : Int)⟩]) hPr hTr hln2 q1 (by rw [List.length_append, hwl]; exact Nat.add_le_add ha (Nat.succ_le_succ (Nat.zero_le _))) hk1 hne2
        refine ⟨X, Y, ?_⟩
        rw [hXY]
        have hsc := scP_cons place acc (wd (c :: t), true, i) _ hne2
        rw [← hsc]
        rfl
end Go.Proofs.YtcjiafjahfmdoaaFmt.A
