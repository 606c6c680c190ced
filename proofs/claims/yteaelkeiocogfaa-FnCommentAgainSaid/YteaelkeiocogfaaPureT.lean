/- Plain facts on lists of bytes: lines, blanks at ends, empty lines put away, the joined text; no condition. -/
import Derived.Test.YteaelkeiocogfaaGComm
import Derived.Test.YteaelkeiocogfaaPureFnGenerated
import Derived.Lib.Join
namespace Go.Proofs.Yteaelkeiocogfaa.A
open Go.RowKit Go.Proofs.YteaelkeiocogfaaW.PrintWords Go.Proofs.YteaelkeiocogfaaW.PrintLast Go.Proofs.YteaelkeiocogfaaW.PrintMore
set_option linter.unusedVariables false
set_option linter.unusedSimpArgs false

abbrev Bs := List UInt8
def bs (s : ByteArray) : Bs := s.data.toList
def mkB (l : Bs) : ByteArray := ⟨l.toArray⟩
theorem bs_mk (l : Bs) : bs (mkB l) = l := by simp [bs, mkB]
theorem mk_bs (s : ByteArray) : mkB (bs s) = s := by simp [bs, mkB]
theorem bs_inj {s t : ByteArray} (h : bs s = bs t) : s = t := by rw [← mk_bs s, h, mk_bs]
theorem bs_len (s : ByteArray) : (bs s).length = s.size := (Go.Lib.size_eq s).symm
theorem bs_list (s : ByteArray) : s.toList = bs s := Go.Lib.toList_data s
theorem mk_size (l : Bs) : (mkB l).size = l.length := by rw [← bs_len, bs_mk]
theorem bs_ext (s : ByteArray) (a b : Nat) : bs (s.extract a b) = ((bs s).drop a).take (b - a) := Go.Lib.extract_data s a b
theorem bs_app (s t : ByteArray) : bs (s ++ t) = bs s ++ bs t := by simp [bs]
theorem bs_nil : bs (⟨#[]⟩ : ByteArray) = [] := rfl
theorem bs_empty : bs ByteArray.empty = [] := rfl
theorem map_bs_mk (L : List Bs) : (L.map mkB).map bs = L := by
  rw [List.map_map]
  conv => rhs; rw [← List.map_id L]
  exact List.map_congr_left fun x _ => bs_mk x
theorem map_mk_bs (L : List ByteArray) : (L.map bs).map mkB = L := by
  rw [List.map_map]
  conv => rhs; rw [← List.map_id L]
  exact List.map_congr_left fun x _ => mk_bs x
theorem bt_bs {s : ByteArray} {i : Nat} (h : i < s.size) : bt s (i : Int) = (((bs s)[i]'(by rw [bs_len]; exact h)).toNat : Int) := by
  unfold bt
  have e : (i : Int).toNat = i := by omega
  rw [dif_pos (by rw [e]; exact h)]
  simp only [e]
  rfl
theorem nat_byte {a : UInt8} {n : Nat} (hn : n < 256) : ((a.toNat : Int) = (n : Int)) ↔ a = UInt8.ofNat n := by
  constructor
  · intro h
    have : a.toNat = n := by omega
    rw [← this]; simp
  · intro h
    rw [h]
    simp only [UInt8.toNat_ofNat']
    omega

/-! lines -/
def splitNL : Bs → List Bs
  | [] => [[]]
  | c :: r => if c = 10 then [] :: splitNL r else match splitNL r with
    | [] => [[c]]
    | x :: L => (c :: x) :: L
theorem splitNL_none : ∀ l : Bs, 10 ∉ l → splitNL l = [l]
  | [], _ => rfl
  | c :: r, h => by
    have hc : ¬ c = 10 := fun e => h (by simp [e])
    rw [splitNL, if_neg hc, splitNL_none r (fun hr => h (List.mem_cons_of_mem _ hr))]
theorem splitNL_cut : ∀ (p r : Bs), 10 ∉ p → splitNL (p ++ 10 :: r) = p :: splitNL r
  | [], r, _ => by simp [splitNL]
  | c :: p, r, h => by
    have hc : ¬ c = 10 := fun e => h (by simp [e])
    rw [List.cons_append, splitNL, if_neg hc, splitNL_cut p r (fun hr => h (List.mem_cons_of_mem _ hr))]
theorem splitNL_no : ∀ (l : Bs), ∀ x ∈ splitNL l, 10 ∉ x
  | [], x, hx => by simp [splitNL] at hx; simp [hx]
  | c :: r, x, hx => by
    have ih := splitNL_no r
    rw [splitNL] at hx
    by_cases hc : c = 10
    · rw [if_pos hc] at hx
      rcases List.mem_cons.1 hx with rfl | hx
      · simp
      · exact ih x hx
    · rw [if_neg hc] at hx
      split at hx
      · simp at hx; subst hx; simp; exact fun e => hc e.symm
      · rename_i y L e
        rcases List.mem_cons.1 hx with rfl | hx
        · intro hm
          rcases List.mem_cons.1 hm with h | h
          · exact hc h.symm
          · exact ih y (by rw [e]; simp) h
        · exact ih x (by rw [e]; exact List.mem_cons_of_mem _ hx)
theorem splitNL_sub : ∀ (l : Bs), ∀ x ∈ splitNL l, ∀ c ∈ x, c ∈ l
  | [], x, hx => by simp [splitNL] at hx; simp [hx]
  | c :: r, x, hx => by
    have ih := splitNL_sub r
    rw [splitNL] at hx
    by_cases hc : c = 10
    · rw [if_pos hc] at hx
      rcases List.mem_cons.1 hx with rfl | hx
      · simp
      · exact fun d hd => List.mem_cons_of_mem _ (ih x hx d hd)
    · rw [if_neg hc] at hx
      split at hx
      · simp at hx; subst hx; simp
      · rename_i y L e
        rcases List.mem_cons.1 hx with rfl | hx
        · intro d hd
          rcases List.mem_cons.1 hd with rfl | h
          · simp
          · exact List.mem_cons_of_mem _ (ih y (by rw [e]; simp) d h)
        · exact fun d hd => List.mem_cons_of_mem _ (ih x (by rw [e]; exact List.mem_cons_of_mem _ hx) d hd)
theorem splitNL_len : ∀ (l : Bs), (splitNL l).length ≤ l.length + 1
  | [] => by simp [splitNL]
  | c :: r => by
    have ih := splitNL_len r
    rw [splitNL]
    by_cases hc : c = 10
    · rw [if_pos hc]; simp; omega
    · rw [if_neg hc]
      split
      · simp
      · rename_i y L e
        rw [e] at ih
        simp at ih ⊢
        omega
theorem splitNL_flat : ∀ (p : List Bs), (∀ x ∈ p, 10 ∉ x) → splitNL (p.flatMap (· ++ [10])) = p ++ [[]]
  | [], _ => rfl
  | x :: p, h => by
    rw [List.flatMap_cons, List.append_assoc]
    show splitNL (x ++ 10 :: (p.flatMap (· ++ [10]))) = _
    rw [splitNL_cut x _ (h x (by simp)), splitNL_flat p (fun y hy => h y (List.mem_cons_of_mem _ hy))]
    rfl

theorem at_bs {s : ByteArray} {t : Nat} (h : t < s.size) : At s nl t ↔ (bs s)[t]? = some 10 := by
  have h2 : t < (bs s).length := by rw [bs_len]; exact h
  rw [at_bt h, bt_bs h, List.getElem?_eq_getElem h2]
  constructor
  · intro e
    have := (nat_byte (a := (bs s)[t]) (n := 10) (by omega)).1 e
    rw [this]; rfl
  · intro e
    have := Option.some.inj e
    rw [this]; rfl

theorem lines_split {s : ByteArray} {L : List ByteArray} (h : Lines s L) : L.map bs = splitNL (bs s) := by
  induction h with
  | last h =>
    rename_i s
    rw [splitNL_none]
    · rfl
    · intro hm
      obtain ⟨t, ht, he⟩ := List.getElem_of_mem hm
      have ht2 : t < s.size := by rw [← bs_len]; exact ht
      exact h t ht2 ((at_bs ht2).2 (by rw [List.getElem?_eq_getElem ht, he]))
  | cut hj h hn hL ih =>
    rename_i s j L
    have hj2 : j < (bs s).length := by rw [bs_len]; exact hj
    have e10 : (bs s)[j] = 10 := by
      have := (at_bs hj).1 h
      rw [List.getElem?_eq_getElem hj2] at this
      exact Option.some.inj this
    have e : bs s = (bs s).take j ++ 10 :: (bs s).drop (j + 1) := by
      conv => lhs; rw [← List.take_append_drop j (bs s)]
      rw [List.drop_eq_getElem_cons hj2, e10]
    have hno : 10 ∉ (bs s).take j := by
      intro hm
      obtain ⟨t, ht, he⟩ := List.getElem_of_mem hm
      rw [List.length_take] at ht
      have htj : t < j := by omega
      have ht2 : t < s.size := by omega
      refine hn t htj ((at_bs ht2).2 ?_)
      rw [List.getElem_take] at he
      rw [List.getElem?_eq_getElem (by rw [bs_len]; exact ht2), he]
    have e2 : splitNL (bs s) = (bs s).take j :: splitNL ((bs s).drop (j + 1)) := by
      conv => lhs; rw [e]
      exact splitNL_cut _ _ hno
    rw [List.map_cons, ih, e2, bs_ext, bs_ext, List.drop_zero, Nat.sub_zero]
    rw [List.take_of_length_le (l := (bs s).drop (j + 1)) (by rw [List.length_drop, bs_len]; omega)]

/-! blanks at the end -/
def trimP (p : UInt8 → Bool) : Bs → Bs
  | [] => []
  | c :: r => match trimP p r with
    | [] => if p c then [] else [c]
    | x :: l => c :: x :: l
theorem trimP_snoc (p : UInt8 → Bool) : ∀ (l : Bs) (c : UInt8), trimP p (l ++ [c]) = if p c then trimP p l else l ++ [c]
  | [], c => by simp [trimP]
  | d :: l, c => by
    rw [List.cons_append, trimP, trimP_snoc p l c]
    by_cases hc : p c = true
    · rw [if_pos hc, if_pos hc]; rfl
    · rw [if_neg hc, if_neg hc]
      cases l <;> rfl
theorem trimP_congr {p q : UInt8 → Bool} : ∀ {l : Bs}, (∀ c ∈ l, p c = q c) → trimP p l = trimP q l
  | [], _ => rfl
  | c :: l, h => by
    rw [trimP, trimP, trimP_congr (fun d hd => h d (List.mem_cons_of_mem _ hd)), h c (by simp)]
theorem trimP_sub (p : UInt8 → Bool) : ∀ (l : Bs), ∀ c ∈ trimP p l, c ∈ l
  | [], c, h => by simp [trimP] at h
  | d :: l, c, h => by
    rw [trimP] at h
    split at h
    · split at h
      · cases h
      · simp at h; simp [h]
    · rename_i x r e
      rcases List.mem_cons.1 h with rfl | h
      · simp
      · exact List.mem_cons_of_mem _ (trimP_sub p l c (by rw [e]; exact h))
theorem trimP_len (p : UInt8 → Bool) : ∀ (l : Bs), (trimP p l).length ≤ l.length
  | [] => by simp [trimP]
  | d :: l => by
    have := trimP_len p l
    rw [trimP]
    split
    · split <;> simp
    · rename_i x r e
      rw [e] at this
      simp at this ⊢
      omega
theorem trimP_idem (p : UInt8 → Bool) : ∀ (l : Bs), trimP p (trimP p l) = trimP p l
  | [] => rfl
  | c :: l => by
    have ih := trimP_idem p l
    rw [trimP]
    split
    · by_cases hc : p c = true
      · rw [if_pos hc]; rfl
      · rw [if_neg hc]; simp [trimP, hc]
    · rename_i x r e
      rw [e] at ih
      rw [trimP, ih]

/-! empty lines -/
def flat (p : List Bs) : Bs := p.flatMap (· ++ [10])
theorem flat_snoc (p : List Bs) (x : Bs) : flat (p ++ [x]) = flat p ++ x ++ [10] := by simp [flat]
theorem flat_nil_iff (p : List Bs) : flat p = [] ↔ p = [] := by cases p <;> simp [flat]
def lastB (o : List Bs) : Bs := o.getLast?.getD []
theorem lastB_snoc (p : List Bs) (x : Bs) : lastB (p ++ [x]) = x := by simp [lastB]
def compB : List Bs → List Bs → List Bs
  | o, [] => o
  | o, x :: l => if x = [] then (if o = [] then compB o l else if lastB o = [] then compB o l else compB (o ++ [x]) l) else compB (o ++ [x]) l
def endedB (o : List Bs) : List Bs := if o = [] then o else if lastB o = [] then o else o ++ [[]]
/-- The text of lines whose blanks at the end are put away, as the reference gathers it. -/
def specT : Bs → Bool → List Bs → Bs
  | out, _, [] => out
  | out, e, x :: L => if x = [] then specT out true L else specT ((if e = true ∧ out ≠ [] then out ++ [10] else out) ++ x ++ [10]) false L

theorem bs_lastOf (o : List ByteArray) : bs (lastOf o) = lastB (o.map bs) := by
  unfold lastOf lastB
  rcases List.eq_nil_or_concat o with rfl | ⟨p, x, rfl⟩
  · rfl
  · have e : (((p ++ [x]).length : Int) - 1).toNat = p.length := by simp
    unfold rdOf
    rw [List.concat_eq_append, e]
    simp
theorem comp_bs : ∀ (l o : List ByteArray), (comp o l).map bs = compB (o.map bs) (l.map bs)
  | [], o => rfl
  | x :: l, o => by
    rw [List.map_cons, compB, comp]
    have h0 : (x.toList = ([] : List UInt8)) ↔ bs x = [] := by rw [bs_list]
    have h1 : (0 < o.length) ↔ ¬ o.map bs = [] := by cases o <;> simp
    have h2 : ((lastOf o).toList = ([] : List UInt8)) ↔ lastB (o.map bs) = [] := by rw [bs_list, bs_lastOf]
    have e : (o ++ [x]).map bs = o.map bs ++ [bs x] := by simp
    by_cases hx : bs x = []
    · rw [if_pos (h0.2 hx), if_pos hx]
      by_cases ho : o.map bs = []
      · rw [if_neg (fun h => h1.1 h ho), if_pos ho, comp_bs l o]
      · rw [if_pos (h1.2 ho), if_neg ho]
        by_cases hl : lastB (o.map bs) = []
        · rw [if_pos (h2.2 hl), if_pos hl, comp_bs l o]
        · rw [if_neg (fun h => hl (h2.1 h)), if_neg hl, comp_bs l (o ++ [x]), e]
    · rw [if_neg (fun h => hx (h0.1 h)), if_neg hx, comp_bs l (o ++ [x]), e]
theorem ended_bs (o : List ByteArray) : (ended o).map bs = endedB (o.map bs) := by
  unfold ended endedB
  have h1 : (0 < o.length) ↔ ¬ o.map bs = [] := by cases o <;> simp
  have h2 : ((lastOf o).toList = ([] : List UInt8)) ↔ lastB (o.map bs) = [] := by rw [bs_list, bs_lastOf]
  by_cases ho : o.map bs = []
  · rw [if_neg (fun h => h1.1 h ho), if_pos ho]
  · rw [if_pos (h1.2 ho), if_neg ho]
    by_cases hl : lastB (o.map bs) = []
    · rw [if_pos (h2.2 hl), if_pos hl]
    · rw [if_neg (fun h => hl (h2.1 h)), if_neg hl]
      simp [bs_nil]
theorem join_flat : ∀ (p : List Bs), Go.Lib.join (p ++ [[]]) [10] = flat p
  | [] => Go.Lib.join_one [] [10]
  | x :: p => by
    have ih := join_flat p
    rw [List.cons_append, Go.Lib.join_cons]
    cases p with
    | nil => simp [Go.Lib.joinTail, flat]
    | cons y p =>
      rw [List.cons_append, Go.Lib.join_cons] at ih
      rw [List.cons_append]
      have : Go.Lib.joinTail [10] (y :: (p ++ [[]])) = [10] ++ (y ++ Go.Lib.joinTail [10] (p ++ [[]])) := by simp [Go.Lib.joinTail]
      rw [this, ih]
      simp [flat]
/-- The joined lines are the reference's text. -/
theorem joined : ∀ (l o : List Bs), (o = [] ∨ lastB o ≠ [] ∨ ∃ p, p ≠ [] ∧ o = p ++ [[]]) →
    (o = [] → ∀ e, Go.Lib.join (endedB (compB o l)) [10] = specT [] e l) ∧ (lastB o ≠ [] → Go.Lib.join (endedB (compB o l)) [10] = specT (flat o) false l) ∧ (∀ p, p ≠ [] → o = p ++ [[]] → Go.Lib.join (endedB (compB o l)) [10] = specT (flat p) true l)
  | [], o, h => by
    refine ⟨fun ho e => ?_, fun ho => ?_, fun p hp ho => ?_⟩
    · subst ho; simp [compB, endedB, specT, Go.Lib.join_nil]
    · have h0 : o ≠ [] := fun e => ho (by rw [e]; rfl)
      rw [compB, endedB, if_neg h0, if_neg ho, join_flat, specT]
    · subst ho
      have h0 : p ++ [[]] ≠ ([] : List Bs) := by simp
      rw [compB, endedB, if_neg h0, if_pos (lastB_snoc p []), join_flat, specT]
  | x :: l, o, h => by
    have step : ∀ {o : List Bs}, x ≠ [] → Go.Lib.join (endedB (compB (o ++ [x]) l)) [10] = specT (flat o ++ x ++ [10]) false l := by
      intro o hx
      have := (joined l (o ++ [x]) (.inr (.inl (by rw [lastB_snoc]; exact hx)))).2.1 (by rw [lastB_snoc]; exact hx)
      rw [this, flat_snoc]
    by_cases hx : x = []
    · rw [compB, if_pos hx]
      refine ⟨fun ho e => ?_, fun ho => ?_, fun p hp ho => ?_⟩
      · rw [if_pos ho, specT, if_pos hx]
        exact (joined l o h).1 ho true
      · have h0 : o ≠ [] := fun e => ho (by rw [e]; rfl)
        rw [if_neg h0, if_neg ho, specT, if_pos hx, hx]
        exact (joined l (o ++ [[]]) (.inr (.inr ⟨o, h0, rfl⟩))).2.2 o h0 rfl
      · have h0 : o ≠ [] := by rw [ho]; simp
        rw [if_neg h0, if_pos (by rw [ho]; exact lastB_snoc p []), specT, if_pos hx]
        exact (joined l o h).2.2 p hp ho
    · rw [compB, if_neg hx]
      refine ⟨fun ho e => ?_, fun ho => ?_, fun p hp ho => ?_⟩
      · rw [step hx, specT, if_neg hx, ho]
        simp [flat]
      · rw [step hx, specT, if_neg hx]
        simp
      · rw [step hx, specT, if_neg hx, ho, flat_snoc]
        have : flat p ≠ [] := fun e => hp ((flat_nil_iff p).1 e)
        rw [if_pos ⟨rfl, this⟩]
        simp
theorem compB_append : ∀ (l1 l2 o : List Bs), compB o (l1 ++ l2) = compB (compB o l1) l2
  | [], _, _ => rfl
  | x :: l1, l2, o => by
    rw [List.cons_append, compB, compB]
    split
    · split
      · exact compB_append l1 l2 o
      · split
        · exact compB_append l1 l2 o
        · exact compB_append l1 l2 _
    · exact compB_append l1 l2 _
theorem compB_len : ∀ (l o : List Bs), (compB o l).length ≤ o.length + l.length
  | [], o => by simp [compB]
  | x :: l, o => by
    have h1 := compB_len l o
    have h2 := compB_len l (o ++ [x])
    simp at h2
    rw [compB]
    split
    · split
      · simp; omega
      · split
        · simp; omega
        · simp; omega
    · simp; omega
theorem compB_mem : ∀ (l o : List Bs), ∀ x ∈ compB o l, x ∈ o ∨ x ∈ l
  | [], o, x, h => .inl h
  | y :: l, o, x, h => by
    have h1 : x ∈ compB o l → x ∈ o ∨ x ∈ y :: l := fun h => (compB_mem l o x h).imp id (List.mem_cons_of_mem _)
    have h2 : x ∈ compB (o ++ [y]) l → x ∈ o ∨ x ∈ y :: l := fun h => by
      rcases compB_mem l (o ++ [y]) x h with h | h
      · rcases List.mem_append.1 h with h | h
        · exact .inl h
        · rw [List.mem_singleton.1 h]; exact .inr (by simp)
      · exact .inr (List.mem_cons_of_mem _ h)
    rw [compB] at h
    split at h
    · split at h
      · exact h1 h
      · split at h
        · exact h1 h
        · exact h2 h
    · exact h2 h
theorem flat_app (a b : List Bs) : flat (a ++ b) = flat a ++ flat b := by simp [flat]
theorem flat_split : ∀ m : Bs, flat (splitNL m) = m ++ [10]
  | [] => by simp [splitNL, flat]
  | c :: r => by
    have ih := flat_split r
    rw [splitNL]
    by_cases hc : c = 10
    · rw [if_pos hc, hc]
      show [10] ++ flat (splitNL r) = _
      rw [ih]; rfl
    · rw [if_neg hc]
      split
      · rename_i e
        rw [e] at ih
        simp [flat] at ih
      · rename_i y L e
        rw [e] at ih
        show c :: y ++ [10] ++ flat L = c :: (r ++ [10])
        rw [← ih]
        simp [flat]
theorem flat_led : ∀ l : List Bs, l.flatMap (10 :: ·) ++ [10] = 10 :: flat l
  | [] => rfl
  | x :: l => by
    rw [List.flatMap_cons, List.append_assoc, flat_led l]
    simp [flat]
theorem flat_trim (p : UInt8 → Bool) : ∀ l : List Bs, (flat (l.map (trimP p))).length ≤ (flat l).length
  | [] => by simp [flat]
  | x :: l => by
    have := flat_trim p l
    have h2 := trimP_len p x
    simp [flat] at this ⊢
    omega
theorem compB_wt : ∀ (l o : List Bs), (flat (compB o l)).length ≤ (flat o).length + (flat l).length
  | [], o => by simp [compB]
  | x :: l, o => by
    have h1 := compB_wt l o
    have h2 := compB_wt l (o ++ [x])
    rw [flat_snoc] at h2
    have h3 : (flat (x :: l)).length = x.length + 1 + (flat l).length := by
      show (x ++ [10] ++ flat l).length = _
      simp
      omega
    simp at h2
    rw [compB]
    split
    · split
      · omega
      · split
        · omega
        · omega
    · omega
theorem compB_again : ∀ (l o : List Bs), compB [] o = o → compB [] (compB o l) = compB o l
  | [], o, h => h
  | x :: l, o, h => by
    have hs : compB o [x] = o ++ [x] → compB [] (o ++ [x]) = o ++ [x] := fun e => by rw [compB_append, h, e]
    by_cases hx : x = []
    · by_cases ho : o = []
      · have e : compB o (x :: l) = compB o l := by rw [compB, if_pos hx, if_pos ho]
        rw [e]; exact compB_again l o h
      · by_cases hl : lastB o = []
        · have e : compB o (x :: l) = compB o l := by rw [compB, if_pos hx, if_neg ho, if_pos hl]
          rw [e]; exact compB_again l o h
        · have e : compB o (x :: l) = compB (o ++ [x]) l := by rw [compB, if_pos hx, if_neg ho, if_neg hl]
          rw [e]; exact compB_again l _ (hs (by rw [compB, if_pos hx, if_neg ho, if_neg hl, compB]))
    · have e : compB o (x :: l) = compB (o ++ [x]) l := by rw [compB, if_neg hx]
      rw [e]; exact compB_again l _ (hs (by rw [compB, if_neg hx, compB]))
/-- The lines of the text: none twice empty, none empty at the begin and the end. -/
theorem compB_lines (l : List Bs) : ∃ p, (p = [] ∨ lastB p ≠ []) ∧ compB [] p = p ∧ flat p = Go.Lib.join (endedB (compB [] l)) [10] ∧ (flat p).length ≤ (flat l).length ∧ p.length ≤ l.length ∧ ∀ x ∈ p, x ∈ l := by
  have hwt := compB_wt l []
  have hln := compB_len l []
  have ha := compB_again l [] rfl
  have hm := compB_mem l []
  obtain ⟨r, hr⟩ : ∃ r, compB [] l = r := ⟨_, rfl⟩
  rw [hr] at ha hm hwt hln ⊢
  have hwt2 : (flat r).length ≤ (flat l).length := by simpa [flat] using hwt
  have hln2 : r.length ≤ l.length := by simpa using hln
  clear hwt hln
  by_cases h0 : r = []
  · subst h0
    exact ⟨[], .inl rfl, rfl, by simp [flat, endedB, Go.Lib.join_nil], by simp [flat], by simp, fun x hx => by cases hx⟩
  · by_cases hl : lastB r = []
    · rcases List.eq_nil_or_concat r with rfl | ⟨q, x, rfl⟩
      · exact absurd rfl h0
      · rw [List.concat_eq_append] at *
        rw [lastB_snoc] at hl
        subst hl
        rw [compB_append] at ha
        have hq := compB_len q []
        rw [compB, if_pos rfl] at ha
        by_cases h1 : compB [] q = []
        · rw [if_pos h1, compB] at ha
          rw [h1] at ha
          simp at ha
        · rw [if_neg h1] at ha
          by_cases h2 : lastB (compB [] q) = []
          · rw [if_pos h2, compB] at ha
            rw [ha] at hq
            simp at hq
            omega
          · rw [if_neg h2, compB] at ha
            have e : compB [] q = q := List.append_cancel_right ha
            rw [e] at h1 h2
            refine ⟨q, .inr h2, e, ?_, by rw [flat_snoc] at hwt2; simp at hwt2; omega, by simp at hln2; omega, fun x hx => ?_⟩
            · rw [endedB, if_neg h0, if_pos (lastB_snoc q []), join_flat]
            · exact (hm x (by simp [hx])).resolve_left (by simp)
    · refine ⟨r, .inr hl, ha, ?_, hwt2, hln2, fun x hx => (hm x hx).resolve_left (by simp)⟩
      rw [endedB, if_neg h0, if_neg hl, join_flat]
/-- Leading empty lines, and one more at the end, change nothing. -/
theorem compB_led (l : List Bs) : Go.Lib.join (endedB (compB [] ([[]] ++ l ++ [[]]))) [10] = Go.Lib.join (endedB (compB [] l)) [10] := by
  have e1 : compB [] ([[]] ++ l ++ [[]]) = compB (compB [] l) [[]] := by
    rw [compB_append, compB_append]
    rfl
  rw [e1]
  obtain ⟨r, hr⟩ : ∃ r, compB [] l = r := ⟨_, rfl⟩
  rw [hr, compB, if_pos rfl]
  by_cases h0 : r = []
  · rw [if_pos h0, compB]
  · rw [if_neg h0]
    by_cases hl : lastB r = []
    · rw [if_pos hl, compB]
    · rw [if_neg hl, compB, endedB, if_neg (by simp), if_pos (lastB_snoc r []), endedB, if_neg h0, if_neg hl]
end Go.Proofs.Yteaelkeiocogfaa.A
