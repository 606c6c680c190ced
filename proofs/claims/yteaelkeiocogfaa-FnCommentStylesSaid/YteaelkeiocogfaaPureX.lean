/- The lines of one comment, of a group's comments, and the group's text: the package's side, at comments of at most 200000 bytes. -/
import Derived.Test.YteaelkeiocogfaaPureV
namespace Go.Proofs.Yteaelkeiocogfaa.A
open Go.RowKit Go.Proofs.YteaelkeiocogfaaW.PrintWords Go.Proofs.YteaelkeiocogfaaW.PrintLast Go.Proofs.YteaelkeiocogfaaW.PrintMore
set_option linter.unusedVariables false
set_option linter.unusedSimpArgs false

/-- A line without the blanks at its end. -/
def tr (x : Bs) : ByteArray := mkB (trimP isW x)
/-- Comment c gives the lines Ls, whatever stands ahead of it and behind it. -/
def ImplC (c : ByteArray) (Ls : List Bs) : Prop :=
  ∀ (l acc : List ByteArray) (i : Nat) (K0 : Nat) (r : List ByteArray), l.length ≤ 1000000 → i < l.length → rdOf ByteArray.empty l (i : Int) = c → acc.length ≤ 1000000000000 →
    (∀ k, K0 ≤ k → textLines.l0 k (acc ++ Ls.map tr) l (l.length : Int) ((i + 1 : Nat) : Int) = some r) → ∀ k, K0 + 1000000 ≤ k → textLines.l0 k acc l (l.length : Int) (i : Int) = some r

theorem l1_all (l : List ByteArray) (i K0 : Nat) (r : List ByteArray) (hl : l.length ≤ 1000000) (hi : i < l.length) (Ls : List Bs) (hn : Ls.length ≤ 200001) (hsz : ∀ x ∈ Ls, x.length ≤ 200000) (d : Nat) :
    ∀ (j k : Nat) (acc : List ByteArray), Ls.length - j = d → j ≤ Ls.length → acc.length ≤ 1000000000000 + j → (∀ k, K0 ≤ k → textLines.l0 k (acc ++ (Ls.drop j).map tr) l (l.length : Int) ((i + 1 : Nat) : Int) = some r) → K0 + 200002 + d ≤ k →
    textLines.l1 k acc l (l.length : Int) (i : Int) (Ls.map mkB) ((Ls.map mkB).length : Int) (j : Int) = some r := by
  induction d with
  | zero =>
    intro j k acc hd hj hacc ht hk
    obtain ⟨k, rfl⟩ : ∃ m, k = m + 1 := ⟨k - 1, by omega⟩
    have hw : wrap64 ((i : Int) + 1) = ((i + 1 : Nat) : Int) := by unfold wrap64; omega
    simp only [textLines.l1]
    rw [List.length_map, if_neg (by omega), hw]
    have := ht k (by omega)
    rw [List.drop_eq_nil_of_le (by omega)] at this
    simpa using this
  | succ d ih =>
    intro j k acc hd hj hacc ht hk
    obtain ⟨k, rfl⟩ : ∃ m, k = m + 1 := ⟨k - 1, by omega⟩
    have hlt : j < Ls.length := by omega
    have hw : wrap64 ((j : Int) + 1) = ((j + 1 : Nat) : Int) := by unfold wrap64; omega
    have hr : rdOf ByteArray.empty (Ls.map mkB) (j : Int) = mkB Ls[j] := by simp [rdOf, hlt]
    simp only [textLines.l1]
    rw [List.length_map, if_pos (by omega), if_pos (by omega), if_pos (by omega), hr, strip_any (mkB Ls[j]) (by rw [mk_size]; exact hsz _ (List.getElem_mem hlt)) k (by omega)]
    simp only [Option.bind_some]
    rw [if_pos (by omega), hw]
    have := ih (j + 1) k (acc ++ [tr Ls[j]]) (by omega) (by omega) (by simp; omega) (fun k hk => by
      have := ht k hk
      rw [List.drop_eq_getElem_cons hlt, List.map_cons] at this
      rw [List.append_assoc]
      exact this) (by omega)
    rw [List.length_map] at this
    rw [bs_mk]
    exact this

theorem j1_all (l acc : List ByteArray) (x : ByteArray) (i K0 : Nat) (r : List ByteArray) (hl : l.length ≤ 1000000) (hi : i < l.length) (hx : x.size ≤ 200000) (hacc : acc.length ≤ 1000000000000)
    (ht : ∀ k, K0 ≤ k → textLines.l0 k (acc ++ (splitNL (bs x)).map tr) l (l.length : Int) ((i + 1 : Nat) : Int) = some r) (k : Nat) (hk : K0 + 600000 ≤ k) : textLines.j1 k acc x l (l.length : Int) (i : Int) = some r := by
  obtain ⟨k, rfl⟩ : ∃ m, k = m + 1 := ⟨k - 1, by omega⟩
  simp only [textLines.j1]
  rw [split_big x hx k (by omega)]
  simp only [Option.bind_some]
  have h1 := splitNL_len (bs x)
  rw [bs_len] at h1
  refine l1_all l i K0 r hl hi (splitNL (bs x)) (by omega) (fun y hy => ?_) (splitNL (bs x)).length 0 k acc rfl (Nat.zero_le _) (by omega) ht (by omega)
  have hm := split_big x hx 500001 (by omega)
  have := List.mem_map_of_mem (f := mkB) hy
  have hL : ∃ L, Lines x L ∧ L = (splitNL (bs x)).map mkB := by
    obtain ⟨L, hL, hLs⟩ := splitb_l1 x.size 1000000 x [] (Nat.le_refl _) hx (by simp; omega) (by omega)
    exact ⟨L, hLs, by rw [← lines_split hLs, map_mk_bs]⟩
  obtain ⟨L, hLs, e⟩ := hL
  have h2 := lines_size hLs (mkB y) (by rw [e]; exact this)
  rw [mk_size] at h2
  omega

theorem ext_all (c : ByteArray) (a : Nat) : bs (c.extract a c.size) = (bs c).drop a := by
  rw [bs_ext, List.take_of_length_le (by rw [List.length_drop, bs_len]; exact Nat.le_refl _)]
theorem bt_get {c : ByteArray} {i : Nat} {x : UInt8} (h : (bs c)[i]? = some x) : bt c (i : Int) = (x.toNat : Int) := by
  obtain ⟨h1, h2⟩ := List.getElem?_eq_some_iff.1 h
  have h3 : i < c.size := by rw [← bs_len]; exact h1
  rw [bt_bs h3, h2]

/-- A line comment that begins with a blank. -/
theorem implC_blank {c : ByteArray} {r : Bs} (h : bs c = 47 :: 47 :: 32 :: r) (hs : c.size ≤ 200000) : ImplC c (splitNL r) := by
  intro l acc i K0 res hl hi hc hacc ht k hk
  obtain ⟨k, rfl⟩ : ∃ m, k = m + 1 := ⟨k - 1, by omega⟩
  have hz : c.size = r.length + 3 := by rw [← bs_len, h]; simp
  have b1 : bt c 1 = 47 := bt_get (i := 1) (x := 47) (by rw [h]; rfl)
  obtain ⟨rs, hrs⟩ : ∃ rs, c.extract 2 c.size = rs := ⟨_, rfl⟩
  have hr : bs rs = 32 :: r := by rw [← hrs, ext_all, h]; rfl
  have hrz : rs.size = r.length + 1 := by rw [← bs_len, hr]; simp
  have b0 : bt rs 0 = 32 := bt_get (i := 0) (x := 32) (by rw [hr]; rfl)
  have he : bs (rs.extract 1 rs.size) = r := by rw [ext_all, hr]; rfl
  simp only [textLines.l0]
  rw [hc, if_pos (by omega), if_pos (by omega), if_pos (by omega), if_pos (by omega), if_pos b1, if_pos (by omega), hrs, if_neg (by omega), if_pos (by omega), if_pos b0, if_pos (by omega)]
  have hez : (rs.extract 1 rs.size).size = r.length := by rw [← bs_len, he]
  exact j1_all l acc _ i K0 res hl hi (by rw [hez]; omega) hacc (by rw [he]; exact ht) k (by omega)
/-- A comment between markers. -/
theorem implC_block {c : ByteArray} {m : Bs} {a b : UInt8} (h : bs c = 47 :: 42 :: (m ++ [a, b])) (hs : c.size ≤ 200000) : ImplC c (splitNL m) := by
  intro l acc i K0 res hl hi hc hacc ht k hk
  obtain ⟨k, rfl⟩ : ∃ m, k = m + 1 := ⟨k - 1, by omega⟩
  have hz : c.size = m.length + 4 := by rw [← bs_len, h]; simp
  have b1 : bt c 1 = 42 := bt_get (i := 1) (x := 42) (by rw [h]; rfl)
  have hw : wrap64 ((c.size : Int) - 2) = ((m.length + 2 : Nat) : Int) := by unfold wrap64; omega
  have et : ((m.length + 2 : Nat) : Int).toNat = m.length + 2 := by omega
  have he : bs (c.extract 2 (m.length + 2)) = m := by
    rw [bs_ext, h]
    show ((m ++ [a, b])).take (m.length + 2 - 2) = m
    rw [Nat.add_sub_cancel]
    exact List.take_left
  simp only [textLines.l0]
  rw [hc, if_pos (by omega), if_pos (by omega), if_pos (by omega), if_pos (by omega), b1, if_neg (by decide), if_pos rfl, hw, if_pos (by omega), if_pos (by omega), et]
  have hez : (c.extract 2 (m.length + 2)).size = m.length := by rw [← bs_len, he]
  exact j1_all l acc _ i K0 res hl hi (by rw [hez]; omega) hacc (by rw [he]; exact ht) k (by omega)
/-- A line comment without text. -/
theorem implC_empty {c : ByteArray} (h : bs c = [47, 47]) : ImplC c [[]] := by
  intro l acc i K0 res hl hi hc hacc ht k hk
  obtain ⟨k, rfl⟩ : ∃ m, k = m + 1 := ⟨k - 1, by omega⟩
  have hz : c.size = 2 := by rw [← bs_len, h]; rfl
  have b1 : bt c 1 = 47 := bt_get (i := 1) (x := 47) (by rw [h]; rfl)
  obtain ⟨rs, hrs⟩ : ∃ rs, c.extract 2 c.size = rs := ⟨_, rfl⟩
  have hr : bs rs = [] := by rw [← hrs, ext_all, h]; rfl
  have hrz : rs.size = 0 := by rw [← bs_len, hr]; rfl
  simp only [textLines.l0]
  rw [hc, if_pos (by omega), if_pos (by omega), if_pos (by omega), if_pos (by omega), if_pos b1, if_pos (by omega), hrs, if_pos (by omega)]
  exact j1_all l acc rs i K0 res hl hi (by omega) hacc (by rw [hr]; exact ht) k (by omega)
/-- Another line comment. -/
theorem implC_line {c : ByteArray} {x : UInt8} {r : Bs} {b : Bool} (h : bs c = 47 :: 47 :: x :: r) (hx : x ≠ 32) (hs : c.size ≤ 200000) (hd : ∀ k, 500000 < k → goprinter_go_ast_isDirective.f k (mkB (x :: r)) = some b) : ImplC c (if b = true then [] else splitNL (x :: r)) := by
  intro l acc i K0 res hl hi hc hacc ht k hk
  obtain ⟨k, rfl⟩ : ∃ m, k = m + 1 := ⟨k - 1, by omega⟩
  have hz : c.size = r.length + 3 := by rw [← bs_len, h]; simp
  have b1 : bt c 1 = 47 := bt_get (i := 1) (x := 47) (by rw [h]; rfl)
  obtain ⟨rs, hrs⟩ : ∃ rs, c.extract 2 c.size = rs := ⟨_, rfl⟩
  have hr : bs rs = x :: r := by rw [← hrs, ext_all, h]; rfl
  have hrz : rs.size = r.length + 1 := by rw [← bs_len, hr]; simp
  have b0 : bt rs 0 = (x.toNat : Int) := bt_get (i := 0) (x := x) (by rw [hr]; rfl)
  have b32 : ¬ (bt rs 0 = 32) := fun e => hx ((nat_byte (n := 32) (by omega)).1 (b0.symm.trans e))
  have hm : mkB (x :: r) = rs := by rw [← hr, mk_bs]
  have hw : wrap64 ((i : Int) + 1) = ((i + 1 : Nat) : Int) := by unfold wrap64; omega
  rw [hm] at hd
  have hdk := hd k (by omega)
  have hsp : b = false → ∀ k, K0 ≤ k → textLines.l0 k (acc ++ (splitNL (bs rs)).map tr) l (l.length : Int) ((i + 1 : Nat) : Int) = some res := by
    intro e
    subst e
    rw [if_neg (by decide)] at ht
    rw [hr]
    exact ht
  have hst : b = true → ∀ k, K0 ≤ k → textLines.l0 k acc l (l.length : Int) ((i + 1 : Nat) : Int) = some res := by
    intro e
    subst e
    rw [if_pos rfl] at ht
    simpa using ht
  clear ht hd hm hx h hr b0
  simp only [textLines.l0]
  rw [hc, if_pos (by omega), if_pos (by omega), if_pos (by omega), if_pos (by omega), if_pos b1, if_pos (by omega), hrs, if_neg (by omega), if_pos (by omega), if_neg b32, hdk]
  simp only [Option.bind_some]
  cases b with
  | true =>
    rw [if_pos rfl, hw]
    exact hst rfl k (by omega)
  | false =>
    rw [if_neg (by decide)]
    exact j1_all l acc rs i K0 res hl hi (by omega) hacc (hsp rfl) k (by omega)

/-- The lines of all comments. -/
theorem lines_all (l : List ByteArray) (F : ByteArray → List Bs) (hl : l.length ≤ 1000000) (hF : ∀ c ∈ l, ImplC c (F c) ∧ (F c).length ≤ 300000) (d : Nat) : ∀ (i : Nat) (acc : List ByteArray), l.length - i = d → i ≤ l.length → acc.length ≤ i * 300000 →
    ∀ k, d * 1000000 + 1 ≤ k → textLines.l0 k acc l (l.length : Int) (i : Int) = some (acc ++ ((l.drop i).flatMap F).map tr) := by
  induction d with
  | zero =>
    intro i acc hd hi hacc k hk
    obtain ⟨k, rfl⟩ : ∃ m, k = m + 1 := ⟨k - 1, by omega⟩
    simp only [textLines.l0]
    rw [if_neg (by omega), List.drop_eq_nil_of_le (by omega)]
    simp
  | succ d ih =>
    intro i acc hd hi hacc k hk
    have hlt : i < l.length := by omega
    have hmem := List.getElem_mem hlt
    obtain ⟨h1, h2⟩ := hF _ hmem
    have hr : rdOf ByteArray.empty l (i : Int) = l[i] := by simp [rdOf, hlt]
    have e : acc ++ ((l.drop i).flatMap F).map tr = acc ++ (F l[i]).map tr ++ ((l.drop (i + 1)).flatMap F).map tr := by
      rw [List.drop_eq_getElem_cons hlt, List.flatMap_cons, List.map_append, List.append_assoc]
    rw [e]
    exact h1 l acc i (d * 1000000 + 1) _ hl hlt hr (by omega) (fun k hk => ih (i + 1) _ (by omega) (by omega) (by simp; omega) k hk) k (by omega)

/-- The text of the lines. -/
def textB (Ls : List Bs) : Bs := Go.Lib.join (endedB (compB [] (Ls.map (trimP isW)))) [10]
theorem text_of (l : List ByteArray) (F : ByteArray → List Bs) (hl : l.length ≤ 1000000) (hF : ∀ c ∈ l, ImplC c (F c) ∧ (F c).length ≤ 300000) (hn : (l.flatMap F).length ≤ 1000000000) (hj : (textB (l.flatMap F)).length ≤ 140737488355328) :
    impl_CommentText.f l = some (mkB (textB (l.flatMap F))) := by
  unfold impl_CommentText.f
  rw [if_pos hl]
  unfold textF textLines.f
  have := lines_all l F hl hF l.length 0 [] (by omega) (Nat.zero_le _) (by simp) 1000000000000000 (by omega)
  rw [show ((0 : Nat) : Int) = 0 from rfl] at this
  rw [this, List.drop_zero, List.nil_append]
  simp only [Option.bind_some]
  rw [if_pos (by rw [List.length_map]; exact hn)]
  unfold joinF
  have e : (ended (comp [] ((l.flatMap F).map tr))).map (fun x => x.data.toList) = endedB (compB [] ((l.flatMap F).map (trimP isW))) := by
    have h1 := ended_bs (comp [] ((l.flatMap F).map tr))
    rw [comp_bs, List.map_nil, List.map_map] at h1
    have h2 : (bs ∘ tr) = trimP isW := by funext x; exact bs_mk _
    rw [h2] at h1
    exact h1
  unfold textB at hj ⊢
  rw [e, if_pos hj]
  rfl
end Go.Proofs.Yteaelkeiocogfaa.A
