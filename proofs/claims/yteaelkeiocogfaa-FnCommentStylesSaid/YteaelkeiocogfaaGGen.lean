/- impl.IsGenerated: the file that it builds, and what its generator finds there. -/
import Derived.Test.YteaelkeiocogfaaA3
import Derived.Test.YteaelkeiocogfaaGGroup
import Derived.Test.YteaelkeiocogfaaGNum
import Derived.WalkSpells
import Derived.Deep.RegionLaw
import Derived.Deep.DrawnRows
namespace Go.Proofs.Yteaelkeiocogfaa.A
set_option linter.unusedVariables false
set_option linter.unusedSimpArgs false
open Go.RowKit Go.Proofs.YteaelkeiocogfaaW.PrintWords Go.Proofs.YteaelkeiocogfaaW.PrintLast Go.Proofs.YteaelkeiocogfaaW.PrintMore
attribute [local go_sem ↓] Go.wp_at_zero Go.wp_at_succ

theorem info39 : (Try.prog.info? 39).map (fun i => (i.zero, i.size, i.bytes)) = some (some (.pointer none), 1, 8) := by kernel_rfl

/-- A file of comments in memory: its block, its row of groups, and the groups, one comment each. -/
structure FileW (W : World) (base q : Nat) (clause : Int) (v : Value) (gs : List Nat) (l : List S25) : Prop where
  blk : ∃ cs, W.heap[q]? = some (.cells cs 65 (0, 0)) ∧ cs[1]? = some (.int .i64 clause) ∧ cs[9]? = some v
  own : W.ownsRow base 39 1 v l.length (gs.map fun g => Value.pointer (some ⟨g, 0, none⟩))
  len : gs.length = l.length
  grp : ∀ (i : Nat) (g : Nat) (x : S25), gs[i]? = some g → l[i]? = some x → ∃ v ps, Grp W base g v ps [x]

theorem Grp.below {W W1 : World} {base g : Nat} {v : Value} {ps : List Nat} {l : List S25} (G : Grp W base g v ps l) (hb : Below W.heap.size W W1) : Grp W1 base g v ps l :=
  ⟨blk_below G.blk hb, pw_own_below G.own hb, G.len, fun i p x hi hx => blk_below (G.com i p x hi hx) hb⟩
theorem Grp.lower {W : World} {base base' g : Nat} {v : Value} {ps : List Nat} {l : List S25} (G : Grp W base g v ps l) (hb : base' ≤ base) : Grp W base' g v ps l := ⟨G.blk, own_weaken G.own hb, G.len, G.com⟩
theorem Grp.grown {W W1 : World} {base base' g n : Nat} {v u : Value} {ps : List Nat} {l : List S25} {xs : List Value} (G : Grp W base g v ps l) (ho : W.ownsRow base' 39 1 u n xs) (hg : W.grownBy W1 u.ownBlock) : Grp W1 base g v ps l :=
  ⟨blk_grown G.blk hg (own_ne ho G.blk (by decide)), own_other G.own hg (own_type_ne G.own ho (by decide)), G.len, fun i p x hi hx => blk_grown (G.com i p x hi hx) hg (own_ne ho (G.com i p x hi hx) (by decide))⟩
theorem Grp.set {W : World} {base g q : Nat} {v : Value} {ps : List Nat} {l : List S25} {cs : Array Value} (G : Grp W base g v ps l) (hq : W.heap[q]? = some (.cells cs 65 (0, 0))) (j : Nat) (u : Value) : Grp (W.setCell ⟨q, j, none⟩ u) base g v ps l :=
  ⟨blk_far G.blk (p := ⟨q, j, none⟩) (blk_ne G.blk hq (by decide)) u, own_setCell G.own (own_ne G.own hq (by decide)) u, G.len, fun i p x hi hx => blk_far (G.com i p x hi hx) (p := ⟨q, j, none⟩) (blk_ne (G.com i p x hi hx) hq (by decide)) u⟩

/-- One comment more in the file. -/
theorem FileW.push {wr w1 w2 : World} {base q g X gg cap k : Nat} {clause : Int} {v v1 : Value} {gs ps1 : List Nat} {l : List S25} {x : S25} (G : FileW wr base q clause v gs l) (hk : l.length = k) (hb : Below wr.heap.size wr w1) (G1 : Grp w1 X g v1 ps1 [x]) (hX : base ≤ X)
    (hown2 : w2.ownsRow base 39 1 (.slice (some ⟨gg, 0, none⟩) (k + 1) cap) (k + 1) (gs.map (fun g => Value.pointer (some ⟨g, 0, none⟩)) ++ [.pointer (some ⟨g, 0, none⟩)]))
    (hgrow : (w1.alloc (.cells #[.pointer (some ⟨g, 0, none⟩)] 39)).grownBy w2 v.ownBlock) :
    FileW (w2.setCell ⟨q, 9, none⟩ (.slice (some ⟨gg, 0, none⟩) (k + 1) cap)) base q clause (.slice (some ⟨gg, 0, none⟩) (k + 1) cap) (gs ++ [g]) (l ++ [x]) := by
  obtain ⟨cs, hq, hc1, hc9⟩ := G.blk
  have hl := G.len
  have hb2 := hb.trans ((below_alloc (Below.refl w1.heap.size w1) (.cells #[.pointer (some ⟨g, 0, none⟩)] 39)).mono hb.size)
  have ho := pw_own_below G.own hb2
  have hq2 : w2.heap[q]? = some (.cells cs 65 (0, 0)) := blk_grown (blk_below hq hb2) hgrow (own_ne G.own hq (by decide))
  refine ⟨⟨_, blk_set hq2 9 _, ?_, ?_⟩, ?_, by simp [hl], ?_⟩
  · rw [Array.getElem?_setIfInBounds_ne (by decide)]
    exact hc1
  · have h9 : 9 < cs.size := (Array.getElem?_eq_some_iff.1 hc9).1
    rw [Array.getElem?_setIfInBounds_self_of_lt h9]
  · have hkl : (l ++ [x]).length = k + 1 := by simp [hk]
    rw [hkl, List.map_append]
    exact own_setCell hown2 (own_ne hown2 hq2 (by decide)) _
  · intro i g' y hi hy
    by_cases hik : i < l.length
    · rw [List.getElem?_append_left (by omega)] at hi hy
      obtain ⟨v', ps', G'⟩ := G.grp i g' y hi hy
      exact ⟨v', ps', ((G'.below hb2).grown ho hgrow).set hq2 _ _⟩
    · have hik : i = l.length := by
        have := (List.getElem?_eq_some_iff.1 hi).1
        simp at this
        omega
      subst hik
      rw [List.getElem?_append_right (by omega)] at hi hy
      simp [hl] at hi
      simp at hy
      subst hi
      subst hy
      exact ⟨v1, ps1, (((G1.lower hX).below (below_alloc (Below.refl _ _) _)).grown ho hgrow).set hq2 _ _⟩

/-- One element, read as a row. -/
theorem one_row {W : World} {b t : Nat} {x : S25} {fr : Nat × Nat} (h : W.heap[b]? = some (.cells #[.int .i64 x.f0, .string x.f1] t fr)) : Kd.C k25 W (some ⟨b, 0, none⟩) 1 [x] := by
  refine ⟨rfl, by omega, fun _ => ⟨⟨b, 0, none⟩, rfl, fun j p hp => ?_⟩⟩
  obtain ⟨hj, hp⟩ := List.getElem?_eq_some_iff.1 hp
  have hj0 : j = 0 := by simpa using hj
  subst hj0
  have hpx : x = p := by simpa using hp
  subst hpx
  refine ⟨[.int .i64 x.f0, .string x.f1], rfl, k25_mk W x, fun i u hu => ?_⟩
  have := World.news_of_block (cs := #[.int .i64 x.f0, .string x.f1]) h i u hu
  simpa using this

/-- The marks of a generated file's line. -/
def preB : ByteArray := ⟨#[47, 47, 32, 67, 111, 100, 101, 32, 103, 101, 110, 101, 114, 97, 116, 101, 100, 32]⟩
def sufB : ByteArray := ⟨#[32, 68, 79, 32, 78, 79, 84, 32, 69, 68, 73, 84, 46]⟩
/-- What the generator finds in lines, in a comment, in a file. -/
def genL : List ByteArray → Option Bool
  | [] => some false
  | x :: l => (strings_CutPrefix.f x ⟨#[47, 47, 32, 67, 111, 100, 101, 32, 103, 101, 110, 101, 114, 97, 116, 101, 100, 32]⟩).bind fun a => if a.2 = true then ((strings_CutSuffix.f a.1 ⟨#[32, 68, 79, 32, 78, 79, 84, 32, 69, 68, 73, 84, 46]⟩).bind fun b => if b.2 = true then some true else genL l) else genL l
def genC (k : Nat) (clause : Int) (x : S25) : Option Bool :=
  if x.f0 > clause then some false else
  (goprinter_go_ast_zzContains.f k x.f1 ⟨#[47, 47, 32, 67, 111, 100, 101, 32, 103, 101, 110, 101, 114, 97, 116, 101, 100, 32]⟩).bind fun c => if c = true then ((goprinter_go_ast_zzSplit.f k x.f1 ⟨#[10]⟩).bind fun ls => genL ls) else some false
def genF (k : Nat) (clause : Int) : List S25 → Option Bool
  | [] => some false
  | x :: l => (genC k clause x).bind fun b => if b = true then some true else genF k clause l

theorem FileW.below {W W1 : World} {base q : Nat} {clause : Int} {v : Value} {gs : List Nat} {l : List S25} (G : FileW W base q clause v gs l) (hb : Below W.heap.size W W1) : FileW W1 base q clause v gs l := by
  obtain ⟨cs, hq, h1, h9⟩ := G.blk
  exact ⟨⟨cs, blk_below hq hb, h1, h9⟩, pw_own_below G.own hb, G.len, fun i g x hi hx => by
    obtain ⟨v, ps, G'⟩ := G.grp i g x hi hx
    exact ⟨v, ps, G'.below hb⟩⟩

/-- Comment number i of a file, cell by cell. -/
theorem FileW.elem {W : World} {base q : Nat} {clause : Int} {v : Value} {gs : List Nat} {l : List S25} (G : FileW W base q clause v gs l) (i : Nat) (hi : i < l.length) :
    ∃ b cap g b1 c1 p, v = .slice (some ⟨b, 0, none⟩) l.length cap ∧ W.cell? ⟨b, i, none⟩ = some (.pointer (some ⟨g, 0, none⟩)) ∧ W.cell? ⟨g, 0, none⟩ = some (.slice (some ⟨b1, 0, none⟩) 1 c1) ∧ W.cell? ⟨b1, 0, none⟩ = some (.pointer (some ⟨p, 0, none⟩)) ∧ W.cell? ⟨p, 0, none⟩ = some (.int .i64 (rd_T25 l (i : Int)).f0) ∧ W.cell? ⟨p, 1, none⟩ = some (.string (rd_T25 l (i : Int)).f1) := by
  obtain ⟨b, cap, hv, _, _⟩ := G.own.form (by omega)
  have hip : i < gs.length := by rw [G.len]; exact hi
  obtain ⟨v', ps', G'⟩ := G.grp i gs[i] l[i] (by simp [hip]) (by simp [hi])
  obtain ⟨b1, c1, p, hv', _, hp, h0, h1⟩ := G'.elem 0 (by simp)
  refine ⟨b, cap, gs[i], b1, c1, p, hv, ?_, ?_, ?_, ?_, ?_⟩
  · have := G.own.cells (g := b) (by rw [hv]; rfl) i (.pointer (some ⟨gs[i], 0, none⟩)) (by simp [hip])
    rwa [add_plain] at this
  · have := blk_cell G'.blk 0
    rw [hv'] at this
    exact this.trans rfl
  · simpa using hp
  · rw [rd25 hi]; simpa [rd_T25] using h0
  · rw [rd25 hi]; simpa [rd_T25] using h1

theorem FileW.head {W : World} {base q : Nat} {clause : Int} {v : Value} {gs : List Nat} {l : List S25} (G : FileW W base q clause v gs l) : W.cell? ⟨q, 1, none⟩ = some (.int .i64 clause) ∧ W.cell? ⟨q, 9, none⟩ = some v := by
  obtain ⟨cs, hq, h1, h9⟩ := G.blk
  exact ⟨(blk_cell hq 1).trans h1, (blk_cell hq 9).trans h9⟩

theorem drop25 {l : List S25} {k : Nat} (h : k < l.length) : l.drop k = rd_T25 l (k : Int) :: l.drop (k + 1) := by
  rw [rd25 h, List.drop_eq_getElem_cons h]

theorem pos_call (p : Nat) (x : Int) (w : World) (hp : w.cell? ⟨p, 0, none⟩ = some (.int .i64 x)) :
    Calls Try.prog 35 #[.pointer (some ⟨p, 0, none⟩)] w fun e' w' => e' = .returned (.int .i64 x) ∧ ∃ q, w' = w.drewN q := by
  go_enter Try.func35, Try.ntmps35
  go_wp2
  go_ret
  exact ⟨rfl, 0, rfl⟩

set_option maxHeartbeats 8000000 in
set_option maxRecDepth 100000 in
theorem generator_any (K base q : Nat) (clause : Int) (v : Value) (gs : List Nat) (l : List S25) (r : Bool) (w : World) (G : FileW w base q clause v gs l) (hr : genF K clause l = some r) (hlen : l.length ≤ 1000000) :
    Calls Try.prog 42 #[.pointer (some ⟨q, 0, none⟩)] w fun e w' => (∃ s, e = .returned (.tuple #[.string s, .bool r])) ∧ Below w.heap.size w w' := by
  obtain ⟨A, c, rfl⟩ := own_slice G.own
  have h9 := G.head.2
  have HG := Aside0.mk G
  have HR := Aside0.mk hr
  clear G hr
  go_enter Try.func42, Try.ntmps42
  go_wp2
  go_loopg [19] l.length (fun kq v19 w' => ∃ k : Nat, v19 = .int .i64 k ∧ k ≤ l.length ∧ Hid (kq = l.length - k) ∧ Aside0 (genF K clause (l.drop k) = some r) ∧ Aside0 (Below w.heap.size w w'))
  case atStart => exact ⟨0, by simp, Nat.zero_le _, rfl, ⟨by simpa using HR.out⟩, ⟨Below.refl _ _⟩⟩
  case round =>
    obtain ⟨k, rfl, hk, HM, HF, HB⟩ := hrel
    by_cases hlt : k < l.length
    · obtain ⟨b, cap, g, b1, c1, p, hv, cg, cb, cp, cx0, cx1⟩ := (HG.out.below HB.out).elem k hlt
      injection hv with hA _ hcap
      subst hA
      subst hcap
      obtain ⟨gO, hgO⟩ : ∃ gO : Nat, gO = gk := ⟨_, rfl⟩
      subst hgO
      have HLT := Aside0.mk hlt
      obtain ⟨x, hx⟩ : ∃ x, rd_T25 l (k : Int) = x := ⟨_, rfl⟩
      have HD := drop25 hlt
      rw [hx] at cx0 cx1 HD
      have HF2 : Aside0 (((genC K clause x).bind fun b => if b = true then some true else genF K clause (l.drop (k + 1))) = some r) := ⟨by have := HF.out; rw [HD] at this; exact this⟩
      have c1q := (HG.out.below HB.out).head.1
      clear hx HD HF
      have p0 : (0 : Int) ≤ (k : Int) := by omega
      have p1 : (k : Int) < (l.length : Int) := by omega
      go_wp2
      go_loopg [28] 1 (fun kj v28 wi => ∃ j : Nat, v28 = .int .i64 j ∧ j ≤ 1 ∧ Hid (kj = 1 - j) ∧ Aside0 (j = 1 → genF K clause (l.drop (k + 1)) = some r) ∧ Aside0 (Below wr.heap.size wr wi))
      case atStart => exact ⟨0, by simp, by omega, rfl, ⟨fun h => by cases h⟩, ⟨Below.refl _ _⟩⟩
      case round =>
        obtain ⟨j, rfl, hj, HM2, HJ, HB2⟩ := hrel
        by_cases hj0 : j = 0
        · subst hj0
          replace cp := (HB2.out.cell (World.block_lt_of_cell? _ _ cp)).trans cp
          replace cx0 := (HB2.out.cell (World.block_lt_of_cell? _ _ cx0)).trans cx0
          replace cx1 := (HB2.out.cell (World.block_lt_of_cell? _ _ cx1)).trans cx1
          replace c1q := (HB2.out.cell (World.block_lt_of_cell? _ _ c1q)).trans c1q
          have HB3 := Aside0.mk (HB.out.trans (HB2.out.mono HB.out.size))
          have cpos := fun m => pos_call p x.f0 (wr.drewN m) cx0
          clear cg cb HJ
          obtain ⟨gI, hgI⟩ : ∃ gI : Nat, gI = gk := ⟨_, rfl⟩
          subst hgI
          by_cases hcl : clause < x.f0
          · have hd : decide (clause < x.f0) = true := decide_eq_true hcl
            have hF : genF K clause (l.drop (k + 1)) = some r := by
              have := HF2.out
              unfold genC at this
              rw [if_pos hcl] at this
              simpa using this
            clear hcl
            go_wp2
            go_quiet ((go_at_call 35; exact Calls.quiet_of (cpos _)))
            go_wp2
            go_roundg (gO - 1)
            case measure => have := HM.out; omega
            case rel => exact ⟨k + 1, by go_num, by have := HLT.out; omega, by have := HM.out; show _ = _; omega, ⟨hF⟩, ⟨pw_below_drewN HB3.out _⟩⟩
          · have hd : decide (clause < x.f0) = false := decide_eq_false hcl
            obtain ⟨bb, hbb, H⟩ := Option.bind_eq_some_iff.1 HF2.out
            unfold genC at hbb
            rw [if_neg hcl] at hbb
            obtain ⟨ct, hct, hbb⟩ := Option.bind_eq_some_iff.1 hbb
            have HCT := Aside0.mk hct
            have HH := Aside0.mk H
            clear hcl hct H HF2
            cases ct with
            | false =>
              have hb0 : bb = false := by simpa using hbb.symm
              subst hb0
              clear hbb
              go_wp2
              go_quiet ((go_at_call 35; exact Calls.quiet_of (cpos _)))
              go_wp2_with (go_at_call 49; refine (goprinter_go_ast_zzContains.calls K x.f1 _ false _ HCT.out).mono ?_; rintro e w1 ⟨rfl, ⟨nd, rfl⟩⟩)
              go_roundg (gI - 1)
              case measure => have := HM2.out; omega
              case rel => exact ⟨1, by go_num, by omega, by have := HM2.out; show _ = _; omega, ⟨fun _ => by simpa using HH.out⟩, ⟨by first | exact pw_below_drewN (pw_below_drewN HB2.out _) _ | exact pw_below_drewN HB2.out _⟩⟩
            | true =>
              rw [if_pos rfl] at hbb
              obtain ⟨ls, hls, hbb⟩ := Option.bind_eq_some_iff.1 hbb
              have HLS := Aside0.mk hls
              have HL := Aside0.mk hbb
              clear hls hbb
              go_wp2
              go_quiet ((go_at_call 35; exact Calls.quiet_of (cpos _)))
              go_wp2_with (first
                | (go_at_call 49; refine (goprinter_go_ast_zzContains.calls K x.f1 _ true _ HCT.out).mono ?_; rintro e w1 ⟨rfl, ⟨nd, rfl⟩⟩)
                | (go_at_call 44; refine (goprinter_go_ast_zzSplit.calls K x.f1 _ ls _ HLS.out).mono ?_; rintro e w2 ⟨vl, rfl, hRl, hb2⟩; obtain ⟨Al, cl, rfl⟩ := Kd.R_slice hRl; have HRL := Aside0.mk hRl; have HB4 : Aside0 (Below wr.heap.size wr w2) := ⟨(pw_below_drewN (Below.refl _ _) _).trans (hb2.mono (by simp))⟩; clear hRl hb2))
              go_loopg [50] ls.length (fun km v50 wm => ∃ m : Nat, v50 = .int .i64 m ∧ m ≤ ls.length ∧ Hid (km = ls.length - m) ∧ Aside0 (genL (ls.drop m) = some bb) ∧ Aside0 (Below w2.heap.size w2 wm))
              case atStart => exact ⟨0, by simp, by omega, rfl, ⟨by simpa using HL.out⟩, ⟨Below.refl _ _⟩⟩
              case round =>
                obtain ⟨m, rfl, hm, HM3, HL3, HB5⟩ := hrel
                have HRL2 := Aside0.mk (Kd.R_below HRL.out HB5.out)
                have HLN := Aside0.mk (Kd.R_reads' HRL2.out).2.2.2.1
                by_cases hmlt : m < ls.length
                · have q0 : (0 : Int) ≤ (m : Int) := by omega
                  have q1 : (m : Int) < (ls.length : Int) := by omega
                  obtain ⟨ad, eA, hs0⟩ := Kd.at_string (Kd.R_reads' HRL2.out).2.2 (m : Int) q0 q1
                  cases eA
                  simp only [Int.toNat_natCast] at hs0
                  obtain ⟨y, hy⟩ : ∃ y, rdOf ByteArray.empty ls (m : Int) = y := ⟨_, rfl⟩
                  have hd0 : ls.drop m = y :: ls.drop (m + 1) := by
                    rw [← hy, List.drop_eq_getElem_cons hmlt]
                    simp [rdOf, hmlt]
                  rw [hy] at hs0
                  have H0 := HL3.out
                  rw [hd0] at H0
                  unfold genL at H0
                  obtain ⟨ra, hra, H1⟩ := Option.bind_eq_some_iff.1 H0
                  obtain ⟨ra1, ra2⟩ := ra
                  have HRA := Aside0.mk hra
                  have HMM := Aside0.mk hmlt
                  clear H0 hra hd0 hy hmlt
                  cases ra2 with
                  | false =>
                    have H2 : Aside0 (genL (ls.drop (m + 1)) = some bb) := ⟨by simpa using H1⟩
                    clear H1
                    go_wp2_with (go_at_call 50; refine (strings_CutPrefix.calls y _ ra1 false _ HRA.out).mono ?_; rintro e w3 ⟨rfl, ⟨nd3, rfl⟩⟩)
                    go_roundg (gk - 1)
                    case measure => have := HM3.out; have := HMM.out; omega
                    case rel => exact ⟨m + 1, by have h1 := HMM.out; have h2 := HLN.out; rw [show wrap64 ((m : Int) + 1) = ((m + 1 : Nat) : Int) from by unfold wrap64; omega], by have := HMM.out; omega, by have := HM3.out; show _ = _; omega, H2, ⟨pw_below_drewN HB5.out _⟩⟩
                  | true =>
                    rw [if_pos rfl] at H1
                    obtain ⟨rb, hrb, H2⟩ := Option.bind_eq_some_iff.1 H1
                    obtain ⟨rb1, rb2⟩ := rb
                    have HRB := Aside0.mk hrb
                    clear H1 hrb
                    cases rb2 with
                    | false =>
                      have H3 : Aside0 (genL (ls.drop (m + 1)) = some bb) := ⟨by simpa using H2⟩
                      clear H2
                      go_wp2_with (first
                        | (go_at_call 50; refine (strings_CutPrefix.calls y _ ra1 true _ HRA.out).mono ?_; rintro e w3 ⟨rfl, ⟨nd3, rfl⟩⟩)
                        | (go_at_call 51; refine (strings_CutSuffix.calls ra1 _ rb1 false _ HRB.out).mono ?_; rintro e w4 ⟨rfl, ⟨nd4, rfl⟩⟩))
                      go_roundg (gk - 1)
                      case measure => have := HM3.out; have := HMM.out; omega
                      case rel => exact ⟨m + 1, by have h1 := HMM.out; have h2 := HLN.out; rw [show wrap64 ((m : Int) + 1) = ((m + 1 : Nat) : Int) from by unfold wrap64; omega], by have := HMM.out; omega, by have := HM3.out; show _ = _; omega, H3, ⟨by first | exact pw_below_drewN (pw_below_drewN HB5.out _) _ | exact pw_below_drewN HB5.out _⟩⟩
                    | true =>
                      have hb1 : bb = true := by simpa using H2.symm
                      subst hb1
                      have hr1 : r = true := by have := HH.out; simpa using this.symm
                      subst hr1
                      clear H2
                      go_wp2_with (first
                        | (go_at_call 50; refine (strings_CutPrefix.calls y _ ra1 true _ HRA.out).mono ?_; rintro e w3 ⟨rfl, ⟨nd3, rfl⟩⟩)
                        | (go_at_call 51; refine (strings_CutSuffix.calls ra1 _ rb1 true _ HRB.out).mono ?_; rintro e w4 ⟨rfl, ⟨nd4, rfl⟩⟩))
                      go_ret2
                      have hw2 := HB3.out.trans (HB4.out.mono HB3.out.size)
                      have hw3 := hw2.trans (HB5.out.mono hw2.size)
                      exact ⟨⟨_, rfl⟩, by first | exact pw_below_drewN (pw_below_drewN hw3 _) _ | exact pw_below_drewN hw3 _⟩
                · have q1 : ¬ ((m : Int) < (ls.length : Int)) := by omega
                  have H0 := HL3.out
                  rw [List.drop_eq_nil_of_le (by omega)] at H0
                  simp only [genL, Option.some.injEq] at H0
                  subst H0
                  have h0 : genF K clause (l.drop (k + 1)) = some r := by simpa using HH.out
                  go_wp2
                  go_roundg (gI - 1)
                  case measure => have := HM2.out; omega
                  case rel =>
                    have hw3 := HB2.out.trans (HB4.out.mono HB2.out.size)
                    exact ⟨1, by go_num, by omega, by have := HM2.out; show _ = _; omega, ⟨fun _ => h0⟩, ⟨hw3.trans (HB5.out.mono hw3.size)⟩⟩
        · have hj1 : j = 1 := by omega
          subst hj1
          have h0 := HJ.out rfl
          go_wp2
          go_roundg (gO - 1)
          case measure => have := HM.out; omega
          case rel => exact ⟨k + 1, by go_num, by have := HLT.out; omega, by have := HM.out; show _ = _; omega, ⟨h0⟩, ⟨HB.out.trans (HB2.out.mono HB.out.size)⟩⟩
    · have p1 : ¬ ((k : Int) < (l.length : Int)) := by omega
      have h0 := HF.out
      rw [List.drop_eq_nil_of_le (by omega)] at h0
      simp only [genF, Option.some.injEq] at h0
      subst h0
      go_wp2
      go_ret2
      exact ⟨⟨_, rfl⟩, HB.out⟩

theorem ast_call (K base q : Nat) (clause : Int) (v : Value) (gs : List Nat) (l : List S25) (r : Bool) (w : World) (G : FileW w base q clause v gs l) (hr : genF K clause l = some r) (hlen : l.length ≤ 1000000) :
    Calls Try.prog 28 #[.pointer (some ⟨q, 0, none⟩)] w fun e w' => e = .returned (.bool r) ∧ Below w.heap.size w w' := by
  have HC := generator_any K base q clause v gs l r w G hr hlen
  clear G
  go_enter Try.func28, Try.ntmps28
  go_wp2_with (go_at_call 42; refine HC.mono ?_; rintro e w1 ⟨⟨s, rfl⟩, hb1⟩)
  go_ret
  exact ⟨rfl, hb1⟩

set_option maxHeartbeats 4000000 in
set_option maxRecDepth 100000 in
theorem isGenerated_any (K : Nat) (A : Option Addr) (c : Nat) (l : List S25) (clause : Int) (r : Bool) (w : World) (hr : Kd.C k25 w A l.length l) (hc : l.length ≤ c) (hlen : l.length ≤ 1000000) (hg : genF K clause l = some r) :
    Calls Try.prog 13 #[.slice A l.length c, .int .i64 clause] w fun e w' => e = .returned (.bool r) ∧ Below w.heap.size w w' := by
  have HR := Aside0.mk hr
  have HGF := Aside0.mk hg
  clear hg
  clear hr
  obtain ⟨i0, hi0, hz0, hz1, hz2⟩ := info_parts info39
  go_enter Try.func13, Try.ntmps13
  go_wp2_with (go_at_call 24; refine (newIdent _ _).mono ?_; rintro e w0 ⟨rfl, rfl⟩)
  obtain ⟨q, hq⟩ : ∃ q, q = w.heap.size + 1 := ⟨_, rfl⟩
  rw [← hq]
  have HQ := Aside0.mk hq
  clear hq
  go_loopg [14] l.length (fun kq v14 w' => ∃ k : Nat, v14 = .int .i64 k ∧ k ≤ l.length ∧ Hid (kq = l.length - k) ∧ Aside0 (∃ v gs, FileW w' w.heap.size q clause v gs (l.take k)) ∧ Aside0 (Below w.heap.size w w'))
  case atStart =>
    refine ⟨0, by simp, Nat.zero_le _, rfl, ⟨.slice none 0 0, [], ?_, ?_, rfl, ?_⟩, ⟨below_alloc (below_alloc (Below.refl _ _) _) _⟩⟩
    · rw [HQ.out]
      exact ⟨_, by simpa using heap_alloc_new (w.alloc _) _, rfl, rfl⟩
    · exact own_nil _ _ _ _
    · intro i g x h; simp at h
  case round =>
    obtain ⟨k, rfl, hk, HM, HG, HB⟩ := hrel
    by_cases hlt : k < l.length
    · obtain ⟨ad, eA, hx0, hx1⟩ := at_T25 HR.out (k : Int) (by omega) (by omega)
      cases eA
      replace hx0 := (HB.out.cell (World.block_lt_of_cell? w _ hx0)).trans hx0
      replace hx1 := (HB.out.cell (World.block_lt_of_cell? w _ hx1)).trans hx1
      simp only [Int.toNat_natCast] at hx0 hx1
      have HT := Aside0.mk (take25 hlt)
      obtain ⟨x, hx⟩ : ∃ x, rd_T25 l (k : Int) = x := ⟨_, rfl⟩
      rw [hx] at hx0 hx1 HT
      clear hx
      have p0 : (0 : Int) ≤ (k : Int) := by omega
      have p1 : (k : Int) < (l.length : Int) := by omega
      obtain ⟨v, gs, G⟩ := HG.out
      obtain ⟨cs, hb, hc1, hc9⟩ := G.blk
      have hv : wr.cell? ⟨q, 9, none⟩ = some v := (blk_cell hb 9).trans hc9
      have hgf : wr.frozen? ⟨q, 9, none⟩ = false := blk_frozen hb 9
      have hgo := blk_lt hb
      have nn0 := World.new_ne wr _ hv
      have hgo1 : q < wr.heap.size + 1 := by omega
      have hgo2 : q < wr.heap.size + 1 + 1 := by omega
      have hrow : Hid (Kd.C k25 ((wr.alloc (.cells #[.int .i64 x.f0, .string x.f1] 25)).alloc (.cells #[.int .i64 x.f0, .string x.f1] 25)) (some ⟨wr.heap.size + 1, 0, none⟩) 1 [x]) := by
        refine one_row (t := 25) (fr := (0, 0)) ?_
        simpa using heap_alloc_new (wr.alloc (.cells #[.int .i64 x.f0, .string x.f1] 25)) (.cells #[.int .i64 x.f0, .string x.f1] 25)
      have hlk : (l.take k).length = k := by simp; omega
      have HO : Aside0 (wr.ownsRow w.heap.size 39 1 v k (gs.map fun g => Value.pointer (some ⟨g, 0, none⟩))) := ⟨by have := G.own; rw [hlk] at this; exact this⟩
      have ne1 : Hid (some q ≠ v.ownBlock) := own_ne G.own hb (by decide)
      have hsW := Aside0.mk HB.out.size
      clear hlk
      have HGG := Aside0.mk G
      have HBB := Aside0.mk hb
      clear G hb hc1 hc9 HG
      go_wp2
      go_region_law (first
        | (refine step_append_lies _ (by rfl) _ _ _ (by rfl) w.heap.size 39 i0 _ 1 8 Try.underlying63 hi0 hz0 hz1 hz2 rfl (by omega) v k _ (by rfl) (HO1.out.alloc _) ⟨w1.heap.size, 0, none⟩ 1 1 [.pointer (some ⟨g, 0, none⟩)] (by rfl) (by rfl) (hnew1.out) (by simp [Value.oneCell'])
            (by omega) (by unfold maxLen; omega) (by omega) (by have := hs1.out; have := hsW.out; simp; omega) (w1.heap.size + 1) (by simp) ?_; intro gg cap w2 hown2 hgrow hat hltb; have hc2 : w2.cell? ⟨q, 9, none⟩ = some v := hgrow.cell (cell_al hc1 _) ne1.out; have hf2 : w2.frozen? ⟨q, 9, none⟩ = false := (hgrow.frozen_far _ (by have := hq1.out; simp; omega) ne1.out).trans (fz_al hf1 hc1 _))
        | (go_simp; go_at_call 21; refine (groupOf_any (some ⟨wr.heap.size + 1, 0, none⟩) 1 [x] _ (Kd.C_drew hrow.out) (by simp) (by simp)).mono ?_; rintro e w1 ⟨g, v1, ps1, rfl, G1, hb1⟩; have HB1 : Aside0 (Below wr.heap.size wr w1) := ⟨(below_drew (below_alloc (below_alloc (Below.refl _ _) _) _)).trans (hb1.mono (by simp; omega))⟩; have hc1 : w1.cell? ⟨q, 9, none⟩ = some v := (HB1.out.cell (p := ⟨q, 9, none⟩) hgo).trans hv; have hf1 : w1.frozen? ⟨q, 9, none⟩ = false := (World.frozen?_of_block (HB1.out.block q hgo)).trans hgf; have HO1 := Aside0.mk (pw_own_below HO.out HB1.out); have hnew1 : Hid (∀ (j : Nat) (u : Value), [Value.pointer (some ⟨g, 0, none⟩)][j]? = some u → (w1.alloc (.cells #[.pointer (some ⟨g, 0, none⟩)] 39)).cell? ((⟨w1.heap.size, 0, none⟩ : Addr).add j) = some u) := (World.news_of_block (cs := #[.pointer (some ⟨g, 0, none⟩)]) (t := 39) (fr := (0, 0)) (heap_alloc_new w1 _)); have hs1 := Aside0.mk HB1.out.size; have hq1 : Aside0 (q < w1.heap.size) := ⟨Nat.lt_of_lt_of_le hgo HB1.out.size⟩; have HG1 := Aside0.mk G1; have HG1b := Aside0.mk hb1; clear G1 hb1; have nn1 := World.new_ne w1 _ hc1; have hgq1 : q < w1.heap.size := hq1.out; have hgq2 : q < w1.heap.size + 1 := by omega))
      all_goals
        go_wp2
        go_roundg (gk - 1)
        case measure => have := HM.out; omega
        case rel =>
          have hlk : (l.take k).length = k := by simp; omega
          refine ⟨k + 1, by go_num, by omega, by have := HM.out; show _ = _; omega, ⟨.slice (some ⟨gg, 0, none⟩) (k + 1) cap, gs ++ [g], ?_⟩, ⟨?_⟩⟩
          · rw [HT.out]
            exact HGG.out.push hlk HB1.out HG1.out (by have := hsW.out; simp; omega) hown2 hgrow
          · exact ((below_alloc (HB.out.trans (HB1.out.mono hsW.out)) _).grown hgrow (by have := hs1.out; have := hsW.out; simp; omega) (fun k hk => own_base HO.out k hk)).setCell (by have := HQ.out; show _ ≤ q; omega) _
    · have p1 : ¬ ((k : Int) < (l.length : Int)) := by omega
      obtain ⟨v, gs, G⟩ := HG.out
      rw [List.take_of_length_le (by omega)] at G
      have HC := ast_call K w.heap.size q clause v gs l r wr G HGF.out hlen
      clear G HG
      go_wp2_with (go_at_call 28; refine HC.mono ?_; rintro e w1 ⟨rfl, hb1⟩)
      go_ret
      exact ⟨rfl, HB.out.trans (hb1.mono HB.out.size)⟩

/-- impl.IsGenerated at a list of few comments. -/
def impl_IsGenerated.f (l0 : List S25) (a1 : Int) : Option Bool := if l0.length ≤ 50 then genF 5000 a1 l0 else none

theorem impl_IsGenerated.calls (A0 : Option Addr) (c0 : Nat) (l0 : List S25) (a1 : Int) (r : Bool) (w : World) (hr0 : Kd.C k25 w A0 l0.length l0) (hc0 : l0.length ≤ c0) (h : impl_IsGenerated.f l0 a1 = some r) :
    Calls Try.prog 13 #[.slice A0 l0.length c0, .int .i64 a1] w fun e w' => e = .returned (.bool r) ∧ Below w.heap.size w w' := by
  unfold impl_IsGenerated.f at h
  split at h
  next hb => exact isGenerated_any 5000 A0 c0 l0 a1 r w hr0 hc0 (by omega) h
  next => cases h
end Go.Proofs.Yteaelkeiocogfaa.A
