/- strconv.unquote at a text in quotes with a backslash. -/
import Derived.Test.YtcjiafjahfmdoaaFmtGUqb
import Derived.Test.YtcjiafjahfmdoaaFmtA7
namespace Go.Proofs.YtcjiafjahfmdoaaFmt.A
set_option linter.unusedVariables false
set_option linter.unusedSimpArgs false
open Go.RowKit Go.Shelf Go.Proofs.YtcjiafjahfmdoaaFmtW.PrintWords Go.Proofs.YtcjiafjahfmdoaaFmtW.PrintLast Go.Proofs.YtcjiafjahfmdoaaFmtW.PrintMore

/-- A quoted text behind its first quote: what it tells, and what stands behind the last quote. -/
def uqs : Nat → List UInt8 → Option (List UInt8 × List UInt8)
  | 0, _ => none
  | _ + 1, [] => none
  | k + 1, c :: t => if c = 34 then some ([], t) else match uq (c :: t) with
    | none => none
    | some (v, r) => match uqs k r with
      | none => none
      | some (o, z) => some (v :: o, z)
/-- All its escapes are told. -/
def ToldAll : Nat → List UInt8 → Prop
  | 0, _ => True
  | _ + 1, [] => True
  | k + 1, c :: t => c = 34 ∨ (Told (c :: t) ∧ ∀ v r, uq (c :: t) = some (v, r) → ToldAll k r)

/-- ASCII without newlines and carriage returns. -/
def Asc (l : List UInt8) : Prop := ∀ b ∈ l, b.toNat < 128 ∧ b ≠ 10 ∧ b ≠ 13

theorem uq_suffix {l r : List UInt8} {v : UInt8} (h : uq l = some (v, r)) : ∃ a, a ≠ [] ∧ l = a ++ r := by
  cases l with
  | nil => simp [uq] at h
  | cons c t =>
    by_cases hc : c = 92
    · simp only [uq, if_pos hc] at h
      cases t with
      | nil => cases h
      | cons e r0 =>
        simp only at h
        cases hv : escV e with
        | some v' =>
          rw [hv] at h
          injection h with h
          injection h with h1 h2
          exact ⟨[c, e], by simp, by rw [← h2]; rfl⟩
        | none =>
          rw [hv] at h
          simp only at h
          split at h
          · cases r0 with
            | nil => cases h
            | cons h1 r1 =>
              cases r1 with
              | nil => cases h
              | cons h2 r2 =>
                simp only at h
                split at h
                · injection h with h
                  injection h with g1 g2
                  exact ⟨[c, e, h1, h2], by simp, by rw [← g2]; rfl⟩
                · cases h
          · cases h
    · simp only [uq, if_neg hc] at h
      injection h with h
      injection h with g1 g2
      exact ⟨[c], by simp, by rw [← g2]; rfl⟩

theorem uq_shorter {l r : List UInt8} {v : UInt8} (h : uq l = some (v, r)) : r.length < l.length := by
  obtain ⟨a, ha, rfl⟩ := uq_suffix h
  have : 0 < a.length := List.length_pos_iff.2 ha
  simp
  omega
theorem Asc.rest {l r : List UInt8} {v : UInt8} (hA : Asc l) (h : uq l = some (v, r)) : Asc r := by
  obtain ⟨a, _, rfl⟩ := uq_suffix h
  exact fun b hb => hA b (List.mem_append_right _ hb)

def unqW (s : ByteArray) (n : Nat) (ev : Value) : Option (List UInt8) → Value
  | some z => .tuple #[.string (s.extract 0 (n - z.length)), .string ⟨z.toArray⟩, .nilIface]
  | none => .tuple #[.string ⟨#[]⟩, .string s, ev]

theorem uqs_len {k : Nat} {x o z : List UInt8} (h : uqs k x = some (o, z)) : z.length < x.length := by
  induction k generalizing x o with
  | zero => cases h
  | succ k ih =>
    cases x with
    | nil => cases h
    | cons c t =>
      rw [uqs] at h
      split at h
      · cases h
        simp
      · cases hu : uq (c :: t) with
        | none => rw [hu] at h; cases h
        | some vr =>
          obtain ⟨v, r⟩ := vr
          rw [hu] at h
          simp only at h
          have hs := uq_shorter hu
          cases hk : uqs k r with
          | none => rw [hk] at h; cases h
          | some oz =>
            obtain ⟨o', z'⟩ := oz
            rw [hk] at h
            injection h with h
            injection h with _ h
            subst h
            have := ih hk
            omega

set_option maxHeartbeats 4000000 in
set_option maxRecDepth 100000 in
theorem unq_esc (s : ByteArray) (x0 : List UInt8) (z : ByteArray) (n J E : Nat) (hl : s.data.toList = 34 :: x0) (hE : E = J + 2) (hs : s.size = n) (hn9 : n ≤ 1000000000) (hA : Asc x0) (hT : ToldAll n x0) (hJ : Lib.indexByte x0 34 = (J : Int)) (hEn : E ≤ n) (hz : s.extract 0 E = z) (hc92 : z.data.toList.contains 92 = true)
    (et : TypeId) (ep : Value) (w : World) (hev : ∀ w', Below w.heap.size w w' → w'.cell? ⟨0, 0, none⟩ = some (.iface et ep)) :
    Calls Tryf.prog 33 #[.string s, .bool false] w fun e w' => e = .returned (unqW s n (.iface et ep) ((uqs n x0).map Prod.snd)) ∧ Below w.heap.size w w' := by
  have hb0 : ∀ h : 0 < s.size, ((s[0]'h).toNat : Int) = 34 := at_of hl 0 34 rfl
  have ht := ex_of hl 1 n hs
  rw [show List.drop 1 (34 :: x0) = x0 from rfl] at ht
  have hnx : n = x0.length + 1 := by rw [← hs, sz_of hl]; rfl
  have z1 : ((n : Int) < 2) = False := eq_false (by omega)
  have z1n : (n < 2) = False := eq_false (by omega)
  have q0 : (0 < n) = True := eq_true (by omega)
  have hn1 : 1 ≤ n := by omega
  have hi := fun w => index_any ⟨x0.toArray⟩ 34 w
  rw [show ((34 : Int).toNat.toUInt8) = 34 from rfl, show (ByteArray.mk x0.toArray).data.toList = x0 from rfl, hJ] at hi
  have wE : wrap64 ((J : Int) + 2) = (E : Int) := by unfold wrap64; omega
  have a1 : ((E : Int) ≤ (n : Int)) = True := eq_true (by omega)
  have a2 : (E ≤ n) = True := eq_true (by omega)
  have h92 := fun w => contains_any z 92 w
  rw [show ((92 : Int).toNat.toUInt8) = 92 from rfl, hc92] at h92
  have HNX := Aside0.mk hnx
  have HA := Aside0.mk hA
  have HT := Aside0.mk hT
  have HEV := Aside0.mk hev
  clear hJ hE hc92 hnx hl hA hT hev
  go_enter Tryf.func33, Tryf.ntmps33
  go_wp2_with (first
    | (go_at_call 39; refine (hi _).mono ?_; clear hi; rintro e w1 ⟨rfl, rfl⟩)
    | (go_at_call 40; refine (h92 _).mono ?_; clear h92; rintro e w1 ⟨rfl, rfl⟩))
  clear a1 a2 wE q0 z1 z1n hb0 ht hEn hz
  go_loopg [0] n (fun kq v0 wr => ∃ (X : ByteArray) (x : List UInt8), v0 = .string X ∧ X.data.toList = x ∧ Hid (x.length < kq ∧ x.length ≤ n) ∧ Aside0 (Asc x) ∧ Aside0 (ToldAll kq x) ∧ Hid ((uqs kq x).map Prod.snd = (uqs n x0).map Prod.snd) ∧ Aside0 (Below w1.heap.size w1 wr))
  case atStart => exact ⟨⟨x0.toArray⟩, x0, rfl, rfl, (show _ ∧ _ from ⟨by have := HNX.out; omega, by have := HNX.out; omega⟩), HA, HT, rfl, ⟨Below.refl _ _⟩⟩
  case round =>
    clear HA HT
    obtain ⟨X, x, rfl, hX, HM, HA, HT, HU, HB⟩ := hrel
    cases gk with
    | zero => exact absurd HM.out.1 (Nat.not_lt_zero _)
    | succ g =>
      have he := HEV.out wr HB.out
      cases x with
      | nil =>
        have hXs : X.size = 0 := sz_of hX
        have HN := Aside0.mk (show (uqs n x0).map Prod.snd = none from HU.out.symm)
        clear hX HU
        go_wp2
        repeat (go_quiet (fail); try go_wp2)
        go_ret3
        first | exact ⟨by rw [HN.out]; rfl, HB.out⟩ | exact ⟨by rw [HN.out]; rfl, pw_below_drewN HB.out _⟩
      | cons c t =>
        have hXs := sz_of hX
        obtain ⟨m, hm⟩ : ∃ m, m = (c :: t).length := ⟨_, rfl⟩
        rw [← hm] at hXs
        have hX0 := at_of hX 0 c rfl
        have q0 : (0 < m) = True := eq_true (by rw [hm]; simp)
        by_cases hc : c = 34
        · subst hc
          have hX0 : ∀ h : 0 < X.size, ((X[0]'h).toNat : Int) = 34 := hX0
          have hT := ex_of hX 1 m hXs
          rw [show List.drop 1 (34 :: t) = t from rfl] at hT
          obtain ⟨T, hTT⟩ : ∃ T : ByteArray, T = ⟨t.toArray⟩ := ⟨_, rfl⟩
          rw [← hTT] at hT
          have hTs : T.size = t.length := by rw [hTT]; rfl
          obtain ⟨D, hD⟩ : ∃ D, D = n - t.length := ⟨_, rfl⟩
          have hmt : m = t.length + 1 := by rw [hm]; rfl
          have hle := HM.out.2
          have d1 : (n : Int) - (t.length : Int) = (D : Int) := by simp at hle; omega
          have d2 : ((D : Int) ≤ (n : Int)) = True := eq_true (by omega)
          have d3 : (D ≤ n) = True := eq_true (by omega)
          have q1 : ((1 : Int) ≤ (m : Int)) = True := eq_true (by omega)
          have q1n : (1 ≤ m) = True := eq_true (by omega)
          have HN : Aside0 ((uqs n x0).map Prod.snd = some t) := ⟨by rw [← HU.out, uqs, if_pos rfl]; rfl⟩
          have HD := Aside0.mk hD
          have HTT := Aside0.mk hTT
          obtain ⟨tl, htl⟩ : ∃ tl, tl = t.length := ⟨_, rfl⟩
          rw [← htl] at hTs d1
          have HTL := Aside0.mk htl
          clear hX HU hm hD hTT hmt hle htl
          go_wp2
          repeat (go_quiet (fail); try go_wp2)
          go_ret3
          have hres : unqW s n (.iface et ep) ((uqs n x0).map Prod.snd) = .tuple #[.string (s.extract 0 D), .string T, .nilIface] := by
            rw [HN.out, HD.out, HTT.out]; rfl
          rw [hres]
          first | exact ⟨rfl, HB.out⟩ | exact ⟨rfl, pw_below_drewN HB.out _⟩
        · have hTold : Told (c :: t) ∧ ∀ v r, uq (c :: t) = some (v, r) → ToldAll g r := by
            have := HT.out
            rw [ToldAll] at this
            exact this.resolve_left hc
          have hcall := char_any X (c :: t) hX (fun b hb => (HA.out b hb).1) (by simp) (by simpa using hc) hTold.1 _ wr he
          have hc10 : ((c.toNat : Int) == 10) = false := nat_ne (u8_ne (HA.out c (List.mem_cons_self)).2.1)
          have hc34 : ((c.toNat : Int) == 34) = false := nat_ne (u8_ne hc)
          have hc34b : ((c.toNat : Int) != 34) = true := by rw [bne, hc34]; rfl
          cases hu : uq (c :: t) with
          | none =>
            have HN : Aside0 ((uqs n x0).map Prod.snd = none) := ⟨by rw [← HU.out, uqs, if_neg hc, hu]; rfl⟩
            rw [hu] at hcall
            simp only [uqV] at hcall
            clear hX HU hm hTold
            go_wp2_with (go_at_call 42; refine hcall.mono ?_; clear hcall; rintro e w2 ⟨rfl, nd, rfl⟩; have he2 : (wr.drewN nd).cell? ⟨0, 0, none⟩ = some (.iface et ep) := he)
            repeat (go_quiet (fail); try go_wp2)
            go_ret3
            first | exact ⟨by rw [HN.out]; rfl, pw_below_drewN HB.out _⟩ | exact ⟨by rw [HN.out]; rfl, pw_below_drewN (pw_below_drewN HB.out _) _⟩
          | some vr =>
            obtain ⟨v, r⟩ := vr
            have hsh := uq_shorter hu
            have hHU : Hid ((uqs g r).map Prod.snd = (uqs n x0).map Prod.snd) := by
              have := HU.out
              rw [uqs, if_neg hc, hu] at this
              simp only at this
              show _ = _
              rw [← this]
              cases uqs g r <;> rfl
            have HT2 : Aside0 (ToldAll g r) := ⟨hTold.2 v r hu⟩
            have HA2 : Aside0 (Asc r) := ⟨HA.out.rest hu⟩
            have HM2 : Hid (r.length < g ∧ r.length ≤ n) := by have := HM.out; show _ ∧ _; omega
            rw [hu] at hcall
            simp only [uqV] at hcall
            obtain ⟨Rb, hRb⟩ : ∃ Rb : ByteArray, Rb = ⟨r.toArray⟩ := ⟨_, rfl⟩
            rw [← hRb] at hcall
            have hRd : Aside0 (Rb.data.toList = r) := ⟨by rw [hRb]⟩
            clear hX HU hm hTold hsh hRb
            go_wp2_with (go_at_call 42; refine hcall.mono ?_; clear hcall; rintro e w2 ⟨rfl, nd, rfl⟩)
            go_roundg g
            case measure => omega
            case rel => exact ⟨Rb, r, rfl, hRd.out, HM2, HA2, HT2, hHU, ⟨pw_below_drewN HB.out _⟩⟩
end Go.Proofs.YtcjiafjahfmdoaaFmt.A
namespace Go.Proofs.YtcjiafjahfmdoaaFmt.A
set_option linter.unusedVariables false
set_option linter.unusedSimpArgs false
open Go.RowKit Go.Shelf Go.Proofs.YtcjiafjahfmdoaaFmtW.PrintWords Go.Proofs.YtcjiafjahfmdoaaFmtW.PrintLast Go.Proofs.YtcjiafjahfmdoaaFmtW.PrintMore

def unqU (s : ByteArray) (ev : Value) : Option (List UInt8 × List UInt8) → Value
  | some (o, z) => .tuple #[.string ⟨o.toArray⟩, .string ⟨z.toArray⟩, .nilIface]
  | none => .tuple #[.string ⟨#[]⟩, .string s, ev]

/-- The bytes as numbers. -/
def ints (l : List UInt8) : List Int := l.map fun b => (b.toNat : Int)
theorem strOf_ints (l : List UInt8) : strOfNums (ints l) = ⟨l.toArray⟩ := by
  unfold strOfNums ints
  simp
  exact (List.map_congr_left fun b _ => by simp).trans (List.map_id l)

/-- What is put ahead of a decoded rest. -/
def pre (o : List UInt8) : Option (List UInt8 × List UInt8) → Option (List UInt8 × List UInt8)
  | some (o', z) => some (o ++ o', z)
  | none => none

set_option maxHeartbeats 4000000 in
set_option maxRecDepth 100000 in
theorem unq_esc_un (s : ByteArray) (x0 : List UInt8) (z : ByteArray) (n J E : Nat) (hl : s.data.toList = 34 :: x0) (hE : E = J + 2) (hs : s.size = n) (hn9 : n ≤ 1000000000) (hA : Asc x0) (hT : ToldAll n x0) (hJ : Lib.indexByte x0 34 = (J : Int)) (hEn : E ≤ n) (hz : s.extract 0 E = z) (hc92 : z.data.toList.contains 92 = true)
    (et : TypeId) (ep : Value) (w : World) (hev : ∀ w', Below w.heap.size w w' → w'.cell? ⟨0, 0, none⟩ = some (.iface et ep)) :
    Calls Tryf.prog 33 #[.string s, .bool true] w fun e w' => e = .returned (unqU s (.iface et ep) (uqs n x0)) ∧ Below w.heap.size w w' := by
  have hb0 : ∀ h : 0 < s.size, ((s[0]'h).toNat : Int) = 34 := at_of hl 0 34 rfl
  have ht := ex_of hl 1 n hs
  rw [show List.drop 1 (34 :: x0) = x0 from rfl] at ht
  have hnx : n = x0.length + 1 := by rw [← hs, sz_of hl]; rfl
  have z1 : ((n : Int) < 2) = False := eq_false (by omega)
  have z1n : (n < 2) = False := eq_false (by omega)
  have q0 : (0 < n) = True := eq_true (by omega)
  have hn1 : 1 ≤ n := by omega
  have hi := fun w => index_any ⟨x0.toArray⟩ 34 w
  rw [show ((34 : Int).toNat.toUInt8) = 34 from rfl, show (ByteArray.mk x0.toArray).data.toList = x0 from rfl, hJ] at hi
  have wE : wrap64 ((J : Int) + 2) = (E : Int) := by unfold wrap64; omega
  have a1 : ((E : Int) ≤ (n : Int)) = True := eq_true (by omega)
  have a2 : (E ≤ n) = True := eq_true (by omega)
  have h92 := fun w => contains_any z 92 w
  rw [show ((92 : Int).toNat.toUInt8) = 92 from rfl, hc92] at h92
  have HNX := Aside0.mk hnx
  have HA := Aside0.mk hA
  have HT := Aside0.mk hT
  have HEV := Aside0.mk hev
  obtain ⟨i5, hi5, hz5, hs5, hb5⟩ := info_parts info5
  obtain ⟨wm, hrun, hrow, hgrow⟩ := run_make_own (P := Tryf.prog) (w := w) w.heap.size 55 5 i5 (.int .u8 0) 1 Tryf.underlying55 hi5 hz5 hs5 .i64 .i64 (3 * E / 2) (by rw [hb5]; omega) (by unfold maxLen; omega) (Nat.le_refl _)
  rw [show (((3 * E / 2 : Nat) : Int)) = 3 * (E : Int) / 2 by omega] at hrun
  have hR0 : Aside0 (Kd.R (Kd.int .u8) 5 wm w.heap.size (fun _ => True) (.slice (some ⟨w.heap.size, 0, none⟩) 0 (3 * E / 2)) (ints [])) := ⟨Kd.R_of_own hrow (fun _ _ => trivial)⟩
  have hB0 : Aside0 (Below w.heap.size w wm) := ⟨(Below.refl _ _).grown hgrow (Nat.le_refl _) (fun k hk => by cases hk)⟩
  clear hrow hgrow hi5 hz5 hs5 hb5
  clear hJ hE hc92 hnx hl hA hT hev
  go_enter Tryf.func33, Tryf.ntmps33
  go_wp2_with (first
    | (go_at_call 39; refine (hi _).mono ?_; clear hi; rintro e w1 ⟨rfl, rfl⟩)
    | (go_at_call 40; refine (h92 _).mono ?_; clear h92; rintro e w1 ⟨rfl, rfl⟩))
  clear hrun a1 a2 wE q0 z1 z1n hb0 ht hEn hz
  go_loopg [0, 14] n (fun kq v0 v14 wr => ∃ (X : ByteArray) (x o : List UInt8), v0 = .string X ∧ X.data.toList = x ∧ Hid (x.length < kq ∧ x.length ≤ n) ∧ Aside0 (Asc x) ∧ Aside0 (ToldAll kq x) ∧ Hid (pre o (uqs kq x) = uqs n x0) ∧ Aside0 (o.length + x.length ≤ n) ∧ Aside0 (Kd.R (Kd.int .u8) 5 wr w1.heap.size (fun _ => True) v14 (ints o)) ∧ Aside0 (Below w1.heap.size w1 wr))
  case atStart => exact ⟨⟨x0.toArray⟩, x0, [], rfl, rfl, (show _ ∧ _ from ⟨by have := HNX.out; omega, by have := HNX.out; omega⟩), HA, HT, (show _ = _ from by cases uqs n x0 <;> rfl), ⟨by have := HNX.out; simp; omega⟩, hR0, hB0⟩
  case round =>
    clear HA HT hR0 hB0
    obtain ⟨X, x, o, rfl, hX, HM, HA, HT, HU, HL, HR, HB⟩ := hrel
    cases gk with
    | zero => exact absurd HM.out.1 (Nat.not_lt_zero _)
    | succ g =>
      have he := HEV.out wr HB.out
      cases x with
      | nil =>
        have hXs : X.size = 0 := sz_of hX
        have HN := Aside0.mk (show uqs n x0 = none from HU.out.symm)
        clear hX HU
        go_wp2
        repeat (go_quiet (fail); try go_wp2)
        go_ret3
        first | exact ⟨by rw [HN.out]; rfl, HB.out⟩ | exact ⟨by rw [HN.out]; rfl, pw_below_drewN HB.out _⟩
      | cons c t =>
        have hXs := sz_of hX
        obtain ⟨m, hm⟩ : ∃ m, m = (c :: t).length := ⟨_, rfl⟩
        rw [← hm] at hXs
        have hX0 := at_of hX 0 c rfl
        have q0 : (0 < m) = True := eq_true (by rw [hm]; simp)
        by_cases hc : c = 34
        · subst hc
          have hX0 : ∀ h : 0 < X.size, ((X[0]'h).toNat : Int) = 34 := hX0
          have hT := ex_of hX 1 m hXs
          rw [show List.drop 1 (34 :: t) = t from rfl] at hT
          obtain ⟨T, hTT⟩ : ∃ T : ByteArray, T = ⟨t.toArray⟩ := ⟨_, rfl⟩
          rw [← hTT] at hT
          have hTs : T.size = t.length := by rw [hTT]; rfl
          have hmt : m = t.length + 1 := by rw [hm]; rfl
          have hle := HM.out.2
          have q1 : ((1 : Int) ≤ (m : Int)) = True := eq_true (by omega)
          have q1n : (1 ≤ m) = True := eq_true (by omega)
          have HN : Aside0 (uqs n x0 = some (o, t)) := ⟨by rw [← HU.out, uqs, if_pos rfl]; simp [pre]⟩
          have hcv := own_string (P := Tryf.prog) Tryf.underlying55 Tryf.underlying5 Tryf.underlying9 (Kd.own_of_R HR.out)
          rw [strOf_ints] at hcv
          have HTT := Aside0.mk hTT
          obtain ⟨tl, htl⟩ : ∃ tl, tl = t.length := ⟨_, rfl⟩
          rw [← htl] at hTs
          have HTL := Aside0.mk htl
          clear hX HU hm hTT hmt hle htl
          go_wp2
          repeat (go_quiet (fail); try go_wp2)
          go_ret3
          have hres : unqU s (.iface et ep) (uqs n x0) = .tuple #[.string ⟨o.toArray⟩, .string T, .nilIface] := by
            rw [HN.out, HTT.out]; rfl
          rw [hres]
          first | exact ⟨rfl, HB.out⟩ | exact ⟨rfl, pw_below_drewN HB.out _⟩
        · have hTold : Told (c :: t) ∧ ∀ v r, uq (c :: t) = some (v, r) → ToldAll g r := by
            have := HT.out
            rw [ToldAll] at this
            exact this.resolve_left hc
          have hcall := char_any X (c :: t) hX (fun b hb => (HA.out b hb).1) (by simp) (by simpa using hc) hTold.1 _ wr he
          have hc10 : ((c.toNat : Int) == 10) = false := nat_ne (u8_ne (HA.out c (List.mem_cons_self)).2.1)
          have hc34 : ((c.toNat : Int) == 34) = false := nat_ne (u8_ne hc)
          have hc34b : ((c.toNat : Int) != 34) = true := by rw [bne, hc34]; rfl
          cases hu : uq (c :: t) with
          | none =>
            have HN : Aside0 (uqs n x0 = none) := ⟨by rw [← HU.out, uqs, if_neg hc, hu]; rfl⟩
            rw [hu] at hcall
            simp only [uqV] at hcall
            clear hX HU hm hTold
            go_wp2_with (go_at_call 42; refine hcall.mono ?_; clear hcall; rintro e w2 ⟨rfl, nd, rfl⟩; have he2 : (wr.drewN nd).cell? ⟨0, 0, none⟩ = some (.iface et ep) := he)
            repeat (go_quiet (fail); try go_wp2)
            go_ret3
            first | exact ⟨by rw [HN.out]; rfl, pw_below_drewN HB.out _⟩ | exact ⟨by rw [HN.out]; rfl, pw_below_drewN (pw_below_drewN HB.out _) _⟩
          | some vr =>
            obtain ⟨v, r⟩ := vr
            have hsh := uq_shorter hu
            have hHU : Hid (pre (o ++ [v]) (uqs g r) = uqs n x0) := by
              have := HU.out
              rw [uqs, if_neg hc, hu] at this
              simp only at this
              show _ = _
              rw [← this]
              cases uqs g r with
              | none => rfl
              | some oz => simp [pre]
            have hL2 : Aside0 ((o ++ [v]).length + r.length ≤ n) := ⟨by have := HL.out; simp at this ⊢; simp at hsh; omega⟩
            have hv32 : ((v.toNat : Int) < 128) ∨ ¬ ((v.toNat : Int) < 128) := Decidable.em _
            have hvw : IntKind.u8.wrap (v.toNat : Int) = (v.toNat : Int) := by have := v.toNat_lt; simp [IntKind.wrap, IntKind.bits, IntKind.signed]; omega
            have hin : ints (o ++ [v]) = ints o ++ [(v.toNat : Int)] := by simp [ints]
            have HIN := Aside0.mk hin
            have hlo : Aside0 ((ints o).length + 1 ≤ 1000000001) := ⟨by have := HL.out; simp [ints] at this ⊢; omega⟩
            clear hin
            have HT2 : Aside0 (ToldAll g r) := ⟨hTold.2 v r hu⟩
            have HA2 : Aside0 (Asc r) := ⟨HA.out.rest hu⟩
            have HM2 : Hid (r.length < g ∧ r.length ≤ n) := by have := HM.out; show _ ∧ _; omega
            rw [hu] at hcall
            simp only [uqV] at hcall
            obtain ⟨Rb, hRb⟩ : ∃ Rb : ByteArray, Rb = ⟨r.toArray⟩ := ⟨_, rfl⟩
            rw [← hRb] at hcall
            have hRd : Aside0 (Rb.data.toList = r) := ⟨by rw [hRb]⟩
            clear hX HU hm hTold hsh hRb
            go_wp2_with (first
              | (go_at_call 42; refine hcall.mono ?_; clear hcall; rintro e w2 ⟨rfl, nd, rfl⟩)
              | ((with_reducible refine gate_builtin (b := .append) (xs := #[.tmp 186, .tmp 189]) rfl ?_); at_builtin; refine Kd.R_append (Kd.int .u8) (w0 := w1) w1.heap.size rfl (.tmp 186) (.tmp 189) 55 5 (.int .u8 0) 1 rfl Tryf.underlying55 info5 rfl (by decide) (by omega) u14 (ints o) (v.toNat : Int) [.int .u8 (v.toNat : Int)] (fun _ => True) (fun _ => False) rfl rfl ?aP (fun _ hk => hk.elim) ?aF ?aO ?aB ?aS ?aL ?_; (case aP => exact rfl); (case aB => exact pw_below_drewN HB.out _); (case aF => exact (fun _ _ => trivial)); (case aO => exact Kd.R_drewN HR.out _); (case aS => exact below_size (pw_below_drewN HB.out _)); (case aL => have := hlo.out; omega); intro v14' w27 ho hb hg hat; rw [← HIN.out] at ho; have HO2 := Aside0.mk ho; have HB2 := Aside0.mk hb; clear ho hb hg hat))
            all_goals
              go_roundg g
              case measure => omega
              case rel => exact ⟨Rb, r, o ++ [v], rfl, hRd.out, HM2, HA2, HT2, hHU, hL2, HO2, HB2⟩
end Go.Proofs.YtcjiafjahfmdoaaFmt.A
namespace Go.Proofs.YtcjiafjahfmdoaaFmt.A
set_option linter.unusedVariables false
set_option linter.unusedSimpArgs false
open Go.RowKit Go.Shelf Go.Proofs.YtcjiafjahfmdoaaFmtW.PrintWords Go.Proofs.YtcjiafjahfmdoaaFmtW.PrintLast Go.Proofs.YtcjiafjahfmdoaaFmtW.PrintMore

theorem index_split {c : UInt8} : ∀ {x : List UInt8} {J : Nat}, Lib.indexByte x c = (J : Int) → ∃ a b, x = a ++ c :: b ∧ a.length = J ∧ c ∉ a
  | [], J, h => by simp [Lib.indexByte] at h
  | b :: l, J, h => by
    rw [Lib.indexByte] at h
    by_cases hb : (b == c) = true
    · rw [if_pos hb] at h
      obtain rfl : b = c := by simpa using hb
      exact ⟨[], l, rfl, by simp; omega, by simp⟩
    · rw [if_neg hb] at h
      split at h
      · omega
      · have hge := Lib.indexByte_ge l c
        rename_i hne
        have hne : ¬ Lib.indexByte l c = -1 := by simpa using hne
        obtain ⟨K, hK⟩ : ∃ K : Nat, Lib.indexByte l c = (K : Int) := ⟨(Lib.indexByte l c).toNat, by omega⟩
        obtain ⟨a, b', e, hl, hn⟩ := index_split hK
        refine ⟨b :: a, b', by rw [e]; rfl, by simp; omega, ?_⟩
        simp only [List.mem_cons, not_or]
        exact ⟨fun g => hb (by simp [g]), hn⟩

theorem index_none {c : UInt8} : ∀ {x : List UInt8}, Lib.indexByte x c = -1 → c ∉ x
  | [], _ => by simp
  | b :: l, h => by
    rw [Lib.indexByte] at h
    by_cases hb : (b == c) = true
    · rw [if_pos hb] at h; omega
    · rw [if_neg hb] at h
      split at h
      · rename_i hne
        have := index_none (x := l) (c := c) (by simpa using hne)
        simp only [List.mem_cons, not_or]
        exact ⟨fun g => hb (by simp [g]), this⟩
      · have hge := Lib.indexByte_ge l c
        rename_i hne
        have hne : ¬ Lib.indexByte l c = -1 := by simpa using hne
        omega

/-- What a text that begins with a quote or a back quote tells: its argument, and the rest. -/
def qp : List UInt8 → Option (List UInt8 × List UInt8)
  | 96 :: x => if Lib.indexByte x 96 = -1 then none else some (x.take (Lib.indexByte x 96).toNat, x.drop ((Lib.indexByte x 96).toNat + 1))
  | 34 :: x => uqs (x.length + 1) x
  | _ => none

theorem uqs_mono {k : Nat} {x : List UInt8} (h : x.length < k) : ∀ m, uqs (k + m) x = uqs k x := by
  intro m
  induction k generalizing x with
  | zero => omega
  | succ k ih =>
    cases x with
    | nil => rw [show k + 1 + m = (k + m) + 1 by omega]; rfl
    | cons c t =>
      rw [show k + 1 + m = (k + m) + 1 by omega, uqs, uqs]
      split
      · rfl
      · cases hu : uq (c :: t) with
        | none => rfl
        | some vr =>
          obtain ⟨v, r⟩ := vr
          simp only
          have := uq_shorter hu
          rw [ih (by omega)]

theorem uqs_none {k : Nat} {x : List UInt8} (h : (34 : UInt8) ∉ x) : uqs k x = none := by
  induction k generalizing x with
  | zero => rfl
  | succ k ih =>
    cases x with
    | nil => rfl
    | cons c t =>
      rw [uqs, if_neg (fun g => h (by simp [g]))]
      cases hu : uq (c :: t) with
      | none => rfl
      | some vr =>
        obtain ⟨v, r⟩ := vr
        obtain ⟨a, _, e⟩ := uq_suffix hu
        simp only
        rw [ih (fun g => h (by rw [e]; exact List.mem_append_right _ g))]

theorem uqs_flat {k : Nat} {a b : List UInt8} (h1 : (34 : UInt8) ∉ a) (h2 : (92 : UInt8) ∉ a) (hk : a.length < k) : uqs k (a ++ 34 :: b) = some (a, b) := by
  induction k generalizing a with
  | zero => omega
  | succ k ih =>
    cases a with
    | nil => rw [List.nil_append, uqs, if_pos rfl]
    | cons c t =>
      simp only [List.mem_cons, not_or] at h1 h2
      rw [List.cons_append, uqs, if_neg (Ne.symm h1.1)]
      have hu : uq (c :: (t ++ 34 :: b)) = some (c, t ++ 34 :: b) := by simp only [uq, if_neg (Ne.symm h2.1)]
      rw [hu]
      simp only
      rw [ih h1.2 h2.2 (by simp at hk; omega)]

theorem Asc.of_append {a b : List UInt8} (h : Asc (a ++ b)) : Asc a ∧ Asc b := ⟨fun x hx => h x (List.mem_append_left _ hx), fun x hx => h x (List.mem_append_right _ hx)⟩

def qpV (s : ByteArray) (n : Nat) (ev : Value) : Option (List UInt8 × List UInt8) → Value
  | some (_, z) => .tuple #[.string (s.extract 0 (n - z.length)), .string ⟨z.toArray⟩, .nilIface]
  | none => .tuple #[.string ⟨#[]⟩, .string s, ev]

theorem below_of {w : World} {T : Value} {f : Nat} {args : Array Value} (h : Calls Tryf.prog f args w fun e w' => e = .returned T ∧ ∃ q, w' = w.drewN q) :
    Calls Tryf.prog f args w fun e w' => e = .returned T ∧ Below w.heap.size w w' :=
  h.mono fun e w' ⟨he, q, hw⟩ => ⟨he, by rw [hw]; exact pw_below_drewN (Below.refl _ _) _⟩

theorem ex0_of {s : ByteArray} {l : List UInt8} (h : s.data.toList = l) (i : Nat) : s.extract 0 i = ⟨(l.take i).toArray⟩ := by
  subst h
  apply ByteArray.ext
  apply Array.ext'
  rw [ByteArray.data_extract, Array.toList_extract, List.extract_eq_take_drop]
  simp
theorem ex1_of {s : ByteArray} {l : List UInt8} (h : s.data.toList = l) (i j : Nat) : s.extract i j = ⟨((l.take j).drop i).toArray⟩ := by
  subst h
  apply ByteArray.ext
  apply Array.ext'
  rw [ByteArray.data_extract, Array.toList_extract, List.extract_eq_take_drop]
  exact (List.drop_take).symm

/-- The prefix. -/
theorem unq_prefix (s : ByteArray) (l : List UInt8) (n : Nat) (hl : s.data.toList = l) (hs : s.size = n) (hn9 : n ≤ 1000000000) (c : UInt8) (x : List UInt8) (hlc : l = c :: x) (hc : c = 34 ∨ c = 96) (hA : Asc x) (hT : c = 34 → ToldAll n x) (et : TypeId) (ep : Value) (w : World) (hTab : Tabs w)
    (hev : ∀ w', Below w.heap.size w w' → w'.cell? ⟨0, 0, none⟩ = some (.iface et ep)) :
    Calls Tryf.prog 33 #[.string s, .bool false] w fun e w' => e = .returned (qpV s n (.iface et ep) (qp l)) ∧ Below w.heap.size w w' := by
  have he := hev w (Below.refl _ _)
  subst hlc
  have hn : n = x.length + 1 := by rw [← hs, sz_of hl]; rfl
  have hb0 := at_of hl 0 c rfl
  have ht := ex_of hl 1 n hs
  rw [show List.drop 1 (c :: x) = x from rfl] at ht
  by_cases h2 : n < 2
  · have hx : x = [] := List.eq_nil_of_length_eq_zero (by omega)
    subst hx
    have hq : qp [c] = none := by
      rcases hc with rfl | rfl
      · rfl
      · rfl
    rw [hq]
    exact below_of (unq_short s n false _ hs h2 w he)
  · by_cases hJ : Lib.indexByte x c = -1
    · have hq : qp (c :: x) = none := by
        rcases hc with rfl | rfl
        · show uqs (x.length + 1) x = none
          exact uqs_none (index_none hJ)
        · show (if _ then _ else _) = none
          rw [if_pos hJ]
      rw [hq]
      exact below_of (unq_none s _ n (c.toNat : Int) false _ hs (by omega) hb0 ht (by rw [show ((c.toNat : Int)).toNat.toUInt8 = c by simp]; exact hJ) w he)
    · have hge := Lib.indexByte_ge x c
      obtain ⟨J, hJn⟩ : ∃ J : Nat, Lib.indexByte x c = (J : Int) := ⟨(Lib.indexByte x c).toNat, by omega⟩
      obtain ⟨a, b, hx, hal, hca⟩ := index_split hJn
      have hlen : x.length = J + 1 + b.length := by rw [hx]; simp; omega
      rcases hc with rfl | rfl
      · -- within quotes
        have hz := ex0_of hl (J + 2)
        have hzl : List.take (J + 2) (34 :: x) = 34 :: (a ++ [34]) := by
          rw [List.take_succ_cons, hx, ← hal, List.take_length_add_append]
          rfl
        rw [hzl] at hz
        by_cases h92 : (92 : UInt8) ∈ a
        · have := unq_esc s x _ n J (J + 2) hl rfl hs hn9 hA (hT rfl) hJn (by omega) hz (by simp [h92]) et ep w hev
          refine this.mono fun e w' ⟨h1, h2⟩ => ⟨?_, h2⟩
          rw [h1]
          show _ = Ending.returned (qpV s n _ (uqs (x.length + 1) x))
          rw [← hn]
          cases uqs n x <;> rfl
        · have hq : qp (34 :: x) = some (a, b) := by
            show uqs (x.length + 1) x = _
            rw [hx]
            exact uqs_flat hca h92 (by simp; omega)
          rw [hq]
          have hv := ex1_of hl 1 (J + 1)
          have hvl : List.drop 1 (List.take (J + 1) (34 :: x)) = a := by
            rw [List.take_succ_cons, List.drop_one, List.tail_cons, hx, ← hal, List.take_left']
            rfl
          rw [hvl] at hv
          have hr := ex_of hl (J + 2) n hs
          have hrl : List.drop (J + 2) (34 :: x) = b := by
            rw [List.drop_succ_cons, hx, ← hal]
            simp
          rw [hrl] at hr
          have hAa : Asc a := by rw [hx] at hA; exact hA.of_append.1
          have hV := fun w' (hb : Below w.heap.size w w') => valid_any a (fun b hb => (hAa b hb).1) (by omega) w' (hTab.below hb)
          have := unq_flat s _ _ _ _ n J (J + 2) (J + 1) rfl rfl hs hn9 hb0 ht hJn (by omega) hz (by simp [h92]) (by
              have h10 : (10 : UInt8) ∉ a := fun g => (hAa 10 g).2.1 rfl
              simp [h10]) hv hr w hV
          refine this.mono fun e w' ⟨h1, h2⟩ => ⟨?_, h2⟩
          rw [h1]
          show _ = Ending.returned (.tuple #[.string (s.extract 0 (n - b.length)), .string ⟨b.toArray⟩, .nilIface])
          rw [← hz, show n - b.length = J + 2 by omega]
      · have hq : qp (96 :: x) = some (a, b) := by
          show (if _ then _ else _) = _
          rw [if_neg hJ, hJn, hx]
          simp [← hal]
        rw [hq]
        have hr := ex_of hl (J + 2) n hs
        have hrl : List.drop (J + 2) (96 :: x) = b := by
          rw [List.drop_succ_cons, hx, ← hal]
          simp
        rw [hrl] at hr
        have := below_of (unq_tick s _ _ _ n J (J + 2) rfl hs hn9 hb0 ht hJn (by omega) rfl hr w)
        refine this.mono fun e w' ⟨h1, h2⟩ => ⟨?_, h2⟩
        rw [h1]
        show _ = Ending.returned (.tuple #[.string (s.extract 0 (n - b.length)), .string ⟨b.toArray⟩, .nilIface])
        rw [show n - b.length = J + 2 by omega]
end Go.Proofs.YtcjiafjahfmdoaaFmt.A
namespace Go.Proofs.YtcjiafjahfmdoaaFmt.A
set_option linter.unusedVariables false
set_option linter.unusedSimpArgs false
open Go.RowKit Go.Shelf Go.Proofs.YtcjiafjahfmdoaaFmtW.PrintWords Go.Proofs.YtcjiafjahfmdoaaFmtW.PrintLast Go.Proofs.YtcjiafjahfmdoaaFmtW.PrintMore

theorem escV_told {e v : UInt8} (h : escV e = some v) : e ≠ 117 ∧ e ≠ 85 ∧ ¬ (48 ≤ e.toNat ∧ e.toNat ≤ 55) := by
  have : ∀ x : Fin 256, (escV (UInt8.ofNat x.val)).isSome = true → UInt8.ofNat x.val ≠ 117 ∧ UInt8.ofNat x.val ≠ 85 ∧ ¬ (48 ≤ (UInt8.ofNat x.val).toNat ∧ (UInt8.ofNat x.val).toNat ≤ 55) := by decide +kernel
  have h2 := this ⟨e.toNat, e.toNat_lt⟩
  simp only [UInt8.ofNat_toNat] at h2
  exact h2 (by rw [h]; rfl)

theorem uq_local {l r : List UInt8} {v : UInt8} (h : uq l = some (v, r)) : Told l ∧ ∃ c a, l = c :: a ++ r ∧ ∀ r', uq (c :: a ++ r') = some (v, r') := by
  cases l with
  | nil => simp [uq] at h
  | cons c t =>
    by_cases hc : c = 92
    · subst hc
      simp only [uq, if_pos] at h
      cases t with
      | nil => cases h
      | cons e r0 =>
        simp only at h
        cases hv : escV e with
        | some v' =>
          rw [hv] at h
          injection h with h
          injection h with h1 h2
          refine ⟨escV_told hv, 92, [e], by rw [← h2]; rfl, fun r' => ?_⟩
          show uq (92 :: e :: r') = _
          simp only [uq, if_pos, hv, h1]
        | none =>
          rw [hv] at h
          simp only at h
          split at h
          · rename_i hx
            subst hx
            cases r0 with
            | nil => cases h
            | cons h1 r1 =>
              cases r1 with
              | nil => cases h
              | cons h2 r2 =>
                simp only at h
                cases x1 : hexV h1 with
                | none => rw [x1] at h; simp at h
                | some a =>
                  cases x2 : hexV h2 with
                  | none => rw [x1, x2] at h; simp at h
                  | some b =>
                    rw [x1, x2] at h
                    injection h with h
                    injection h with g1 g2
                    refine ⟨⟨by decide, by decide, by decide⟩, 92, [120, h1, h2], by rw [← g2]; rfl, fun r' => ?_⟩
                    show uq (92 :: 120 :: h1 :: h2 :: r') = _
                    simp only [uq, if_pos, hv, x1, x2, g1]
          · cases h
    · simp only [uq, if_neg hc] at h
      injection h with h
      injection h with g1 g2
      refine ⟨?_, c, [], by rw [← g2]; rfl, fun r' => ?_⟩
      · unfold Told
        split
        · rename_i heq
          injection heq with heq _
          exact absurd heq hc
        · trivial
      · show uq (c :: r') = _
        simp only [uq, if_neg hc]
        rw [g1]

theorem uqs_take {k : Nat} {x o z : List UInt8} (h : uqs k x = some (o, z)) : ToldAll k x ∧ ∃ p, x = p ++ z ∧ ∀ k', p.length < k' → uqs k' p = some (o, []) ∧ ToldAll k' p := by
  induction k generalizing x o with
  | zero => cases h
  | succ k ih =>
    cases x with
    | nil => cases h
    | cons c t =>
      rw [uqs] at h
      by_cases hc : c = 34
      · rw [if_pos hc] at h
        injection h with h
        injection h with h1 h2
        subst hc
        refine ⟨Or.inl rfl, [34], by rw [← h2]; rfl, fun k' hk' => ?_⟩
        obtain ⟨m, rfl⟩ : ∃ m, k' = m + 1 := ⟨k' - 1, by simp at hk'; omega⟩
        exact ⟨by rw [uqs, if_pos rfl, h1], Or.inl rfl⟩
      · rw [if_neg hc] at h
        cases hu : uq (c :: t) with
        | none => rw [hu] at h; cases h
        | some vr =>
          obtain ⟨v, r⟩ := vr
          rw [hu] at h
          simp only at h
          obtain ⟨hT, c', a, hca, hloc⟩ := uq_local hu
          have hcc : c' = c := by injection hca with h1 _; exact h1.symm
          subst hcc
          cases hk : uqs k r with
          | none => rw [hk] at h; cases h
          | some oz =>
            obtain ⟨o', z'⟩ := oz
            rw [hk] at h
            injection h with h
            injection h with g1 g2
            subst g2
            obtain ⟨iT, p, hp, hP⟩ := ih hk
            refine ⟨Or.inr ⟨hT, fun v' r' hvr => ?_⟩, c' :: a ++ p, by rw [hca, hp]; simp, fun k' hk' => ?_⟩
            · rw [hu] at hvr
              injection hvr with hvr
              injection hvr with _ hr
              subst hr
              exact iT
            · obtain ⟨m, rfl⟩ : ∃ m, k' = m + 1 := ⟨k' - 1, by simp at hk'; omega⟩
              obtain ⟨j1, j2⟩ := hP m (by simp at hk'; omega)
              have hl := hloc p
              rw [List.cons_append] at hl ⊢
              refine ⟨?_, Or.inr ⟨(uq_local hl).1, fun v' r' hvr => ?_⟩⟩
              · rw [uqs, if_neg hc, hl]
                simp only
                rw [j1]
                simp only
                rw [g1]
              · rw [hl] at hvr
                injection hvr with hvr
                injection hvr with _ hr
                subst hr
                exact j2

/-- The text. -/
theorem unq_text (s : ByteArray) (l : List UInt8) (n : Nat) (hl : s.data.toList = l) (hs : s.size = n) (hn9 : n ≤ 1000000000) (c : UInt8) (x : List UInt8) (hlc : l = c :: x) (hc : c = 34 ∨ c = 96) (hA : Asc x) (hT : c = 34 → ToldAll n x) (et : TypeId) (ep : Value) (w : World) (hTab : Tabs w)
    (hev : ∀ w', Below w.heap.size w w' → w'.cell? ⟨0, 0, none⟩ = some (.iface et ep)) :
    Calls Tryf.prog 33 #[.string s, .bool true] w fun e w' => e = .returned (unqU s (.iface et ep) (qp l)) ∧ Below w.heap.size w w' := by
  have he := hev w (Below.refl _ _)
  subst hlc
  have hn : n = x.length + 1 := by rw [← hs, sz_of hl]; rfl
  have hb0 := at_of hl 0 c rfl
  have ht := ex_of hl 1 n hs
  rw [show List.drop 1 (c :: x) = x from rfl] at ht
  by_cases h2 : n < 2
  · have hx : x = [] := List.eq_nil_of_length_eq_zero (by omega)
    subst hx
    have hq : qp [c] = none := by
      rcases hc with rfl | rfl
      · rfl
      · rfl
    rw [hq]
    exact below_of (unq_short s n true _ hs h2 w he)
  · by_cases hJ : Lib.indexByte x c = -1
    · have hq : qp (c :: x) = none := by
        rcases hc with rfl | rfl
        · show uqs (x.length + 1) x = none
          exact uqs_none (index_none hJ)
        · show (if _ then _ else _) = none
          rw [if_pos hJ]
      rw [hq]
      exact below_of (unq_none s _ n (c.toNat : Int) true _ hs (by omega) hb0 ht (by rw [show ((c.toNat : Int)).toNat.toUInt8 = c by simp]; exact hJ) w he)
    · have hge := Lib.indexByte_ge x c
      obtain ⟨J, hJn⟩ : ∃ J : Nat, Lib.indexByte x c = (J : Int) := ⟨(Lib.indexByte x c).toNat, by omega⟩
      obtain ⟨a, b, hx, hal, hca⟩ := index_split hJn
      have hlen : x.length = J + 1 + b.length := by rw [hx]; simp; omega
      have hAa : Asc a := by rw [hx] at hA; exact hA.of_append.1
      have hv := ex1_of hl 1 (J + 1)
      have hvl : List.drop 1 (List.take (J + 1) (c :: x)) = a := by
        rw [List.take_succ_cons, List.drop_one, List.tail_cons, hx, ← hal, List.take_left']
        rfl
      rw [hvl] at hv
      have hr := ex_of hl (J + 2) n hs
      have hrl : List.drop (J + 2) (c :: x) = b := by
        rw [List.drop_succ_cons, hx, ← hal]
        simp
      rw [hrl] at hr
      have hz := ex0_of hl (J + 2)
      have hzl : List.take (J + 2) (c :: x) = c :: (a ++ [c]) := by
        rw [List.take_succ_cons, hx, ← hal, List.take_length_add_append]
        rfl
      rw [hzl] at hz
      rcases hc with rfl | rfl
      · by_cases h92 : (92 : UInt8) ∈ a
        · have := unq_esc_un s x _ n J (J + 2) hl rfl hs hn9 hA (hT rfl) hJn (by omega) hz (by simp [h92]) et ep w hev
          refine this.mono fun e w' ⟨h1, h2⟩ => ⟨?_, h2⟩
          rw [h1]
          show _ = Ending.returned (unqU s _ (uqs (x.length + 1) x))
          rw [← hn]
        · have hq : qp (34 :: x) = some (a, b) := by
            show uqs (x.length + 1) x = _
            rw [hx]
            exact uqs_flat hca h92 (by simp; omega)
          rw [hq]
          have hV := fun w' (hb : Below w.heap.size w w') => valid_any a (fun b hb => (hAa b hb).1) (by omega) w' (hTab.below hb)
          have hzd : (ByteArray.mk (34 :: (a ++ [34])).toArray).data.toList = 34 :: (a ++ [34]) := rfl
          have hp := ex1_of hzd 1 (J + 1)
          have hpl : List.drop 1 (List.take (J + 1) (34 :: (a ++ [34]))) = a := by
            rw [List.take_succ_cons, List.drop_one, List.tail_cons, ← hal, List.take_left']
            rfl
          rw [hpl] at hp
          exact unq_flat_un s _ _ _ _ _ n J (J + 2) (J + 1) rfl rfl hs hn9 hb0 ht hJn (by omega) hz (by simp [h92]) (by
              have h10 : (10 : UInt8) ∉ a := fun g => (hAa 10 g).2.1 rfl
              simp [h10]) hv hr (by rw [sz_of hzd]; simp; omega) hp w hV
      · have hq : qp (96 :: x) = some (a, b) := by
          show (if _ then _ else _) = _
          rw [if_neg hJ, hJn, hx]
          simp [← hal]
        rw [hq]
        exact below_of (unq_tick_un s _ _ _ _ n J (J + 2) (J + 1) rfl rfl hs hn9 hb0 ht hJn (by omega) hz (by
              have h13 : (13 : UInt8) ∉ a := fun g => (hAa 13 g).2.2 rfl
              simp [h13]) hv hr w)
end Go.Proofs.YtcjiafjahfmdoaaFmt.A
namespace Go.Proofs.YtcjiafjahfmdoaaFmt.A
set_option linter.unusedVariables false
set_option linter.unusedSimpArgs false
open Go.RowKit Go.Shelf Go.Proofs.YtcjiafjahfmdoaaFmtW.PrintWords Go.Proofs.YtcjiafjahfmdoaaFmtW.PrintLast Go.Proofs.YtcjiafjahfmdoaaFmtW.PrintMore

theorem Tabs.errs {W : World} (h : Tabs W) : ∃ p, ∀ w', Below W.heap.size W w' → w'.cell? ⟨0, 0, none⟩ = some (.iface 85 (.pointer (some p))) := by
  obtain ⟨p, hp⟩ := h.err
  exact ⟨p, fun w' hb => (hb.cell (World.block_lt_of_cell? W _ hp)).trans hp⟩

set_option maxHeartbeats 1000000 in
theorem prefix_any (s : ByteArray) (l : List UInt8) (n : Nat) (hl : s.data.toList = l) (hs : s.size = n) (hn9 : n ≤ 1000000000) (c : UInt8) (x : List UInt8) (hlc : l = c :: x) (hc : c = 34 ∨ c = 96) (hA : Asc x) (hT : c = 34 → ToldAll n x) (w : World) (hTab : Tabs w) :
    Calls Tryf.prog 23 #[.string s] w fun e w' => (match qp l with
      | some (_, z) => e = .returned (.tuple #[.string (s.extract 0 (n - z.length)), .nilIface])
      | none => ∃ p, e = .returned (.tuple #[.string ⟨#[]⟩, .iface 85 (.pointer (some p))])) ∧ Below w.heap.size w w' := by
  obtain ⟨p, hev⟩ := hTab.errs
  have hu := unq_prefix s l n hl hs hn9 c x hlc hc hA hT 85 (.pointer (some p)) w hTab hev
  clear hl hlc hA hT hev hTab
  cases hq : qp l with
  | none =>
    rw [hq] at hu
    simp only [qpV] at hu
    clear hq
    go_enter Tryf.func23, Tryf.ntmps23
    go_wp2_with (go_at_call 33; refine hu.mono ?_; clear hu; rintro e w1 ⟨rfl, hB⟩; have HB := Aside0.mk hB; clear hB)
    repeat (go_quiet (fail); try go_wp2)
    go_ret2
    first | exact ⟨⟨p, rfl⟩, HB.out⟩ | exact ⟨⟨p, rfl⟩, pw_below_drewN HB.out _⟩
  | some oz =>
    obtain ⟨o, z⟩ := oz
    rw [hq] at hu
    simp only [qpV] at hu
    clear hq
    go_enter Tryf.func23, Tryf.ntmps23
    go_wp2_with (go_at_call 33; refine hu.mono ?_; clear hu; rintro e w1 ⟨rfl, hB⟩; have HB := Aside0.mk hB; clear hB)
    repeat (go_quiet (fail); try go_wp2)
    go_ret2
    first | exact ⟨rfl, HB.out⟩ | exact ⟨rfl, pw_below_drewN HB.out _⟩

set_option maxHeartbeats 1000000 in
theorem unquote_any (s : ByteArray) (l : List UInt8) (n : Nat) (hl : s.data.toList = l) (hs : s.size = n) (hn9 : n ≤ 1000000000) (c : UInt8) (x : List UInt8) (hlc : l = c :: x) (hc : c = 34 ∨ c = 96) (hA : Asc x) (hT : c = 34 → ToldAll n x) (o : List UInt8) (hq : qp l = some (o, [])) (w : World) (hTab : Tabs w) :
    Calls Tryf.prog 25 #[.string s] w fun e w' => e = .returned (.tuple #[.string ⟨o.toArray⟩, .nilIface]) ∧ Below w.heap.size w w' := by
  obtain ⟨p, hev⟩ := hTab.errs
  have hu := unq_text s l n hl hs hn9 c x hlc hc hA hT 85 (.pointer (some p)) w hTab hev
  rw [hq] at hu
  simp only [unqU] at hu
  obtain ⟨E, hE⟩ : ∃ E : ByteArray, E = ⟨([] : List UInt8).toArray⟩ := ⟨_, rfl⟩
  rw [← hE] at hu
  have hEs : E.size = 0 := by rw [hE]; rfl
  clear hl hlc hA hT hev hTab hq hE
  go_enter Tryf.func25, Tryf.ntmps25
  go_wp2_with (go_at_call 33; refine hu.mono ?_; clear hu; rintro e w1 ⟨rfl, hB⟩; have HB := Aside0.mk hB; clear hB)
  repeat (go_quiet (fail); try go_wp2)
  go_ret2
  first | exact ⟨rfl, HB.out⟩ | exact ⟨rfl, pw_below_drewN HB.out _⟩

/-- The prefix tells the same text. -/
theorem qp_prefix {c : UInt8} {x o z : List UInt8} (hc : c = 34 ∨ c = 96) (h : qp (c :: x) = some (o, z)) :
    ∃ p, x = p ++ z ∧ qp (c :: p) = some (o, []) ∧ (c = 34 → ToldAll (p.length + 1) p ∧ ToldAll (x.length + 1) x) := by
  rcases hc with rfl | rfl
  · have h : uqs (x.length + 1) x = some (o, z) := h
    obtain ⟨hT, p, hp, hP⟩ := uqs_take h
    obtain ⟨h1, h2⟩ := hP (p.length + 1) (by omega)
    exact ⟨p, hp, h1, fun _ => ⟨h2, hT⟩⟩
  · have h : (if Lib.indexByte x 96 = -1 then none else some (x.take (Lib.indexByte x 96).toNat, x.drop ((Lib.indexByte x 96).toNat + 1))) = some (o, z) := h
    by_cases hJ : Lib.indexByte x 96 = -1
    · rw [if_pos hJ] at h; cases h
    · rw [if_neg hJ] at h
      have hge := Lib.indexByte_ge x 96
      obtain ⟨J, hJn⟩ : ∃ J : Nat, Lib.indexByte x 96 = (J : Int) := ⟨(Lib.indexByte x 96).toNat, by omega⟩
      obtain ⟨a, b, hx, hal, hca⟩ := index_split hJn
      rw [hJn] at h
      injection h with h
      injection h with h1 h2
      have ho : o = a := by rw [← h1, hx]; simp [← hal]
      have hz : z = b := by rw [← h2, hx]; simp [← hal]
      refine ⟨a ++ [96], by rw [hx, hz]; simp, ?_, fun g => by cases g⟩
      have hi : Lib.indexByte (a ++ [96]) 96 = (J : Int) := by
        have : ∀ (a : List UInt8) (b : List UInt8), (96 : UInt8) ∉ a → Lib.indexByte (a ++ 96 :: b) 96 = (a.length : Int) := by
          intro a b
          induction a with
          | nil => intro _; simp [Lib.indexByte]
          | cons d a ih =>
            intro hn
            simp only [List.mem_cons, not_or] at hn
            rw [List.cons_append, Lib.indexByte, if_neg (by simpa using Ne.symm hn.1), ih hn.2]
            rw [if_neg (by simp)]
            simp
        rw [this a [] hca, hal]
      show (if _ then _ else _) = _
      rw [if_neg (by omega), hi, ho]
      simp [← hal]
end Go.Proofs.YtcjiafjahfmdoaaFmt.A
