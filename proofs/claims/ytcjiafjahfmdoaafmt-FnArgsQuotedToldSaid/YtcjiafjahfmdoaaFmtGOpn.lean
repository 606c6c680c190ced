/- Opening an argument: what reads as a slice of texts lies in memory as one. -/
import Derived.Test.YtcjiafjahfmdoaaFmtPureG
import Derived.Deep.Slices
import Derived.ProofKit
import Derived.SizedLaws
import Derived.OpenShut
namespace Go.Proofs.YtcjiafjahfmdoaaFmtO
open Go.ChangeShapes Go.WideShapes Go.RowKit Go.Proofs.YtcjiafjahfmdoaaFmt Go.Proofs.YtcjiafjahfmdoaaFmt.A Go.Proofs.YtcjiafjahfmdoaaFmtW.PrintWords Go.Proofs.YtcjiafjahfmdoaaFmtW.PrintLast Go.Proofs.YtcjiafjahfmdoaaFmtW.PrintMore
set_option linter.unusedVariables false

/-- What reads as data of type t (with less fuel than N) lies in memory as a thing of kind d. -/
def Opens {α : Type} (P : Program) (w : World) (N : Nat) (t : TypeId) (d : Kd α) (ok : α → Prop) : Prop :=
  ∀ (H : Type) (enc : TypeId × Value → H) (fuel : Nat) (cs : List Value) (x : DataW H × List MemPlace), fuel < N → DataW.trod enc P w 0 (fun _ => true) true fuel t cs = some x → ∃ a, d.K w a cs ∧ ok a

section
variable {P : Program} {w : World} {N : Nat} {t : TypeId}

theorem Opens.less {α : Type} {d : Kd α} {ok : α → Prop} (h : Opens P w N t d ok) {M : Nat} (hM : M ≤ N) : Opens P w M t d ok := fun H enc fuel cs x hf hx => h H enc fuel cs x (by omega) hx

theorem Opens.imp {α : Type} {d : Kd α} {ok ok' : α → Prop} (h : Opens P w N t d ok) (hi : ∀ a, ok a → ok' a) : Opens P w N t d ok' := fun H enc fuel cs x hf hx => let ⟨a, h1, h2⟩ := h H enc fuel cs x hf hx; ⟨a, h1, hi a h2⟩

theorem opens_int {k : IntKind} (ht : P.underlying t = some (.int k)) : Opens P w N t (Kd.int k) (fun n => (Lit.int k n).wf = true) := by
  intro H enc fuel cs x _ h
  obtain ⟨n, rfl, _, hw⟩ := DataW.trod_int ht h
  exact ⟨n, rfl, hw⟩

theorem opens_string (ht : P.underlying t = some .string) : Opens P w N t Kd.string (fun s => s.size ≤ maxLen) := by
  intro H enc fuel cs x _ h
  obtain ⟨s, rfl, hx⟩ := DataW.trod_string ht h
  refine ⟨s, rfl, ?_⟩
  cases fuel with
  | zero => simp [DataW.trod] at h
  | succ n =>
    unfold DataW.trod at h
    rw [ht] at h
    simp at h
    exact h.1

theorem Opens.iso {α β : Type} {d : Kd α} {ok : α → Prop} (h : Opens P w N t d ok) (f : β → α) (g : α → β) (hg : ∀ a, f (g a) = a) : Opens P w N t (Kd.iso d f) (fun b => ok (f b)) := by
  intro H enc fuel cs x hf hx
  obtain ⟨a, h1, h2⟩ := h H enc fuel cs x hf hx
  exact ⟨g a, by show d.K w (f (g a)) cs; rw [hg]; exact h1, by show ok (f (g a)); rw [hg]; exact h2⟩

theorem cells_read {w : World} {a : Addr} {n : Nat} {cs : List Value} (h : w.cells? 0 a n = some cs) : cs.length = n ∧ ∀ i u, cs[i]? = some u → w.cell? (a.add i) = some u := by
  obtain ⟨_, hl, hc⟩ := World.cells?_some h
  refine ⟨hl, fun i u hu => ?_⟩
  have hi := (List.getElem?_eq_some_iff.1 hu).1
  rw [hc i (by omega)]
  exact hu

theorem list_of_each {α : Type} {q : Nat → α → Prop} : ∀ n, (∀ i, i < n → ∃ a, q i a) → ∃ l : List α, l.length = n ∧ ∀ i a, l[i]? = some a → q i a
  | 0, _ => ⟨[], rfl, fun i a h => by simp at h⟩
  | n + 1, h => by
    obtain ⟨l, hl, hq⟩ := list_of_each n (fun i hi => h i (by omega))
    obtain ⟨a, ha⟩ := h n (by omega)
    refine ⟨l ++ [a], by simp [hl], fun i b hb => ?_⟩
    by_cases hi : i < n
    · rw [List.getElem?_append_left (by omega)] at hb
      exact hq i b hb
    · have hi2 := (List.getElem?_eq_some_iff.1 hb).1
      simp [hl] at hi2
      have : i = n := by omega
      subst this
      rw [List.getElem?_append_right (by omega)] at hb
      simp [hl] at hb
      subst hb
      exact ha

theorem opens_row {α : Type} {d : Kd α} {ok : α → Prop} {e : TypeId} {H : Type} {enc : TypeId × Value → H} {fuel : Nat} {cs : List Value} {x : DataW H × List MemPlace} (ht : P.underlying t = some (.slice e)) (hc : P.cellsOf e = d.sz) (hd : Opens P w N e d ok) (hf : fuel < N + 1)
    (h : DataW.trod enc P w 0 (fun _ => true) true fuel t cs = some x) : ∃ (A : Option Addr) (c : Nat) (l : List α), cs = [.slice A l.length c] ∧ l.length ≤ c ∧ c ≤ maxLen ∧ d.C w A l.length l ∧ ∀ a ∈ l, ok a := by
  cases fuel with
  | zero => simp [DataW.trod] at h
  | succ fuel =>
  rcases DataW.trod_slice ht h with ⟨rfl, _⟩ | ⟨a, len, cap, elems, rest, n, hn, rfl, _, _, hl, hm, hlen, hel, _, _⟩
  · exact ⟨none, 0, [], rfl, Nat.le_refl _, Nat.zero_le _, ⟨rfl, Nat.zero_le _, fun h => absurd h (Nat.lt_irrefl _)⟩, fun a ha => by simp at ha⟩
  · injection hn with hn
    subst hn
    obtain ⟨l, hll, hq⟩ := list_of_each (q := fun i b => ∃ cs', w.cells? 0 (a.add (i * P.cellsOf e)) (P.cellsOf e) = some cs' ∧ d.K w b cs' ∧ ok b) len (fun i hi => by
      have h1 := hel i hi
      rw [List.getElem?_eq_getElem (by omega)] at h1
      obtain ⟨cs', h2, h3⟩ := Option.bind_eq_some_iff.1 h1
      obtain ⟨b, hK, hok⟩ := hd H enc fuel cs' _ (by omega) h3
      exact ⟨b, cs', h2, hK, hok⟩)
    subst hll
    refine ⟨some a, cap, l, rfl, hl, hm, ⟨rfl, by unfold maxLen at hm; omega, fun _ => ⟨a, rfl, fun j p hj => ?_⟩⟩, fun b hb => ?_⟩
    · obtain ⟨cs', h2, hK, _⟩ := hq j p hj
      obtain ⟨h3, h4⟩ := cells_read h2
      refine ⟨cs', by rw [h3, hc], hK, fun i u hu => ?_⟩
      have := h4 i u hu
      rw [Go.Deep.add_add, hc] at this
      exact this
    · obtain ⟨i, hi, rfl⟩ := List.getElem_of_mem hb
      obtain ⟨_, _, _, h⟩ := hq i l[i] (by simp [hi])
      exact h
end
end Go.Proofs.YtcjiafjahfmdoaaFmtO
