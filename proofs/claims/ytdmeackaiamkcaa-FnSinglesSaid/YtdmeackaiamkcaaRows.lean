/-
  No cell of these rows narrows 'for every input' (looked for: loops, veiled, ifaces, maps, wideKeys, modest, calm, conditions, laid).
  DERIVED. THE GIVEN ROWS OF THIS SEAT. 5 by the template 'for every input the law returns true; each argument reads behind the call as it read before'; 0 by the template 'total and deterministic' (their statements: YtdmeackaiamkcaaTotals.lean).
  GIVEN WITH THE SEED: the statements are not yours to turn. If you find one false, say at which input.
  Laid BY PROGRAM, IN A SANDBOX (cutbox-rows.mjs): the forced cells as the released guide's own fill.sh prints them over the translation 9241a8ffaac09b41… (all of the seat's roots in one cut). By AI agents, Wed Nov 11 2026. No macro, syntax, notation, axiom, sorry.
-/
import Derived.Test.YtdmeackaiamkcaaChecked
import GoSem.Claim
import GoSem.ClaimJoined
import GoSem.ClaimMapViews
import Derived.JoinedTies
import Derived.KernelRfl
namespace Go.Proofs.Ytdmeackaiamkcaa
/- THE CELL 'sum', in the pinned program and in every row, IS THE sha256 OF THE DUMP (.gsa) THAT YtdmeackaiamkcaaProg.lean LOADS. Nothing in Lean hashes anything: it is a label: what it is worth is what the hold of that sum in a sandbox is worth. -/
noncomputable def Try.pinned : Pinned := { name := "ytdmeackaiamkcaa", sum := "9241a8ffaac09b419b9631733370f3305b8e47cb12155dee8b82cadcd6df6572", checked := Try.checked }
namespace Rows
def none {H : Type} : Left H := { results := [], args := [] }

/-- 'laws.FnLess': WHATEVER THE INPUT: true; the input reads as it did. -/
def fnLessSpec : ChangeSpec := { name := "fnLess", fn := fun _ => fun
  | [d1, d2, d3] => { results := [.lit (.bool true)], args := [d1, d2, d3] }
  | _ => none }
def fnLessRow : OpenClaim := { program := "ytdmeackaiamkcaa", sum := "9241a8ffaac09b419b9631733370f3305b8e47cb12155dee8b82cadcd6df6572", func := "loop.example/pub-g01451/laws.FnLess", spec := "fnLess", apart := false }
def FnLessSaid : Prop := fnLessRow.holds Try.pinned (OpenSpec.ofChange fnLessSpec)

/-- ITS FALSE NEIGHBOUR: 'it returns false'. Refute it at one input. -/
def fnLessWrong : ChangeSpec := { name := "fnLess", fn := fun _ => fun
  | [d1, d2, d3] => { results := [.lit (.bool false)], args := [d1, d2, d3] }
  | _ => none }
def FnLessWrongFalsely : Prop := fnLessRow.holds Try.pinned (OpenSpec.ofChange fnLessWrong)

/-- 'laws.FnAdded': WHATEVER THE INPUT: true; the input reads as it did. -/
def fnAddedSpec : ChangeSpec := { name := "fnAdded", fn := fun _ => fun
  | [d] => { results := [.lit (.bool true)], args := [d] }
  | _ => none }
def fnAddedRow : OpenClaim := { program := "ytdmeackaiamkcaa", sum := "9241a8ffaac09b419b9631733370f3305b8e47cb12155dee8b82cadcd6df6572", func := "loop.example/pub-g01451/laws.FnAdded", spec := "fnAdded", apart := false }
def FnAddedSaid : Prop := fnAddedRow.holds Try.pinned (OpenSpec.ofChange fnAddedSpec)

/-- ITS FALSE NEIGHBOUR: 'it returns false'. Refute it at one input. -/
def fnAddedWrong : ChangeSpec := { name := "fnAdded", fn := fun _ => fun
  | [d] => { results := [.lit (.bool false)], args := [d] }
  | _ => none }
def FnAddedWrongFalsely : Prop := fnAddedRow.holds Try.pinned (OpenSpec.ofChange fnAddedWrong)

/-- 'laws.FnSorted': WHATEVER THE INPUT: true; the input reads as it did. -/
def fnSortedSpec : ChangeSpec := { name := "fnSorted", fn := fun _ => fun
  | [d] => { results := [.lit (.bool true)], args := [d] }
  | _ => none }
def fnSortedRow : OpenClaim := { program := "ytdmeackaiamkcaa", sum := "9241a8ffaac09b419b9631733370f3305b8e47cb12155dee8b82cadcd6df6572", func := "loop.example/pub-g01451/laws.FnSorted", spec := "fnSorted", unfollowed := true, recurses := true, apart := false }
def FnSortedSaid : Prop := fnSortedRow.holds Try.pinned (OpenSpec.ofChange fnSortedSpec)

/-- ITS FALSE NEIGHBOUR: 'it returns false'. Refute it at one input. -/
def fnSortedWrong : ChangeSpec := { name := "fnSorted", fn := fun _ => fun
  | [d] => { results := [.lit (.bool false)], args := [d] }
  | _ => none }
def FnSortedWrongFalsely : Prop := fnSortedRow.holds Try.pinned (OpenSpec.ofChange fnSortedWrong)

/-- 'laws.FnSingles': WHATEVER THE INPUT: true; the input reads as it did. -/
def fnSinglesSpec : ChangeSpec := { name := "fnSingles", fn := fun _ => fun
  | [d] => { results := [.lit (.bool true)], args := [d] }
  | _ => none }
def fnSinglesRow : OpenClaim := { program := "ytdmeackaiamkcaa", sum := "9241a8ffaac09b419b9631733370f3305b8e47cb12155dee8b82cadcd6df6572", func := "loop.example/pub-g01451/laws.FnSingles", spec := "fnSingles", unfollowed := true, recurses := true, apart := false }
def FnSinglesSaid : Prop := fnSinglesRow.holds Try.pinned (OpenSpec.ofChange fnSinglesSpec)

/-- ITS FALSE NEIGHBOUR: 'it returns false'. Refute it at one input. -/
def fnSinglesWrong : ChangeSpec := { name := "fnSingles", fn := fun _ => fun
  | [d] => { results := [.lit (.bool false)], args := [d] }
  | _ => none }
def FnSinglesWrongFalsely : Prop := fnSinglesRow.holds Try.pinned (OpenSpec.ofChange fnSinglesWrong)

/-- 'laws.FnSinglesTwice': WHATEVER THE INPUT: true; the input reads as it did. -/
def fnSinglesTwiceSpec : ChangeSpec := { name := "fnSinglesTwice", fn := fun _ => fun
  | [d] => { results := [.lit (.bool true)], args := [d] }
  | _ => none }
def fnSinglesTwiceRow : OpenClaim := { program := "ytdmeackaiamkcaa", sum := "9241a8ffaac09b419b9631733370f3305b8e47cb12155dee8b82cadcd6df6572", func := "loop.example/pub-g01451/laws.FnSinglesTwice", spec := "fnSinglesTwice", unfollowed := true, recurses := true, apart := false }
def FnSinglesTwiceSaid : Prop := fnSinglesTwiceRow.holds Try.pinned (OpenSpec.ofChange fnSinglesTwiceSpec)

/-- ITS FALSE NEIGHBOUR: 'it returns false'. Refute it at one input. -/
def fnSinglesTwiceWrong : ChangeSpec := { name := "fnSinglesTwice", fn := fun _ => fun
  | [d] => { results := [.lit (.bool false)], args := [d] }
  | _ => none }
def FnSinglesTwiceWrongFalsely : Prop := fnSinglesTwiceRow.holds Try.pinned (OpenSpec.ofChange fnSinglesTwiceWrong)

/- THE SECOND FORM. 'bulk': how many values and letters a reading holds, each counted each time it is reached (what is shared counts as often as it is met; a slice's spare places count too). A statement '..UptoSaid' is the law's where the arguments, and the package variables that the reading takes, are together of bulk at most 1048576: NARROWER than '..Said'. Prove '..Said' where nothing that the law and all that it calls make is longer than what came in: it says more and counts as full. Else prove '..UptoSaid'. A law counts once. -/
mutual
def uptoBulk {H : Type} : DataW H → Nat
  | .lit (.string bytes) => bytes.length + 1
  | .lit _ => 1
  | .nil => 1
  | .ptr d => uptoBulk d + 1
  | .slice elems spare => uptoBulkAll elems + uptoBulkAll spare + 1
  | .agg parts => uptoBulkAll parts + 1
  | .iface _ d => uptoBulk d + 1
  | .map entries => uptoBulkEntries entries + 1
  | .held _ => 1
def uptoBulkAll {H : Type} : List (DataW H) → Nat
  | [] => 0
  | d :: r => uptoBulk d + uptoBulkAll r
def uptoBulkEntries {H : Type} : List (Lit × DataW H) → Nat
  | [] => 0
  | x :: r => uptoBulkEntry x + uptoBulkEntries r
def uptoBulkEntry {H : Type} : Lit × DataW H → Nat
  | (.string bytes, d) => bytes.length + uptoBulk d + 1
  | (_, d) => uptoBulk d + 1
 end
def uptoSmall : (H : Type) → List (DataW H) → Bool := fun _ ds => decide (uptoBulkAll ds ≤ 1048576)
def OpenSpec.upto (s : _root_.Go.ChangeSpec) : _root_.Go.OpenSpec := { _root_.Go.OpenSpec.ofChange s with cond := some uptoSmall }

/-- 'laws.FnLess', WHERE WHAT IT READS IS OF BULK AT MOST 1048576: true; the input reads as it did. -/
def fnLessUptoRow : OpenClaim := { program := "ytdmeackaiamkcaa", sum := "9241a8ffaac09b419b9631733370f3305b8e47cb12155dee8b82cadcd6df6572", func := "loop.example/pub-g01451/laws.FnLess", spec := "fnLess", apart := false, narrowed := true }
def FnLessUptoSaid : Prop := fnLessUptoRow.holds Try.pinned (OpenSpec.upto fnLessSpec)

/-- 'laws.FnAdded', WHERE WHAT IT READS IS OF BULK AT MOST 1048576: true; the input reads as it did. -/
def fnAddedUptoRow : OpenClaim := { program := "ytdmeackaiamkcaa", sum := "9241a8ffaac09b419b9631733370f3305b8e47cb12155dee8b82cadcd6df6572", func := "loop.example/pub-g01451/laws.FnAdded", spec := "fnAdded", apart := false, narrowed := true }
def FnAddedUptoSaid : Prop := fnAddedUptoRow.holds Try.pinned (OpenSpec.upto fnAddedSpec)

/-- 'laws.FnSorted', WHERE WHAT IT READS IS OF BULK AT MOST 1048576: true; the input reads as it did. -/
def fnSortedUptoRow : OpenClaim := { program := "ytdmeackaiamkcaa", sum := "9241a8ffaac09b419b9631733370f3305b8e47cb12155dee8b82cadcd6df6572", func := "loop.example/pub-g01451/laws.FnSorted", spec := "fnSorted", unfollowed := true, recurses := true, apart := false, narrowed := true }
def FnSortedUptoSaid : Prop := fnSortedUptoRow.holds Try.pinned (OpenSpec.upto fnSortedSpec)

/-- 'laws.FnSingles', WHERE WHAT IT READS IS OF BULK AT MOST 1048576: true; the input reads as it did. -/
def fnSinglesUptoRow : OpenClaim := { program := "ytdmeackaiamkcaa", sum := "9241a8ffaac09b419b9631733370f3305b8e47cb12155dee8b82cadcd6df6572", func := "loop.example/pub-g01451/laws.FnSingles", spec := "fnSingles", unfollowed := true, recurses := true, apart := false, narrowed := true }
def FnSinglesUptoSaid : Prop := fnSinglesUptoRow.holds Try.pinned (OpenSpec.upto fnSinglesSpec)

/-- 'laws.FnSinglesTwice', WHERE WHAT IT READS IS OF BULK AT MOST 1048576: true; the input reads as it did. -/
def fnSinglesTwiceUptoRow : OpenClaim := { program := "ytdmeackaiamkcaa", sum := "9241a8ffaac09b419b9631733370f3305b8e47cb12155dee8b82cadcd6df6572", func := "loop.example/pub-g01451/laws.FnSinglesTwice", spec := "fnSinglesTwice", unfollowed := true, recurses := true, apart := false, narrowed := true }
def FnSinglesTwiceUptoSaid : Prop := fnSinglesTwiceUptoRow.holds Try.pinned (OpenSpec.upto fnSinglesTwiceSpec)

end Rows
end Go.Proofs.Ytdmeackaiamkcaa
