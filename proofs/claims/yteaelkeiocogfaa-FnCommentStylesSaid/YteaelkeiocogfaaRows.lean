/-
  No cell of these rows narrows 'for every input' (looked for: loops, veiled, ifaces, maps, wideKeys, modest, calm, conditions, laid).
  DERIVED. THE GIVEN ROWS OF THIS SEAT. 6 by the template 'for every input the law returns true; each argument reads behind the call as it read before'; 0 by the template 'total and deterministic' (their statements: YteaelkeiocogfaaTotals.lean).
  GIVEN WITH THE SEED: the statements are not yours to turn. If you find one false, say at which input.
  Laid BY PROGRAM, IN A SANDBOX (cutbox-rows.mjs): the forced cells as the released guide's own fill.sh prints them over the translation c3459e57209b1a2b… (all of the seat's roots in one cut). By AI agents, Wed Nov 11 2026. No macro, syntax, notation, axiom, sorry.
-/
import Derived.Test.YteaelkeiocogfaaChecked
import GoSem.Claim
import GoSem.ClaimJoined
import GoSem.ClaimMapViews
import Derived.JoinedTies
import Derived.KernelRfl
namespace Go.Proofs.Yteaelkeiocogfaa
/- THE CELL 'sum', in the pinned program and in every row, IS THE sha256 OF THE DUMP (.gsa) THAT YteaelkeiocogfaaProg.lean LOADS. Nothing in Lean hashes anything: it is a label: what it is worth is what the hold of that sum in a sandbox is worth. -/
noncomputable def Try.pinned : Pinned := { name := "yteaelkeiocogfaa", sum := "c3459e57209b1a2ba24afa51dd468a36936afa0547fcb98aff89f4f450ef8fd8", checked := Try.checked }
namespace Rows
def none {H : Type} : Left H := { results := [], args := [] }

/-- 'laws.FnCommentSpan': WHATEVER THE INPUT: true; the input reads as it did. -/
def fnCommentSpanSpec : ChangeSpec := { name := "fnCommentSpan", fn := fun _ => fun
  | [d] => { results := [.lit (.bool true)], args := [d] }
  | _ => none }
def fnCommentSpanRow : OpenClaim := { program := "yteaelkeiocogfaa", sum := "c3459e57209b1a2ba24afa51dd468a36936afa0547fcb98aff89f4f450ef8fd8", func := "loop.example/pub-g01451/laws.FnCommentSpan", spec := "fnCommentSpan", apart := false }
def FnCommentSpanSaid : Prop := fnCommentSpanRow.holds Try.pinned (OpenSpec.ofChange fnCommentSpanSpec)

/-- ITS FALSE NEIGHBOUR: 'it returns false'. Refute it at one input. -/
def fnCommentSpanWrong : ChangeSpec := { name := "fnCommentSpan", fn := fun _ => fun
  | [d] => { results := [.lit (.bool false)], args := [d] }
  | _ => none }
def FnCommentSpanWrongFalsely : Prop := fnCommentSpanRow.holds Try.pinned (OpenSpec.ofChange fnCommentSpanWrong)

/-- 'laws.FnNumFields': WHATEVER THE INPUT: true; the input reads as it did. -/
def fnNumFieldsSpec : ChangeSpec := { name := "fnNumFields", fn := fun _ => fun
  | [d] => { results := [.lit (.bool true)], args := [d] }
  | _ => none }
def fnNumFieldsRow : OpenClaim := { program := "yteaelkeiocogfaa", sum := "c3459e57209b1a2ba24afa51dd468a36936afa0547fcb98aff89f4f450ef8fd8", func := "loop.example/pub-g01451/laws.FnNumFields", spec := "fnNumFields", apart := false }
def FnNumFieldsSaid : Prop := fnNumFieldsRow.holds Try.pinned (OpenSpec.ofChange fnNumFieldsSpec)

/-- ITS FALSE NEIGHBOUR: 'it returns false'. Refute it at one input. -/
def fnNumFieldsWrong : ChangeSpec := { name := "fnNumFields", fn := fun _ => fun
  | [d] => { results := [.lit (.bool false)], args := [d] }
  | _ => none }
def FnNumFieldsWrongFalsely : Prop := fnNumFieldsRow.holds Try.pinned (OpenSpec.ofChange fnNumFieldsWrong)

/-- 'laws.FnGenerated': WHATEVER THE INPUT: true; the input reads as it did. -/
def fnGeneratedSpec : ChangeSpec := { name := "fnGenerated", fn := fun _ => fun
  | [d1, d2] => { results := [.lit (.bool true)], args := [d1, d2] }
  | _ => none }
def fnGeneratedRow : OpenClaim := { program := "yteaelkeiocogfaa", sum := "c3459e57209b1a2ba24afa51dd468a36936afa0547fcb98aff89f4f450ef8fd8", func := "loop.example/pub-g01451/laws.FnGenerated", spec := "fnGenerated", apart := false }
def FnGeneratedSaid : Prop := fnGeneratedRow.holds Try.pinned (OpenSpec.ofChange fnGeneratedSpec)

/-- ITS FALSE NEIGHBOUR: 'it returns false'. Refute it at one input. -/
def fnGeneratedWrong : ChangeSpec := { name := "fnGenerated", fn := fun _ => fun
  | [d1, d2] => { results := [.lit (.bool false)], args := [d1, d2] }
  | _ => none }
def FnGeneratedWrongFalsely : Prop := fnGeneratedRow.holds Try.pinned (OpenSpec.ofChange fnGeneratedWrong)

/-- 'laws.FnCommentAgain': WHATEVER THE INPUT: true; the input reads as it did. -/
def fnCommentAgainSpec : ChangeSpec := { name := "fnCommentAgain", fn := fun _ => fun
  | [d] => { results := [.lit (.bool true)], args := [d] }
  | _ => none }
def fnCommentAgainRow : OpenClaim := { program := "yteaelkeiocogfaa", sum := "c3459e57209b1a2ba24afa51dd468a36936afa0547fcb98aff89f4f450ef8fd8", func := "loop.example/pub-g01451/laws.FnCommentAgain", spec := "fnCommentAgain", inPlace := ["internal/abi.NoEscape", "internal/bytealg.MakeNoZero"], apart := false }
def FnCommentAgainSaid : Prop := fnCommentAgainRow.holds Try.pinned (OpenSpec.ofChange fnCommentAgainSpec)

/-- ITS FALSE NEIGHBOUR: 'it returns false'. Refute it at one input. -/
def fnCommentAgainWrong : ChangeSpec := { name := "fnCommentAgain", fn := fun _ => fun
  | [d] => { results := [.lit (.bool false)], args := [d] }
  | _ => none }
def FnCommentAgainWrongFalsely : Prop := fnCommentAgainRow.holds Try.pinned (OpenSpec.ofChange fnCommentAgainWrong)

/-- 'laws.FnCommentStyles': WHATEVER THE INPUT: true; the input reads as it did. -/
def fnCommentStylesSpec : ChangeSpec := { name := "fnCommentStyles", fn := fun _ => fun
  | [d] => { results := [.lit (.bool true)], args := [d] }
  | _ => none }
def fnCommentStylesRow : OpenClaim := { program := "yteaelkeiocogfaa", sum := "c3459e57209b1a2ba24afa51dd468a36936afa0547fcb98aff89f4f450ef8fd8", func := "loop.example/pub-g01451/laws.FnCommentStyles", spec := "fnCommentStyles", inPlace := ["internal/abi.NoEscape", "internal/bytealg.MakeNoZero"], apart := false }
def FnCommentStylesSaid : Prop := fnCommentStylesRow.holds Try.pinned (OpenSpec.ofChange fnCommentStylesSpec)

/-- ITS FALSE NEIGHBOUR: 'it returns false'. Refute it at one input. -/
def fnCommentStylesWrong : ChangeSpec := { name := "fnCommentStyles", fn := fun _ => fun
  | [d] => { results := [.lit (.bool false)], args := [d] }
  | _ => none }
def FnCommentStylesWrongFalsely : Prop := fnCommentStylesRow.holds Try.pinned (OpenSpec.ofChange fnCommentStylesWrong)

/-- 'laws.FnCommentText': WHATEVER THE INPUT: true; the input reads as it did. -/
def fnCommentTextSpec : ChangeSpec := { name := "fnCommentText", fn := fun _ => fun
  | [d] => { results := [.lit (.bool true)], args := [d] }
  | _ => none }
def fnCommentTextRow : OpenClaim := { program := "yteaelkeiocogfaa", sum := "c3459e57209b1a2ba24afa51dd468a36936afa0547fcb98aff89f4f450ef8fd8", func := "loop.example/pub-g01451/laws.FnCommentText", spec := "fnCommentText", inPlace := ["internal/abi.NoEscape", "internal/bytealg.MakeNoZero"], apart := false }
def FnCommentTextSaid : Prop := fnCommentTextRow.holds Try.pinned (OpenSpec.ofChange fnCommentTextSpec)

/-- ITS FALSE NEIGHBOUR: 'it returns false'. Refute it at one input. -/
def fnCommentTextWrong : ChangeSpec := { name := "fnCommentText", fn := fun _ => fun
  | [d] => { results := [.lit (.bool false)], args := [d] }
  | _ => none }
def FnCommentTextWrongFalsely : Prop := fnCommentTextRow.holds Try.pinned (OpenSpec.ofChange fnCommentTextWrong)

/- THE SECOND FORM. 'bulk': how many values and letters a reading holds, each counted each time it is reached (what is shared counts as often as it is met; a slice's spare places count too). A statement '..UptoSaid' is the law's where the arguments, and the package variables that the reading takes, are together of bulk at most 1048576: NARROWER than '..Said'. Prove '..Said' where nothing that the law and all that it calls make is longer than what came in: it says more and counts as full. Else prove '..UptoSaid'. A law counts once. -/
mutual
def uptoBulk {H : Type} : DataW H → Nat
  | .lit (.string bytes) => bytes.length + 1
  | .lit _ => 1
  | .nil => 1
  | .ptr d => uptoBulk d + 1
  | .slice elems spare => uptoBulkAll elems + uptoBulkAll spare + 1
  | .agg parts => uptoBulkAll parts + 1
  | .iface _ d => uptoBulk d + 1
  | .map entries => uptoBulkEntries entries + 1
  | .held _ => 1
def uptoBulkAll {H : Type} : List (DataW H) → Nat
  | [] => 0
  | d :: r => uptoBulk d + uptoBulkAll r
def uptoBulkEntries {H : Type} : List (Lit × DataW H) → Nat
  | [] => 0
  | x :: r => uptoBulkEntry x + uptoBulkEntries r
def uptoBulkEntry {H : Type} : Lit × DataW H → Nat
  | (.string bytes, d) => bytes.length + uptoBulk d + 1
  | (_, d) => uptoBulk d + 1
 end
def uptoSmall : (H : Type) → List (DataW H) → Bool := fun _ ds => decide (uptoBulkAll ds ≤ 1048576)
def OpenSpec.upto (s : _root_.Go.ChangeSpec) : _root_.Go.OpenSpec := { _root_.Go.OpenSpec.ofChange s with cond := some uptoSmall }

/-- 'laws.FnCommentSpan', WHERE WHAT IT READS IS OF BULK AT MOST 1048576: true; the input reads as it did. -/
def fnCommentSpanUptoRow : OpenClaim := { program := "yteaelkeiocogfaa", sum := "c3459e57209b1a2ba24afa51dd468a36936afa0547fcb98aff89f4f450ef8fd8", func := "loop.example/pub-g01451/laws.FnCommentSpan", spec := "fnCommentSpan", apart := false, narrowed := true }
def FnCommentSpanUptoSaid : Prop := fnCommentSpanUptoRow.holds Try.pinned (OpenSpec.upto fnCommentSpanSpec)

/-- 'laws.FnNumFields', WHERE WHAT IT READS IS OF BULK AT MOST 1048576: true; the input reads as it did. -/
def fnNumFieldsUptoRow : OpenClaim := { program := "yteaelkeiocogfaa", sum := "c3459e57209b1a2ba24afa51dd468a36936afa0547fcb98aff89f4f450ef8fd8", func := "loop.example/pub-g01451/laws.FnNumFields", spec := "fnNumFields", apart := false, narrowed := true }
def FnNumFieldsUptoSaid : Prop := fnNumFieldsUptoRow.holds Try.pinned (OpenSpec.upto fnNumFieldsSpec)

/-- 'laws.FnGenerated', WHERE WHAT IT READS IS OF BULK AT MOST 1048576: true; the input reads as it did. -/
def fnGeneratedUptoRow : OpenClaim := { program := "yteaelkeiocogfaa", sum := "c3459e57209b1a2ba24afa51dd468a36936afa0547fcb98aff89f4f450ef8fd8", func := "loop.example/pub-g01451/laws.FnGenerated", spec := "fnGenerated", apart := false, narrowed := true }
def FnGeneratedUptoSaid : Prop := fnGeneratedUptoRow.holds Try.pinned (OpenSpec.upto fnGeneratedSpec)

/-- 'laws.FnCommentAgain', WHERE WHAT IT READS IS OF BULK AT MOST 1048576: true; the input reads as it did. -/
def fnCommentAgainUptoRow : OpenClaim := { program := "yteaelkeiocogfaa", sum := "c3459e57209b1a2ba24afa51dd468a36936afa0547fcb98aff89f4f450ef8fd8", func := "loop.example/pub-g01451/laws.FnCommentAgain", spec := "fnCommentAgain", inPlace := ["internal/abi.NoEscape", "internal/bytealg.MakeNoZero"], apart := false, narrowed := true }
def FnCommentAgainUptoSaid : Prop := fnCommentAgainUptoRow.holds Try.pinned (OpenSpec.upto fnCommentAgainSpec)

/-- 'laws.FnCommentStyles', WHERE WHAT IT READS IS OF BULK AT MOST 1048576: true; the input reads as it did. -/
def fnCommentStylesUptoRow : OpenClaim := { program := "yteaelkeiocogfaa", sum := "c3459e57209b1a2ba24afa51dd468a36936afa0547fcb98aff89f4f450ef8fd8", func := "loop.example/pub-g01451/laws.FnCommentStyles", spec := "fnCommentStyles", inPlace := ["internal/abi.NoEscape", "internal/bytealg.MakeNoZero"], apart := false, narrowed := true }
def FnCommentStylesUptoSaid : Prop := fnCommentStylesUptoRow.holds Try.pinned (OpenSpec.upto fnCommentStylesSpec)

/-- 'laws.FnCommentText', WHERE WHAT IT READS IS OF BULK AT MOST 1048576: true; the input reads as it did. -/
def fnCommentTextUptoRow : OpenClaim := { program := "yteaelkeiocogfaa", sum := "c3459e57209b1a2ba24afa51dd468a36936afa0547fcb98aff89f4f450ef8fd8", func := "loop.example/pub-g01451/laws.FnCommentText", spec := "fnCommentText", inPlace := ["internal/abi.NoEscape", "internal/bytealg.MakeNoZero"], apart := false, narrowed := true }
def FnCommentTextUptoSaid : Prop := fnCommentTextUptoRow.holds Try.pinned (OpenSpec.upto fnCommentTextSpec)

end Rows
end Go.Proofs.Yteaelkeiocogfaa
