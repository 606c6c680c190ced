/-
  NARROWER THAN 'FOR EVERY INPUT', by the rows' own cells (each row's printed sentence says how): FnInspectBalance: loops, laid · FnInspectSkips: loops, laid · FnInspectVisits: loops, laid · FnWalkVisits: loops, laid · FnPreorder: loops, laid · FnStack: loops, laid.
  DERIVED. THE GIVEN ROWS OF THIS SEAT. 6 by the template 'for every input the law returns true; each argument reads behind the call as it read before'; 0 by the template 'total and deterministic' (their statements: YtdcaabjkklppjaaGreatFmtTotals.lean).
  GIVEN WITH THE SEED: the statements are not yours to turn. If you find one false, say at which input.
  Laid BY PROGRAM, IN A SANDBOX (cutbox-rows.mjs): the forced cells as the released guide's own fill.sh prints them over the translation 302e415872735c50… (all of the seat's roots in one cut). By AI agents, Wed Nov 11 2026. No macro, syntax, notation, axiom, sorry.
-/
import Derived.Test.YtdcaabjkklppjaaGreatFmtChecked
import GoSem.Claim
import GoSem.ClaimJoined
import GoSem.ClaimMapViews
import Derived.JoinedTies
import Derived.KernelRfl
namespace Go.Proofs.YtdcaabjkklppjaaGreatFmt
/- THE CELL 'sum', in the pinned program and in every row, IS THE sha256 OF THE DUMP (.gsa) THAT YtdcaabjkklppjaaGreatFmtProg.lean LOADS. Nothing in Lean hashes anything: it is a label: what it is worth is what the hold of that sum in a sandbox is worth. -/
noncomputable def Tryz.pinned : Pinned := { name := "ytdcaabjkklppjaagreatfmt", sum := "302e415872735c50e8c71a4ca199006bcadc97563766fdb04c3556b4bc42087f", checked := Tryz.checked }
namespace Rows
def none {H : Type} : Left H := { results := [], args := [] }

/- WHAT THE LISTED PACKAGE-LEVEL VARIABLES READ AS WHEN THE CALL BEGINS. Each datum BY PROGRAM (the guide's laid-datum.mjs) off the statement by which the dump's own 'gosem.cut.vars' lays the variable. In a bare row this is a premise. The card (YtdcaabjkklppjaaGreatFmtCards.lean) ties it to the program's text. -/
def laid_math_bits_deBruijn32tab {H : Type} : DataW H := .agg [.lit (.int .u8 0), .lit (.int .u8 1), .lit (.int .u8 28), .lit (.int .u8 2), .lit (.int .u8 29), .lit (.int .u8 14), .lit (.int .u8 24), .lit (.int .u8 3), .lit (.int .u8 30), .lit (.int .u8 22), .lit (.int .u8 20), .lit (.int .u8 15), .lit (.int .u8 25), .lit (.int .u8 17), .lit (.int .u8 4), .lit (.int .u8 8), .lit (.int .u8 31), .lit (.int .u8 27), .lit (.int .u8 13), .lit (.int .u8 23), .lit (.int .u8 21), .lit (.int .u8 19), .lit (.int .u8 16), .lit (.int .u8 7), .lit (.int .u8 26), .lit (.int .u8 12), .lit (.int .u8 18), .lit (.int .u8 6), .lit (.int .u8 11), .lit (.int .u8 5), .lit (.int .u8 10), .lit (.int .u8 9)]
def laid_math_bits_deBruijn64tab {H : Type} : DataW H := .agg [.lit (.int .u8 0), .lit (.int .u8 1), .lit (.int .u8 56), .lit (.int .u8 2), .lit (.int .u8 57), .lit (.int .u8 49), .lit (.int .u8 28), .lit (.int .u8 3), .lit (.int .u8 61), .lit (.int .u8 58), .lit (.int .u8 42), .lit (.int .u8 50), .lit (.int .u8 38), .lit (.int .u8 29), .lit (.int .u8 17), .lit (.int .u8 4), .lit (.int .u8 62), .lit (.int .u8 47), .lit (.int .u8 59), .lit (.int .u8 36), .lit (.int .u8 45), .lit (.int .u8 43), .lit (.int .u8 51), .lit (.int .u8 22), .lit (.int .u8 53), .lit (.int .u8 39), .lit (.int .u8 33), .lit (.int .u8 30), .lit (.int .u8 24), .lit (.int .u8 18), .lit (.int .u8 12), .lit (.int .u8 5), .lit (.int .u8 63), .lit (.int .u8 55), .lit (.int .u8 48), .lit (.int .u8 27), .lit (.int .u8 60), .lit (.int .u8 41), .lit (.int .u8 37), .lit (.int .u8 16), .lit (.int .u8 46), .lit (.int .u8 35), .lit (.int .u8 44), .lit (.int .u8 21), .lit (.int .u8 52), .lit (.int .u8 32), .lit (.int .u8 23), .lit (.int .u8 11), .lit (.int .u8 54), .lit (.int .u8 26), .lit (.int .u8 40), .lit (.int .u8 15), .lit (.int .u8 34), .lit (.int .u8 20), .lit (.int .u8 31), .lit (.int .u8 10), .lit (.int .u8 25), .lit (.int .u8 14), .lit (.int .u8 19), .lit (.int .u8 9), .lit (.int .u8 13), .lit (.int .u8 8), .lit (.int .u8 7), .lit (.int .u8 6)]
def laid_internal_strconv_uint64pow10 {H : Type} : DataW H := .agg [.lit (.int .u64 1), .lit (.int .u64 10), .lit (.int .u64 100), .lit (.int .u64 1000), .lit (.int .u64 10000), .lit (.int .u64 100000), .lit (.int .u64 1000000), .lit (.int .u64 10000000), .lit (.int .u64 100000000), .lit (.int .u64 1000000000), .lit (.int .u64 10000000000), .lit (.int .u64 100000000000), .lit (.int .u64 1000000000000), .lit (.int .u64 10000000000000), .lit (.int .u64 100000000000000), .lit (.int .u64 1000000000000000), .lit (.int .u64 10000000000000000), .lit (.int .u64 100000000000000000), .lit (.int .u64 1000000000000000000), .lit (.int .u64 10000000000000000000)]
def laid_loop_example_pub_g01451_pub_goprinter_go_token_tokens {H : Type} : DataW H := .agg [.lit (.string [73, 76, 76, 69, 71, 65, 76]), .lit (.string [69, 79, 70]), .lit (.string [67, 79, 77, 77, 69, 78, 84]), .lit (.string []), .lit (.string [73, 68, 69, 78, 84]), .lit (.string [73, 78, 84]), .lit (.string [70, 76, 79, 65, 84]), .lit (.string [73, 77, 65, 71]), .lit (.string [67, 72, 65, 82]), .lit (.string [83, 84, 82, 73, 78, 71]), .lit (.string []), .lit (.string []), .lit (.string [43]), .lit (.string [45]), .lit (.string [42]), .lit (.string [47]), .lit (.string [37]), .lit (.string [38]), .lit (.string [124]), .lit (.string [94]), .lit (.string [60, 60]), .lit (.string [62, 62]), .lit (.string [38, 94]), .lit (.string [43, 61]), .lit (.string [45, 61]), .lit (.string [42, 61]), .lit (.string [47, 61]), .lit (.string [37, 61]), .lit (.string [38, 61]), .lit (.string [124, 61]), .lit (.string [94, 61]), .lit (.string [60, 60, 61]), .lit (.string [62, 62, 61]), .lit (.string [38, 94, 61]), .lit (.string [38, 38]), .lit (.string [124, 124]), .lit (.string [60, 45]), .lit (.string [43, 43]), .lit (.string [45, 45]), .lit (.string [61, 61]), .lit (.string [60]), .lit (.string [62]), .lit (.string [61]), .lit (.string [33]), .lit (.string [33, 61]), .lit (.string [60, 61]), .lit (.string [62, 61]), .lit (.string [58, 61]), .lit (.string [46, 46, 46]), .lit (.string [40]), .lit (.string [91]), .lit (.string [123]), .lit (.string [44]), .lit (.string [46]), .lit (.string [41]), .lit (.string [93]), .lit (.string [125]), .lit (.string [59]), .lit (.string [58]), .lit (.string []), .lit (.string []), .lit (.string [98, 114, 101, 97, 107]), .lit (.string [99, 97, 115, 101]), .lit (.string [99, 104, 97, 110]), .lit (.string [99, 111, 110, 115, 116]), .lit (.string [99, 111, 110, 116, 105, 110, 117, 101]), .lit (.string [100, 101, 102, 97, 117, 108, 116]), .lit (.string [100, 101, 102, 101, 114]), .lit (.string [101, 108, 115, 101]), .lit (.string [102, 97, 108, 108, 116, 104, 114, 111, 117, 103, 104]), .lit (.string [102, 111, 114]), .lit (.string [102, 117, 110, 99]), .lit (.string [103, 111]), .lit (.string [103, 111, 116, 111]), .lit (.string [105, 102]), .lit (.string [105, 109, 112, 111, 114, 116]), .lit (.string [105, 110, 116, 101, 114, 102, 97, 99, 101]), .lit (.string [109, 97, 112]), .lit (.string [112, 97, 99, 107, 97, 103, 101]), .lit (.string [114, 97, 110, 103, 101]), .lit (.string [114, 101, 116, 117, 114, 110]), .lit (.string [115, 101, 108, 101, 99, 116]), .lit (.string [115, 116, 114, 117, 99, 116]), .lit (.string [115, 119, 105, 116, 99, 104]), .lit (.string [116, 121, 112, 101]), .lit (.string [118, 97, 114]), .lit (.string []), .lit (.string []), .lit (.string [126])]

/-- 'laws.FnInspectBalance': WHATEVER THE INPUT: true; the input reads as it did. -/
def fnInspectBalanceSpec : ChangeSpec := { name := "fnInspectBalance", vars := ["loop.example/pub-g01451/pub/goprinter_go_token.tokens"], fn := fun _ => fun
  | [d, g1] => { results := [.lit (.bool true)], args := [d], vars := [g1] }
  | _ => none }
def fnInspectBalanceRow : OpenClaim := { program := "ytdcaabjkklppjaagreatfmt", sum := "302e415872735c50e8c71a4ca199006bcadc97563766fdb04c3556b4bc42087f", func := "loop.example/pub-g01451/laws.FnInspectBalance", spec := "fnInspectBalance", stops := ["fmt.Sprintf, its operands' methods called"], inPlace := ["fmt.Sprintf"], unfollowed := true, recurses := true, named := ["loop.example/pub-g01451/pub/goprinter_go_token.tokens", "internal/strconv.uint64pow10", "math/bits.deBruijn32tab", "math/bits.deBruijn64tab"], loops := true, apart := false, laid := [("math/bits.deBruijn32tab", laid_math_bits_deBruijn32tab), ("math/bits.deBruijn64tab", laid_math_bits_deBruijn64tab), ("internal/strconv.uint64pow10", laid_internal_strconv_uint64pow10), ("loop.example/pub-g01451/pub/goprinter_go_token.tokens", laid_loop_example_pub_g01451_pub_goprinter_go_token_tokens)] }
/-- NO THEOREM (fmt's text is open here; it may be false): for the released tool's asking of the row's closed facts alone. THE STATEMENT IS 'FnInspectBalanceToldSaid' (YtdcaabjkklppjaaGreatFmtCards.lean). -/
def FnInspectBalanceFormAsk : Prop := fnInspectBalanceRow.holds Tryz.pinned (OpenSpec.ofChange fnInspectBalanceSpec)

/-- ITS FALSE NEIGHBOUR: 'it returns false'. Refute it at one input. -/
def fnInspectBalanceWrong : ChangeSpec := { name := "fnInspectBalance", vars := ["loop.example/pub-g01451/pub/goprinter_go_token.tokens"], fn := fun _ => fun
  | [d, g1] => { results := [.lit (.bool false)], args := [d], vars := [g1] }
  | _ => none }
def FnInspectBalanceWrongFormAsk : Prop := fnInspectBalanceRow.holds Tryz.pinned (OpenSpec.ofChange fnInspectBalanceWrong)

/-- 'laws.FnInspectSkips': WHATEVER THE INPUT: true; the input reads as it did. -/
def fnInspectSkipsSpec : ChangeSpec := { name := "fnInspectSkips", vars := ["loop.example/pub-g01451/pub/goprinter_go_token.tokens"], fn := fun _ => fun
  | [d1, d2, g1] => { results := [.lit (.bool true)], args := [d1, d2], vars := [g1] }
  | _ => none }
def fnInspectSkipsRow : OpenClaim := { program := "ytdcaabjkklppjaagreatfmt", sum := "302e415872735c50e8c71a4ca199006bcadc97563766fdb04c3556b4bc42087f", func := "loop.example/pub-g01451/laws.FnInspectSkips", spec := "fnInspectSkips", stops := ["fmt.Sprintf, its operands' methods called"], inPlace := ["fmt.Sprintf"], unfollowed := true, recurses := true, named := ["loop.example/pub-g01451/pub/goprinter_go_token.tokens", "internal/strconv.uint64pow10", "math/bits.deBruijn32tab", "math/bits.deBruijn64tab"], loops := true, apart := false, laid := [("math/bits.deBruijn32tab", laid_math_bits_deBruijn32tab), ("math/bits.deBruijn64tab", laid_math_bits_deBruijn64tab), ("internal/strconv.uint64pow10", laid_internal_strconv_uint64pow10), ("loop.example/pub-g01451/pub/goprinter_go_token.tokens", laid_loop_example_pub_g01451_pub_goprinter_go_token_tokens)] }
/-- NO THEOREM (fmt's text is open here; it may be false): for the released tool's asking of the row's closed facts alone. THE STATEMENT IS 'FnInspectSkipsToldSaid' (YtdcaabjkklppjaaGreatFmtCards.lean). -/
def FnInspectSkipsFormAsk : Prop := fnInspectSkipsRow.holds Tryz.pinned (OpenSpec.ofChange fnInspectSkipsSpec)

/-- ITS FALSE NEIGHBOUR: 'it returns false'. Refute it at one input. -/
def fnInspectSkipsWrong : ChangeSpec := { name := "fnInspectSkips", vars := ["loop.example/pub-g01451/pub/goprinter_go_token.tokens"], fn := fun _ => fun
  | [d1, d2, g1] => { results := [.lit (.bool false)], args := [d1, d2], vars := [g1] }
  | _ => none }
def FnInspectSkipsWrongFormAsk : Prop := fnInspectSkipsRow.holds Tryz.pinned (OpenSpec.ofChange fnInspectSkipsWrong)

/-- 'laws.FnInspectVisits': WHATEVER THE INPUT: true; the input reads as it did. -/
def fnInspectVisitsSpec : ChangeSpec := { name := "fnInspectVisits", vars := ["loop.example/pub-g01451/pub/goprinter_go_token.tokens"], fn := fun _ => fun
  | [d, g1] => { results := [.lit (.bool true)], args := [d], vars := [g1] }
  | _ => none }
def fnInspectVisitsRow : OpenClaim := { program := "ytdcaabjkklppjaagreatfmt", sum := "302e415872735c50e8c71a4ca199006bcadc97563766fdb04c3556b4bc42087f", func := "loop.example/pub-g01451/laws.FnInspectVisits", spec := "fnInspectVisits", stops := ["fmt.Sprintf, its operands' methods called"], inPlace := ["fmt.Sprintf"], unfollowed := true, recurses := true, named := ["loop.example/pub-g01451/pub/goprinter_go_token.tokens", "internal/strconv.uint64pow10", "math/bits.deBruijn32tab", "math/bits.deBruijn64tab"], loops := true, apart := false, laid := [("math/bits.deBruijn32tab", laid_math_bits_deBruijn32tab), ("math/bits.deBruijn64tab", laid_math_bits_deBruijn64tab), ("internal/strconv.uint64pow10", laid_internal_strconv_uint64pow10), ("loop.example/pub-g01451/pub/goprinter_go_token.tokens", laid_loop_example_pub_g01451_pub_goprinter_go_token_tokens)] }
/-- NO THEOREM (fmt's text is open here; it may be false): for the released tool's asking of the row's closed facts alone. THE STATEMENT IS 'FnInspectVisitsToldSaid' (YtdcaabjkklppjaaGreatFmtCards.lean). -/
def FnInspectVisitsFormAsk : Prop := fnInspectVisitsRow.holds Tryz.pinned (OpenSpec.ofChange fnInspectVisitsSpec)

/-- ITS FALSE NEIGHBOUR: 'it returns false'. Refute it at one input. -/
def fnInspectVisitsWrong : ChangeSpec := { name := "fnInspectVisits", vars := ["loop.example/pub-g01451/pub/goprinter_go_token.tokens"], fn := fun _ => fun
  | [d, g1] => { results := [.lit (.bool false)], args := [d], vars := [g1] }
  | _ => none }
def FnInspectVisitsWrongFormAsk : Prop := fnInspectVisitsRow.holds Tryz.pinned (OpenSpec.ofChange fnInspectVisitsWrong)

/-- 'laws.FnWalkVisits': WHATEVER THE INPUT: true; the input reads as it did. -/
def fnWalkVisitsSpec : ChangeSpec := { name := "fnWalkVisits", vars := ["loop.example/pub-g01451/pub/goprinter_go_token.tokens"], fn := fun _ => fun
  | [d1, d2, g1] => { results := [.lit (.bool true)], args := [d1, d2], vars := [g1] }
  | _ => none }
def fnWalkVisitsRow : OpenClaim := { program := "ytdcaabjkklppjaagreatfmt", sum := "302e415872735c50e8c71a4ca199006bcadc97563766fdb04c3556b4bc42087f", func := "loop.example/pub-g01451/laws.FnWalkVisits", spec := "fnWalkVisits", stops := ["fmt.Sprintf, its operands' methods called"], inPlace := ["fmt.Sprintf"], unfollowed := true, recurses := true, named := ["loop.example/pub-g01451/pub/goprinter_go_token.tokens", "internal/strconv.uint64pow10", "math/bits.deBruijn32tab", "math/bits.deBruijn64tab"], loops := true, apart := false, laid := [("math/bits.deBruijn32tab", laid_math_bits_deBruijn32tab), ("math/bits.deBruijn64tab", laid_math_bits_deBruijn64tab), ("internal/strconv.uint64pow10", laid_internal_strconv_uint64pow10), ("loop.example/pub-g01451/pub/goprinter_go_token.tokens", laid_loop_example_pub_g01451_pub_goprinter_go_token_tokens)] }
/-- NO THEOREM (fmt's text is open here; it may be false): for the released tool's asking of the row's closed facts alone. THE STATEMENT IS 'FnWalkVisitsToldSaid' (YtdcaabjkklppjaaGreatFmtCards.lean). -/
def FnWalkVisitsFormAsk : Prop := fnWalkVisitsRow.holds Tryz.pinned (OpenSpec.ofChange fnWalkVisitsSpec)

/-- ITS FALSE NEIGHBOUR: 'it returns false'. Refute it at one input. -/
def fnWalkVisitsWrong : ChangeSpec := { name := "fnWalkVisits", vars := ["loop.example/pub-g01451/pub/goprinter_go_token.tokens"], fn := fun _ => fun
  | [d1, d2, g1] => { results := [.lit (.bool false)], args := [d1, d2], vars := [g1] }
  | _ => none }
def FnWalkVisitsWrongFormAsk : Prop := fnWalkVisitsRow.holds Tryz.pinned (OpenSpec.ofChange fnWalkVisitsWrong)

/-- 'laws.FnPreorder': WHATEVER THE INPUT: true; the input reads as it did. -/
def fnPreorderSpec : ChangeSpec := { name := "fnPreorder", vars := ["loop.example/pub-g01451/pub/goprinter_go_token.tokens"], fn := fun _ => fun
  | [d1, d2, g1] => { results := [.lit (.bool true)], args := [d1, d2], vars := [g1] }
  | _ => none }
def fnPreorderRow : OpenClaim := { program := "ytdcaabjkklppjaagreatfmt", sum := "302e415872735c50e8c71a4ca199006bcadc97563766fdb04c3556b4bc42087f", func := "loop.example/pub-g01451/laws.FnPreorder", spec := "fnPreorder", stops := ["fmt.Sprintf, its operands' methods called"], inPlace := ["fmt.Sprintf"], unfollowed := true, recurses := true, named := ["loop.example/pub-g01451/pub/goprinter_go_token.tokens", "internal/strconv.uint64pow10", "math/bits.deBruijn32tab", "math/bits.deBruijn64tab"], loops := true, apart := false, laid := [("math/bits.deBruijn32tab", laid_math_bits_deBruijn32tab), ("math/bits.deBruijn64tab", laid_math_bits_deBruijn64tab), ("internal/strconv.uint64pow10", laid_internal_strconv_uint64pow10), ("loop.example/pub-g01451/pub/goprinter_go_token.tokens", laid_loop_example_pub_g01451_pub_goprinter_go_token_tokens)] }
/-- NO THEOREM (fmt's text is open here; it may be false): for the released tool's asking of the row's closed facts alone. THE STATEMENT IS 'FnPreorderToldSaid' (YtdcaabjkklppjaaGreatFmtCards.lean). -/
def FnPreorderFormAsk : Prop := fnPreorderRow.holds Tryz.pinned (OpenSpec.ofChange fnPreorderSpec)

/-- ITS FALSE NEIGHBOUR: 'it returns false'. Refute it at one input. -/
def fnPreorderWrong : ChangeSpec := { name := "fnPreorder", vars := ["loop.example/pub-g01451/pub/goprinter_go_token.tokens"], fn := fun _ => fun
  | [d1, d2, g1] => { results := [.lit (.bool false)], args := [d1, d2], vars := [g1] }
  | _ => none }
def FnPreorderWrongFormAsk : Prop := fnPreorderRow.holds Tryz.pinned (OpenSpec.ofChange fnPreorderWrong)

/-- 'laws.FnStack': WHATEVER THE INPUT: true; the input reads as it did. -/
def fnStackSpec : ChangeSpec := { name := "fnStack", vars := ["loop.example/pub-g01451/pub/goprinter_go_token.tokens"], fn := fun _ => fun
  | [d1, d2, d3, g1] => { results := [.lit (.bool true)], args := [d1, d2, d3], vars := [g1] }
  | _ => none }
def fnStackRow : OpenClaim := { program := "ytdcaabjkklppjaagreatfmt", sum := "302e415872735c50e8c71a4ca199006bcadc97563766fdb04c3556b4bc42087f", func := "loop.example/pub-g01451/laws.FnStack", spec := "fnStack", stops := ["fmt.Sprintf, its operands' methods called"], inPlace := ["fmt.Sprintf"], unfollowed := true, recurses := true, named := ["loop.example/pub-g01451/pub/goprinter_go_token.tokens", "internal/strconv.uint64pow10", "math/bits.deBruijn32tab", "math/bits.deBruijn64tab"], loops := true, apart := false, laid := [("math/bits.deBruijn32tab", laid_math_bits_deBruijn32tab), ("math/bits.deBruijn64tab", laid_math_bits_deBruijn64tab), ("internal/strconv.uint64pow10", laid_internal_strconv_uint64pow10), ("loop.example/pub-g01451/pub/goprinter_go_token.tokens", laid_loop_example_pub_g01451_pub_goprinter_go_token_tokens)] }
/-- NO THEOREM (fmt's text is open here; it may be false): for the released tool's asking of the row's closed facts alone. THE STATEMENT IS 'FnStackToldSaid' (YtdcaabjkklppjaaGreatFmtCards.lean). -/
def FnStackFormAsk : Prop := fnStackRow.holds Tryz.pinned (OpenSpec.ofChange fnStackSpec)

/-- ITS FALSE NEIGHBOUR: 'it returns false'. Refute it at one input. -/
def fnStackWrong : ChangeSpec := { name := "fnStack", vars := ["loop.example/pub-g01451/pub/goprinter_go_token.tokens"], fn := fun _ => fun
  | [d1, d2, d3, g1] => { results := [.lit (.bool false)], args := [d1, d2, d3], vars := [g1] }
  | _ => none }
def FnStackWrongFormAsk : Prop := fnStackRow.holds Tryz.pinned (OpenSpec.ofChange fnStackWrong)

end Rows
end Go.Proofs.YtdcaabjkklppjaaGreatFmt
