/-
  NARROWER THAN 'FOR EVERY INPUT', by the rows' own cells (each row's printed sentence says how): FnPathNests: laid · FnPathPoint: laid · FnPathSign: laid · FnPathSpan: laid · FnPathTerm: laid · FnPathWithin: laid.
  DERIVED. THE GIVEN ROWS OF THIS SEAT. 6 by the template 'for every input the law returns true; each argument reads behind the call as it read before'; 0 by the template 'total and deterministic' (their statements: YtakigggbecibmaaGreatFmtTotals.lean).
  GIVEN WITH THE SEED: the statements are not yours to turn. If you find one false, say at which input.
  Laid BY PROGRAM, IN A SANDBOX (cutbox-rows.mjs): the forced cells as the released guide's own fill.sh prints them over the translation 88c97ae43617e4ef… (all of the seat's roots in one cut). By AI agents, Wed Nov 11 2026. No macro, syntax, notation, axiom, sorry.
-/
import Derived.Test.YtakigggbecibmaaGreatFmtChecked
import GoSem.Claim
import GoSem.ClaimJoined
import GoSem.ClaimMapViews
import Derived.JoinedTies
import Derived.KernelRfl
namespace Go.Proofs.YtakigggbecibmaaGreatFmt
/- THE CELL 'sum', in the pinned program and in every row, IS THE sha256 OF THE DUMP (.gsa) THAT YtakigggbecibmaaGreatFmtProg.lean LOADS. Nothing in Lean hashes anything: it is a label: what it is worth is what the hold of that sum in a sandbox is worth. -/
noncomputable def Tryz.pinned : Pinned := { name := "ytakigggbecibmaagreatfmt", sum := "88c97ae43617e4ef26058d8a7fe1f122ad80e3df4158e59939c8bc4757d3c5b9", checked := Tryz.checked }
namespace Rows
def none {H : Type} : Left H := { results := [], args := [] }

/- WHAT THE LISTED PACKAGE-LEVEL VARIABLES READ AS WHEN THE CALL BEGINS. Each datum BY PROGRAM (the guide's laid-datum.mjs) off the statement by which the dump's own 'gosem.cut.vars' lays the variable. In a bare row this is a premise. The card (YtakigggbecibmaaGreatFmtCards.lean) ties it to the program's text. -/
def laid_math_bits_deBruijn32tab {H : Type} : DataW H := .agg [.lit (.int .u8 0), .lit (.int .u8 1), .lit (.int .u8 28), .lit (.int .u8 2), .lit (.int .u8 29), .lit (.int .u8 14), .lit (.int .u8 24), .lit (.int .u8 3), .lit (.int .u8 30), .lit (.int .u8 22), .lit (.int .u8 20), .lit (.int .u8 15), .lit (.int .u8 25), .lit (.int .u8 17), .lit (.int .u8 4), .lit (.int .u8 8), .lit (.int .u8 31), .lit (.int .u8 27), .lit (.int .u8 13), .lit (.int .u8 23), .lit (.int .u8 21), .lit (.int .u8 19), .lit (.int .u8 16), .lit (.int .u8 7), .lit (.int .u8 26), .lit (.int .u8 12), .lit (.int .u8 18), .lit (.int .u8 6), .lit (.int .u8 11), .lit (.int .u8 5), .lit (.int .u8 10), .lit (.int .u8 9)]
def laid_math_bits_deBruijn64tab {H : Type} : DataW H := .agg [.lit (.int .u8 0), .lit (.int .u8 1), .lit (.int .u8 56), .lit (.int .u8 2), .lit (.int .u8 57), .lit (.int .u8 49), .lit (.int .u8 28), .lit (.int .u8 3), .lit (.int .u8 61), .lit (.int .u8 58), .lit (.int .u8 42), .lit (.int .u8 50), .lit (.int .u8 38), .lit (.int .u8 29), .lit (.int .u8 17), .lit (.int .u8 4), .lit (.int .u8 62), .lit (.int .u8 47), .lit (.int .u8 59), .lit (.int .u8 36), .lit (.int .u8 45), .lit (.int .u8 43), .lit (.int .u8 51), .lit (.int .u8 22), .lit (.int .u8 53), .lit (.int .u8 39), .lit (.int .u8 33), .lit (.int .u8 30), .lit (.int .u8 24), .lit (.int .u8 18), .lit (.int .u8 12), .lit (.int .u8 5), .lit (.int .u8 63), .lit (.int .u8 55), .lit (.int .u8 48), .lit (.int .u8 27), .lit (.int .u8 60), .lit (.int .u8 41), .lit (.int .u8 37), .lit (.int .u8 16), .lit (.int .u8 46), .lit (.int .u8 35), .lit (.int .u8 44), .lit (.int .u8 21), .lit (.int .u8 52), .lit (.int .u8 32), .lit (.int .u8 23), .lit (.int .u8 11), .lit (.int .u8 54), .lit (.int .u8 26), .lit (.int .u8 40), .lit (.int .u8 15), .lit (.int .u8 34), .lit (.int .u8 20), .lit (.int .u8 31), .lit (.int .u8 10), .lit (.int .u8 25), .lit (.int .u8 14), .lit (.int .u8 19), .lit (.int .u8 9), .lit (.int .u8 13), .lit (.int .u8 8), .lit (.int .u8 7), .lit (.int .u8 6)]
def laid_internal_strconv_uint64pow10 {H : Type} : DataW H := .agg [.lit (.int .u64 1), .lit (.int .u64 10), .lit (.int .u64 100), .lit (.int .u64 1000), .lit (.int .u64 10000), .lit (.int .u64 100000), .lit (.int .u64 1000000), .lit (.int .u64 10000000), .lit (.int .u64 100000000), .lit (.int .u64 1000000000), .lit (.int .u64 10000000000), .lit (.int .u64 100000000000), .lit (.int .u64 1000000000000), .lit (.int .u64 10000000000000), .lit (.int .u64 100000000000000), .lit (.int .u64 1000000000000000), .lit (.int .u64 10000000000000000), .lit (.int .u64 100000000000000000), .lit (.int .u64 1000000000000000000), .lit (.int .u64 10000000000000000000)]
def laid_loop_example_pub_g01465_pub_goparse_go_token_tokens {H : Type} : DataW H := .agg [.lit (.string [73, 76, 76, 69, 71, 65, 76]), .lit (.string [69, 79, 70]), .lit (.string [67, 79, 77, 77, 69, 78, 84]), .lit (.string []), .lit (.string [73, 68, 69, 78, 84]), .lit (.string [73, 78, 84]), .lit (.string [70, 76, 79, 65, 84]), .lit (.string [73, 77, 65, 71]), .lit (.string [67, 72, 65, 82]), .lit (.string [83, 84, 82, 73, 78, 71]), .lit (.string []), .lit (.string []), .lit (.string [43]), .lit (.string [45]), .lit (.string [42]), .lit (.string [47]), .lit (.string [37]), .lit (.string [38]), .lit (.string [124]), .lit (.string [94]), .lit (.string [60, 60]), .lit (.string [62, 62]), .lit (.string [38, 94]), .lit (.string [43, 61]), .lit (.string [45, 61]), .lit (.string [42, 61]), .lit (.string [47, 61]), .lit (.string [37, 61]), .lit (.string [38, 61]), .lit (.string [124, 61]), .lit (.string [94, 61]), .lit (.string [60, 60, 61]), .lit (.string [62, 62, 61]), .lit (.string [38, 94, 61]), .lit (.string [38, 38]), .lit (.string [124, 124]), .lit (.string [60, 45]), .lit (.string [43, 43]), .lit (.string [45, 45]), .lit (.string [61, 61]), .lit (.string [60]), .lit (.string [62]), .lit (.string [61]), .lit (.string [33]), .lit (.string [33, 61]), .lit (.string [60, 61]), .lit (.string [62, 61]), .lit (.string [58, 61]), .lit (.string [46, 46, 46]), .lit (.string [40]), .lit (.string [91]), .lit (.string [123]), .lit (.string [44]), .lit (.string [46]), .lit (.string [41]), .lit (.string [93]), .lit (.string [125]), .lit (.string [59]), .lit (.string [58]), .lit (.string []), .lit (.string []), .lit (.string [98, 114, 101, 97, 107]), .lit (.string [99, 97, 115, 101]), .lit (.string [99, 104, 97, 110]), .lit (.string [99, 111, 110, 115, 116]), .lit (.string [99, 111, 110, 116, 105, 110, 117, 101]), .lit (.string [100, 101, 102, 97, 117, 108, 116]), .lit (.string [100, 101, 102, 101, 114]), .lit (.string [101, 108, 115, 101]), .lit (.string [102, 97, 108, 108, 116, 104, 114, 111, 117, 103, 104]), .lit (.string [102, 111, 114]), .lit (.string [102, 117, 110, 99]), .lit (.string [103, 111]), .lit (.string [103, 111, 116, 111]), .lit (.string [105, 102]), .lit (.string [105, 109, 112, 111, 114, 116]), .lit (.string [105, 110, 116, 101, 114, 102, 97, 99, 101]), .lit (.string [109, 97, 112]), .lit (.string [112, 97, 99, 107, 97, 103, 101]), .lit (.string [114, 97, 110, 103, 101]), .lit (.string [114, 101, 116, 117, 114, 110]), .lit (.string [115, 101, 108, 101, 99, 116]), .lit (.string [115, 116, 114, 117, 99, 116]), .lit (.string [115, 119, 105, 116, 99, 104]), .lit (.string [116, 121, 112, 101]), .lit (.string [118, 97, 114]), .lit (.string []), .lit (.string []), .lit (.string [126])]

/-- 'laws.FnPathNests': WHATEVER THE INPUT: true; the input reads as it did. -/
def fnPathNestsSpec : ChangeSpec := { name := "fnPathNests", vars := ["loop.example/pub-g01465/pub/goparse_go_token.tokens"], fn := fun _ => fun
  | [d1, d2, d3, g1] => { results := [.lit (.bool true)], args := [d1, d2, d3], vars := [g1] }
  | _ => none }
def fnPathNestsRow : OpenClaim := { program := "ytakigggbecibmaagreatfmt", sum := "88c97ae43617e4ef26058d8a7fe1f122ad80e3df4158e59939c8bc4757d3c5b9", func := "loop.example/pub-g01465/laws.FnPathNests", spec := "fnPathNests", stops := ["fmt.Sprintf, its operands' methods called"], inPlace := ["fmt.Sprintf"], unfollowed := true, recurses := true, named := ["loop.example/pub-g01465/pub/goparse_go_token.tokens", "internal/strconv.uint64pow10", "math/bits.deBruijn32tab", "math/bits.deBruijn64tab"], apart := false, laid := [("math/bits.deBruijn32tab", laid_math_bits_deBruijn32tab), ("math/bits.deBruijn64tab", laid_math_bits_deBruijn64tab), ("internal/strconv.uint64pow10", laid_internal_strconv_uint64pow10), ("loop.example/pub-g01465/pub/goparse_go_token.tokens", laid_loop_example_pub_g01465_pub_goparse_go_token_tokens)] }
/-- NO THEOREM (fmt's text is open here; it may be false): for the released tool's asking of the row's closed facts alone. THE STATEMENT IS 'FnPathNestsToldSaid' (YtakigggbecibmaaGreatFmtCards.lean). -/
def FnPathNestsFormAsk : Prop := fnPathNestsRow.holds Tryz.pinned (OpenSpec.ofChange fnPathNestsSpec)

/-- ITS FALSE NEIGHBOUR: 'it returns false'. Refute it at one input. -/
def fnPathNestsWrong : ChangeSpec := { name := "fnPathNests", vars := ["loop.example/pub-g01465/pub/goparse_go_token.tokens"], fn := fun _ => fun
  | [d1, d2, d3, g1] => { results := [.lit (.bool false)], args := [d1, d2, d3], vars := [g1] }
  | _ => none }
def FnPathNestsWrongFormAsk : Prop := fnPathNestsRow.holds Tryz.pinned (OpenSpec.ofChange fnPathNestsWrong)

/-- 'laws.FnPathPoint': WHATEVER THE INPUT: true; the input reads as it did. -/
def fnPathPointSpec : ChangeSpec := { name := "fnPathPoint", vars := ["loop.example/pub-g01465/pub/goparse_go_token.tokens"], fn := fun _ => fun
  | [d1, d2, g1] => { results := [.lit (.bool true)], args := [d1, d2], vars := [g1] }
  | _ => none }
def fnPathPointRow : OpenClaim := { program := "ytakigggbecibmaagreatfmt", sum := "88c97ae43617e4ef26058d8a7fe1f122ad80e3df4158e59939c8bc4757d3c5b9", func := "loop.example/pub-g01465/laws.FnPathPoint", spec := "fnPathPoint", stops := ["fmt.Sprintf, its operands' methods called"], inPlace := ["fmt.Sprintf"], unfollowed := true, recurses := true, named := ["loop.example/pub-g01465/pub/goparse_go_token.tokens", "internal/strconv.uint64pow10", "math/bits.deBruijn32tab", "math/bits.deBruijn64tab"], apart := false, laid := [("math/bits.deBruijn32tab", laid_math_bits_deBruijn32tab), ("math/bits.deBruijn64tab", laid_math_bits_deBruijn64tab), ("internal/strconv.uint64pow10", laid_internal_strconv_uint64pow10), ("loop.example/pub-g01465/pub/goparse_go_token.tokens", laid_loop_example_pub_g01465_pub_goparse_go_token_tokens)] }
/-- NO THEOREM (fmt's text is open here; it may be false): for the released tool's asking of the row's closed facts alone. THE STATEMENT IS 'FnPathPointToldSaid' (YtakigggbecibmaaGreatFmtCards.lean). -/
def FnPathPointFormAsk : Prop := fnPathPointRow.holds Tryz.pinned (OpenSpec.ofChange fnPathPointSpec)

/-- ITS FALSE NEIGHBOUR: 'it returns false'. Refute it at one input. -/
def fnPathPointWrong : ChangeSpec := { name := "fnPathPoint", vars := ["loop.example/pub-g01465/pub/goparse_go_token.tokens"], fn := fun _ => fun
  | [d1, d2, g1] => { results := [.lit (.bool false)], args := [d1, d2], vars := [g1] }
  | _ => none }
def FnPathPointWrongFormAsk : Prop := fnPathPointRow.holds Tryz.pinned (OpenSpec.ofChange fnPathPointWrong)

/-- 'laws.FnPathSign': WHATEVER THE INPUT: true; the input reads as it did. -/
def fnPathSignSpec : ChangeSpec := { name := "fnPathSign", vars := ["loop.example/pub-g01465/pub/goparse_go_token.tokens"], fn := fun _ => fun
  | [d1, d2, g1] => { results := [.lit (.bool true)], args := [d1, d2], vars := [g1] }
  | _ => none }
def fnPathSignRow : OpenClaim := { program := "ytakigggbecibmaagreatfmt", sum := "88c97ae43617e4ef26058d8a7fe1f122ad80e3df4158e59939c8bc4757d3c5b9", func := "loop.example/pub-g01465/laws.FnPathSign", spec := "fnPathSign", stops := ["fmt.Sprintf, its operands' methods called"], inPlace := ["fmt.Sprintf"], unfollowed := true, recurses := true, named := ["loop.example/pub-g01465/pub/goparse_go_token.tokens", "internal/strconv.uint64pow10", "math/bits.deBruijn32tab", "math/bits.deBruijn64tab"], apart := false, laid := [("math/bits.deBruijn32tab", laid_math_bits_deBruijn32tab), ("math/bits.deBruijn64tab", laid_math_bits_deBruijn64tab), ("internal/strconv.uint64pow10", laid_internal_strconv_uint64pow10), ("loop.example/pub-g01465/pub/goparse_go_token.tokens", laid_loop_example_pub_g01465_pub_goparse_go_token_tokens)] }
/-- NO THEOREM (fmt's text is open here; it may be false): for the released tool's asking of the row's closed facts alone. THE STATEMENT IS 'FnPathSignToldSaid' (YtakigggbecibmaaGreatFmtCards.lean). -/
def FnPathSignFormAsk : Prop := fnPathSignRow.holds Tryz.pinned (OpenSpec.ofChange fnPathSignSpec)

/-- ITS FALSE NEIGHBOUR: 'it returns false'. Refute it at one input. -/
def fnPathSignWrong : ChangeSpec := { name := "fnPathSign", vars := ["loop.example/pub-g01465/pub/goparse_go_token.tokens"], fn := fun _ => fun
  | [d1, d2, g1] => { results := [.lit (.bool false)], args := [d1, d2], vars := [g1] }
  | _ => none }
def FnPathSignWrongFormAsk : Prop := fnPathSignRow.holds Tryz.pinned (OpenSpec.ofChange fnPathSignWrong)

/-- 'laws.FnPathSpan': WHATEVER THE INPUT: true; the input reads as it did. -/
def fnPathSpanSpec : ChangeSpec := { name := "fnPathSpan", vars := ["loop.example/pub-g01465/pub/goparse_go_token.tokens"], fn := fun _ => fun
  | [d1, d2, d3, g1] => { results := [.lit (.bool true)], args := [d1, d2, d3], vars := [g1] }
  | _ => none }
def fnPathSpanRow : OpenClaim := { program := "ytakigggbecibmaagreatfmt", sum := "88c97ae43617e4ef26058d8a7fe1f122ad80e3df4158e59939c8bc4757d3c5b9", func := "loop.example/pub-g01465/laws.FnPathSpan", spec := "fnPathSpan", stops := ["fmt.Sprintf, its operands' methods called"], inPlace := ["fmt.Sprintf"], unfollowed := true, recurses := true, named := ["loop.example/pub-g01465/pub/goparse_go_token.tokens", "internal/strconv.uint64pow10", "math/bits.deBruijn32tab", "math/bits.deBruijn64tab"], apart := false, laid := [("math/bits.deBruijn32tab", laid_math_bits_deBruijn32tab), ("math/bits.deBruijn64tab", laid_math_bits_deBruijn64tab), ("internal/strconv.uint64pow10", laid_internal_strconv_uint64pow10), ("loop.example/pub-g01465/pub/goparse_go_token.tokens", laid_loop_example_pub_g01465_pub_goparse_go_token_tokens)] }
/-- NO THEOREM (fmt's text is open here; it may be false): for the released tool's asking of the row's closed facts alone. THE STATEMENT IS 'FnPathSpanToldSaid' (YtakigggbecibmaaGreatFmtCards.lean). -/
def FnPathSpanFormAsk : Prop := fnPathSpanRow.holds Tryz.pinned (OpenSpec.ofChange fnPathSpanSpec)

/-- ITS FALSE NEIGHBOUR: 'it returns false'. Refute it at one input. -/
def fnPathSpanWrong : ChangeSpec := { name := "fnPathSpan", vars := ["loop.example/pub-g01465/pub/goparse_go_token.tokens"], fn := fun _ => fun
  | [d1, d2, d3, g1] => { results := [.lit (.bool false)], args := [d1, d2, d3], vars := [g1] }
  | _ => none }
def FnPathSpanWrongFormAsk : Prop := fnPathSpanRow.holds Tryz.pinned (OpenSpec.ofChange fnPathSpanWrong)

/-- 'laws.FnPathTerm': WHATEVER THE INPUT: true; the input reads as it did. -/
def fnPathTermSpec : ChangeSpec := { name := "fnPathTerm", vars := ["loop.example/pub-g01465/pub/goparse_go_token.tokens"], fn := fun _ => fun
  | [d1, d2, d3, d4, g1] => { results := [.lit (.bool true)], args := [d1, d2, d3, d4], vars := [g1] }
  | _ => none }
def fnPathTermRow : OpenClaim := { program := "ytakigggbecibmaagreatfmt", sum := "88c97ae43617e4ef26058d8a7fe1f122ad80e3df4158e59939c8bc4757d3c5b9", func := "loop.example/pub-g01465/laws.FnPathTerm", spec := "fnPathTerm", stops := ["fmt.Sprintf, its operands' methods called"], inPlace := ["fmt.Sprintf"], unfollowed := true, recurses := true, named := ["loop.example/pub-g01465/pub/goparse_go_token.tokens", "internal/strconv.uint64pow10", "math/bits.deBruijn32tab", "math/bits.deBruijn64tab"], apart := false, laid := [("math/bits.deBruijn32tab", laid_math_bits_deBruijn32tab), ("math/bits.deBruijn64tab", laid_math_bits_deBruijn64tab), ("internal/strconv.uint64pow10", laid_internal_strconv_uint64pow10), ("loop.example/pub-g01465/pub/goparse_go_token.tokens", laid_loop_example_pub_g01465_pub_goparse_go_token_tokens)] }
/-- NO THEOREM (fmt's text is open here; it may be false): for the released tool's asking of the row's closed facts alone. THE STATEMENT IS 'FnPathTermToldSaid' (YtakigggbecibmaaGreatFmtCards.lean). -/
def FnPathTermFormAsk : Prop := fnPathTermRow.holds Tryz.pinned (OpenSpec.ofChange fnPathTermSpec)

/-- ITS FALSE NEIGHBOUR: 'it returns false'. Refute it at one input. -/
def fnPathTermWrong : ChangeSpec := { name := "fnPathTerm", vars := ["loop.example/pub-g01465/pub/goparse_go_token.tokens"], fn := fun _ => fun
  | [d1, d2, d3, d4, g1] => { results := [.lit (.bool false)], args := [d1, d2, d3, d4], vars := [g1] }
  | _ => none }
def FnPathTermWrongFormAsk : Prop := fnPathTermRow.holds Tryz.pinned (OpenSpec.ofChange fnPathTermWrong)

/-- 'laws.FnPathWithin': WHATEVER THE INPUT: true; the input reads as it did. -/
def fnPathWithinSpec : ChangeSpec := { name := "fnPathWithin", vars := ["loop.example/pub-g01465/pub/goparse_go_token.tokens"], fn := fun _ => fun
  | [d1, d2, d3, d4, g1] => { results := [.lit (.bool true)], args := [d1, d2, d3, d4], vars := [g1] }
  | _ => none }
def fnPathWithinRow : OpenClaim := { program := "ytakigggbecibmaagreatfmt", sum := "88c97ae43617e4ef26058d8a7fe1f122ad80e3df4158e59939c8bc4757d3c5b9", func := "loop.example/pub-g01465/laws.FnPathWithin", spec := "fnPathWithin", stops := ["fmt.Sprintf, its operands' methods called"], inPlace := ["fmt.Sprintf"], unfollowed := true, recurses := true, named := ["loop.example/pub-g01465/pub/goparse_go_token.tokens", "internal/strconv.uint64pow10", "math/bits.deBruijn32tab", "math/bits.deBruijn64tab"], apart := false, laid := [("math/bits.deBruijn32tab", laid_math_bits_deBruijn32tab), ("math/bits.deBruijn64tab", laid_math_bits_deBruijn64tab), ("internal/strconv.uint64pow10", laid_internal_strconv_uint64pow10), ("loop.example/pub-g01465/pub/goparse_go_token.tokens", laid_loop_example_pub_g01465_pub_goparse_go_token_tokens)] }
/-- NO THEOREM (fmt's text is open here; it may be false): for the released tool's asking of the row's closed facts alone. THE STATEMENT IS 'FnPathWithinToldSaid' (YtakigggbecibmaaGreatFmtCards.lean). -/
def FnPathWithinFormAsk : Prop := fnPathWithinRow.holds Tryz.pinned (OpenSpec.ofChange fnPathWithinSpec)

/-- ITS FALSE NEIGHBOUR: 'it returns false'. Refute it at one input. -/
def fnPathWithinWrong : ChangeSpec := { name := "fnPathWithin", vars := ["loop.example/pub-g01465/pub/goparse_go_token.tokens"], fn := fun _ => fun
  | [d1, d2, d3, d4, g1] => { results := [.lit (.bool false)], args := [d1, d2, d3, d4], vars := [g1] }
  | _ => none }
def FnPathWithinWrongFormAsk : Prop := fnPathWithinRow.holds Tryz.pinned (OpenSpec.ofChange fnPathWithinWrong)

end Rows
end Go.Proofs.YtakigggbecibmaaGreatFmt
