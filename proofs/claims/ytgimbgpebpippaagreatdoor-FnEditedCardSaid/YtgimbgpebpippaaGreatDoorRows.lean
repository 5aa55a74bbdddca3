/-
  NARROWER THAN 'FOR EVERY INPUT', by the rows' own cells (each row's printed sentence says how): FnApply: loops, laid · FnApplyOne: loops, laid · FnUnwrapped: loops, laid · FnWrapped: loops, laid · FnRenamed: loops, laid · FnEdited: loops, laid · FnEditedTree: loops, laid.
  DERIVED. THE GIVEN ROWS OF THIS SEAT. 7 by the template 'for every input the law returns true; each argument reads behind the call as it read before'; 0 by the template 'total and deterministic' (their statements: YtgimbgpebpippaaGreatDoorTotals.lean).
  GIVEN WITH THE SEED: the statements are not yours to turn. If you find one false, say at which input.
  Laid BY PROGRAM, IN A SANDBOX (cutbox-rows.mjs): the forced cells as the released guide's own fill.sh prints them over the translation 3415aaebc4c9ec43… (all of the seat's roots in one cut). By AI agents, Wed Nov 11 2026. No macro, syntax, notation, axiom, sorry.
-/
import Derived.Test.YtgimbgpebpippaaGreatDoorChecked
import GoSem.Claim
import GoSem.ClaimJoined
import GoSem.ClaimMapViews
import Derived.JoinedTies
import Derived.KernelRfl
namespace Go.Proofs.YtgimbgpebpippaaGreatDoor
/- THE CELL 'sum', in the pinned program and in every row, IS THE sha256 OF THE DUMP (.gsa) THAT YtgimbgpebpippaaGreatDoorProg.lean LOADS. Nothing in Lean hashes anything: it is a label: what it is worth is what the hold of that sum in a sandbox is worth. -/
noncomputable def Tryz.pinned : Pinned := { name := "ytgimbgpebpippaagreatdoor", sum := "3415aaebc4c9ec43e87e414fa7a1afa0bce1ff88d8ad93cc198457d118d694a5", checked := Tryz.checked }
namespace Rows
def none {H : Type} : Left H := { results := [], args := [] }

/- WHAT THE LISTED PACKAGE-LEVEL VARIABLES READ AS WHEN THE CALL BEGINS. Each datum BY PROGRAM (the guide's laid-datum.mjs) off the statement by which the dump's own 'gosem.cut.vars' lays the variable. In a bare row this is a premise. The card (YtgimbgpebpippaaGreatDoorCards.lean) ties it to the program's text. -/
def laid_math_bits_deBruijn32tab {H : Type} : DataW H := .agg [.lit (.int .u8 0), .lit (.int .u8 1), .lit (.int .u8 28), .lit (.int .u8 2), .lit (.int .u8 29), .lit (.int .u8 14), .lit (.int .u8 24), .lit (.int .u8 3), .lit (.int .u8 30), .lit (.int .u8 22), .lit (.int .u8 20), .lit (.int .u8 15), .lit (.int .u8 25), .lit (.int .u8 17), .lit (.int .u8 4), .lit (.int .u8 8), .lit (.int .u8 31), .lit (.int .u8 27), .lit (.int .u8 13), .lit (.int .u8 23), .lit (.int .u8 21), .lit (.int .u8 19), .lit (.int .u8 16), .lit (.int .u8 7), .lit (.int .u8 26), .lit (.int .u8 12), .lit (.int .u8 18), .lit (.int .u8 6), .lit (.int .u8 11), .lit (.int .u8 5), .lit (.int .u8 10), .lit (.int .u8 9)]
def laid_math_bits_deBruijn64tab {H : Type} : DataW H := .agg [.lit (.int .u8 0), .lit (.int .u8 1), .lit (.int .u8 56), .lit (.int .u8 2), .lit (.int .u8 57), .lit (.int .u8 49), .lit (.int .u8 28), .lit (.int .u8 3), .lit (.int .u8 61), .lit (.int .u8 58), .lit (.int .u8 42), .lit (.int .u8 50), .lit (.int .u8 38), .lit (.int .u8 29), .lit (.int .u8 17), .lit (.int .u8 4), .lit (.int .u8 62), .lit (.int .u8 47), .lit (.int .u8 59), .lit (.int .u8 36), .lit (.int .u8 45), .lit (.int .u8 43), .lit (.int .u8 51), .lit (.int .u8 22), .lit (.int .u8 53), .lit (.int .u8 39), .lit (.int .u8 33), .lit (.int .u8 30), .lit (.int .u8 24), .lit (.int .u8 18), .lit (.int .u8 12), .lit (.int .u8 5), .lit (.int .u8 63), .lit (.int .u8 55), .lit (.int .u8 48), .lit (.int .u8 27), .lit (.int .u8 60), .lit (.int .u8 41), .lit (.int .u8 37), .lit (.int .u8 16), .lit (.int .u8 46), .lit (.int .u8 35), .lit (.int .u8 44), .lit (.int .u8 21), .lit (.int .u8 52), .lit (.int .u8 32), .lit (.int .u8 23), .lit (.int .u8 11), .lit (.int .u8 54), .lit (.int .u8 26), .lit (.int .u8 40), .lit (.int .u8 15), .lit (.int .u8 34), .lit (.int .u8 20), .lit (.int .u8 31), .lit (.int .u8 10), .lit (.int .u8 25), .lit (.int .u8 14), .lit (.int .u8 19), .lit (.int .u8 9), .lit (.int .u8 13), .lit (.int .u8 8), .lit (.int .u8 7), .lit (.int .u8 6)]
def laid_internal_strconv_uint64pow10 {H : Type} : DataW H := .agg [.lit (.int .u64 1), .lit (.int .u64 10), .lit (.int .u64 100), .lit (.int .u64 1000), .lit (.int .u64 10000), .lit (.int .u64 100000), .lit (.int .u64 1000000), .lit (.int .u64 10000000), .lit (.int .u64 100000000), .lit (.int .u64 1000000000), .lit (.int .u64 10000000000), .lit (.int .u64 100000000000), .lit (.int .u64 1000000000000), .lit (.int .u64 10000000000000), .lit (.int .u64 100000000000000), .lit (.int .u64 1000000000000000), .lit (.int .u64 10000000000000000), .lit (.int .u64 100000000000000000), .lit (.int .u64 1000000000000000000), .lit (.int .u64 10000000000000000000)]
def laid_loop_example_pub_g01465_pub_goparse_go_token_tokens {H : Type} : DataW H := .agg [.lit (.string [73, 76, 76, 69, 71, 65, 76]), .lit (.string [69, 79, 70]), .lit (.string [67, 79, 77, 77, 69, 78, 84]), .lit (.string []), .lit (.string [73, 68, 69, 78, 84]), .lit (.string [73, 78, 84]), .lit (.string [70, 76, 79, 65, 84]), .lit (.string [73, 77, 65, 71]), .lit (.string [67, 72, 65, 82]), .lit (.string [83, 84, 82, 73, 78, 71]), .lit (.string []), .lit (.string []), .lit (.string [43]), .lit (.string [45]), .lit (.string [42]), .lit (.string [47]), .lit (.string [37]), .lit (.string [38]), .lit (.string [124]), .lit (.string [94]), .lit (.string [60, 60]), .lit (.string [62, 62]), .lit (.string [38, 94]), .lit (.string [43, 61]), .lit (.string [45, 61]), .lit (.string [42, 61]), .lit (.string [47, 61]), .lit (.string [37, 61]), .lit (.string [38, 61]), .lit (.string [124, 61]), .lit (.string [94, 61]), .lit (.string [60, 60, 61]), .lit (.string [62, 62, 61]), .lit (.string [38, 94, 61]), .lit (.string [38, 38]), .lit (.string [124, 124]), .lit (.string [60, 45]), .lit (.string [43, 43]), .lit (.string [45, 45]), .lit (.string [61, 61]), .lit (.string [60]), .lit (.string [62]), .lit (.string [61]), .lit (.string [33]), .lit (.string [33, 61]), .lit (.string [60, 61]), .lit (.string [62, 61]), .lit (.string [58, 61]), .lit (.string [46, 46, 46]), .lit (.string [40]), .lit (.string [91]), .lit (.string [123]), .lit (.string [44]), .lit (.string [46]), .lit (.string [41]), .lit (.string [93]), .lit (.string [125]), .lit (.string [59]), .lit (.string [58]), .lit (.string []), .lit (.string []), .lit (.string [98, 114, 101, 97, 107]), .lit (.string [99, 97, 115, 101]), .lit (.string [99, 104, 97, 110]), .lit (.string [99, 111, 110, 115, 116]), .lit (.string [99, 111, 110, 116, 105, 110, 117, 101]), .lit (.string [100, 101, 102, 97, 117, 108, 116]), .lit (.string [100, 101, 102, 101, 114]), .lit (.string [101, 108, 115, 101]), .lit (.string [102, 97, 108, 108, 116, 104, 114, 111, 117, 103, 104]), .lit (.string [102, 111, 114]), .lit (.string [102, 117, 110, 99]), .lit (.string [103, 111]), .lit (.string [103, 111, 116, 111]), .lit (.string [105, 102]), .lit (.string [105, 109, 112, 111, 114, 116]), .lit (.string [105, 110, 116, 101, 114, 102, 97, 99, 101]), .lit (.string [109, 97, 112]), .lit (.string [112, 97, 99, 107, 97, 103, 101]), .lit (.string [114, 97, 110, 103, 101]), .lit (.string [114, 101, 116, 117, 114, 110]), .lit (.string [115, 101, 108, 101, 99, 116]), .lit (.string [115, 116, 114, 117, 99, 116]), .lit (.string [115, 119, 105, 116, 99, 104]), .lit (.string [116, 121, 112, 101]), .lit (.string [118, 97, 114]), .lit (.string []), .lit (.string []), .lit (.string [126])]

/-- 'laws.FnApply': WHATEVER THE INPUT: true; the input reads as it did. -/
def fnApplySpec : ChangeSpec := { name := "fnApply", vars := ["loop.example/pub-g01465/pub/goparse_go_token.tokens"], fn := fun _ => fun
  | [d1, d2, d3, g1] => { results := [.lit (.bool true)], args := [d1, d2, d3], vars := [g1] }
  | _ => none }
def fnApplyRow : OpenClaim := { program := "ytgimbgpebpippaagreatdoor", sum := "3415aaebc4c9ec43e87e414fa7a1afa0bce1ff88d8ad93cc198457d118d694a5", func := "loop.example/pub-g01465/laws.FnApply", spec := "fnApply", unfollowed := true, recurses := true, named := ["loop.example/pub-g01465/pub/goparse_go_token.tokens", "internal/strconv.uint64pow10", "math/bits.deBruijn32tab", "math/bits.deBruijn64tab"], loops := true, apart := false, laid := [("math/bits.deBruijn32tab", laid_math_bits_deBruijn32tab), ("math/bits.deBruijn64tab", laid_math_bits_deBruijn64tab), ("internal/strconv.uint64pow10", laid_internal_strconv_uint64pow10), ("loop.example/pub-g01465/pub/goparse_go_token.tokens", laid_loop_example_pub_g01465_pub_goparse_go_token_tokens)] }
def FnApplySaid : Prop := fnApplyRow.holds Tryz.pinned (OpenSpec.ofChange fnApplySpec)

/-- ITS FALSE NEIGHBOUR: 'it returns false'. Refute it at one input. -/
def fnApplyWrong : ChangeSpec := { name := "fnApply", vars := ["loop.example/pub-g01465/pub/goparse_go_token.tokens"], fn := fun _ => fun
  | [d1, d2, d3, g1] => { results := [.lit (.bool false)], args := [d1, d2, d3], vars := [g1] }
  | _ => none }
def FnApplyWrongFalsely : Prop := fnApplyRow.holds Tryz.pinned (OpenSpec.ofChange fnApplyWrong)

/-- 'laws.FnApplyOne': WHATEVER THE INPUT: true; the input reads as it did. -/
def fnApplyOneSpec : ChangeSpec := { name := "fnApplyOne", vars := ["loop.example/pub-g01465/pub/goparse_go_token.tokens"], fn := fun _ => fun
  | [d1, d2, d3, d4, g1] => { results := [.lit (.bool true)], args := [d1, d2, d3, d4], vars := [g1] }
  | _ => none }
def fnApplyOneRow : OpenClaim := { program := "ytgimbgpebpippaagreatdoor", sum := "3415aaebc4c9ec43e87e414fa7a1afa0bce1ff88d8ad93cc198457d118d694a5", func := "loop.example/pub-g01465/laws.FnApplyOne", spec := "fnApplyOne", unfollowed := true, recurses := true, named := ["loop.example/pub-g01465/pub/goparse_go_token.tokens", "internal/strconv.uint64pow10", "math/bits.deBruijn32tab", "math/bits.deBruijn64tab"], loops := true, apart := false, laid := [("math/bits.deBruijn32tab", laid_math_bits_deBruijn32tab), ("math/bits.deBruijn64tab", laid_math_bits_deBruijn64tab), ("internal/strconv.uint64pow10", laid_internal_strconv_uint64pow10), ("loop.example/pub-g01465/pub/goparse_go_token.tokens", laid_loop_example_pub_g01465_pub_goparse_go_token_tokens)] }
def FnApplyOneSaid : Prop := fnApplyOneRow.holds Tryz.pinned (OpenSpec.ofChange fnApplyOneSpec)

/-- ITS FALSE NEIGHBOUR: 'it returns false'. Refute it at one input. -/
def fnApplyOneWrong : ChangeSpec := { name := "fnApplyOne", vars := ["loop.example/pub-g01465/pub/goparse_go_token.tokens"], fn := fun _ => fun
  | [d1, d2, d3, d4, g1] => { results := [.lit (.bool false)], args := [d1, d2, d3, d4], vars := [g1] }
  | _ => none }
def FnApplyOneWrongFalsely : Prop := fnApplyOneRow.holds Tryz.pinned (OpenSpec.ofChange fnApplyOneWrong)

/-- 'laws.FnUnwrapped': WHATEVER THE INPUT: true; the input reads as it did. -/
def fnUnwrappedSpec : ChangeSpec := { name := "fnUnwrapped", vars := ["loop.example/pub-g01465/pub/goparse_go_token.tokens"], fn := fun _ => fun
  | [d, g1] => { results := [.lit (.bool true)], args := [d], vars := [g1] }
  | _ => none }
def fnUnwrappedRow : OpenClaim := { program := "ytgimbgpebpippaagreatdoor", sum := "3415aaebc4c9ec43e87e414fa7a1afa0bce1ff88d8ad93cc198457d118d694a5", func := "loop.example/pub-g01465/laws.FnUnwrapped", spec := "fnUnwrapped", unfollowed := true, recurses := true, named := ["loop.example/pub-g01465/pub/goparse_go_token.tokens", "internal/strconv.uint64pow10", "math/bits.deBruijn32tab", "math/bits.deBruijn64tab"], loops := true, apart := false, laid := [("math/bits.deBruijn32tab", laid_math_bits_deBruijn32tab), ("math/bits.deBruijn64tab", laid_math_bits_deBruijn64tab), ("internal/strconv.uint64pow10", laid_internal_strconv_uint64pow10), ("loop.example/pub-g01465/pub/goparse_go_token.tokens", laid_loop_example_pub_g01465_pub_goparse_go_token_tokens)] }
def FnUnwrappedSaid : Prop := fnUnwrappedRow.holds Tryz.pinned (OpenSpec.ofChange fnUnwrappedSpec)

/-- ITS FALSE NEIGHBOUR: 'it returns false'. Refute it at one input. -/
def fnUnwrappedWrong : ChangeSpec := { name := "fnUnwrapped", vars := ["loop.example/pub-g01465/pub/goparse_go_token.tokens"], fn := fun _ => fun
  | [d, g1] => { results := [.lit (.bool false)], args := [d], vars := [g1] }
  | _ => none }
def FnUnwrappedWrongFalsely : Prop := fnUnwrappedRow.holds Tryz.pinned (OpenSpec.ofChange fnUnwrappedWrong)

/-- 'laws.FnWrapped': WHATEVER THE INPUT: true; the input reads as it did. -/
def fnWrappedSpec : ChangeSpec := { name := "fnWrapped", vars := ["loop.example/pub-g01465/pub/goparse_go_token.tokens"], fn := fun _ => fun
  | [d1, d2, g1] => { results := [.lit (.bool true)], args := [d1, d2], vars := [g1] }
  | _ => none }
def fnWrappedRow : OpenClaim := { program := "ytgimbgpebpippaagreatdoor", sum := "3415aaebc4c9ec43e87e414fa7a1afa0bce1ff88d8ad93cc198457d118d694a5", func := "loop.example/pub-g01465/laws.FnWrapped", spec := "fnWrapped", unfollowed := true, recurses := true, named := ["loop.example/pub-g01465/pub/goparse_go_token.tokens", "internal/strconv.uint64pow10", "math/bits.deBruijn32tab", "math/bits.deBruijn64tab"], loops := true, apart := false, laid := [("math/bits.deBruijn32tab", laid_math_bits_deBruijn32tab), ("math/bits.deBruijn64tab", laid_math_bits_deBruijn64tab), ("internal/strconv.uint64pow10", laid_internal_strconv_uint64pow10), ("loop.example/pub-g01465/pub/goparse_go_token.tokens", laid_loop_example_pub_g01465_pub_goparse_go_token_tokens)] }
def FnWrappedSaid : Prop := fnWrappedRow.holds Tryz.pinned (OpenSpec.ofChange fnWrappedSpec)

/-- ITS FALSE NEIGHBOUR: 'it returns false'. Refute it at one input. -/
def fnWrappedWrong : ChangeSpec := { name := "fnWrapped", vars := ["loop.example/pub-g01465/pub/goparse_go_token.tokens"], fn := fun _ => fun
  | [d1, d2, g1] => { results := [.lit (.bool false)], args := [d1, d2], vars := [g1] }
  | _ => none }
def FnWrappedWrongFalsely : Prop := fnWrappedRow.holds Tryz.pinned (OpenSpec.ofChange fnWrappedWrong)

/-- 'laws.FnRenamed': WHATEVER THE INPUT: true; the input reads as it did. -/
def fnRenamedSpec : ChangeSpec := { name := "fnRenamed", vars := ["loop.example/pub-g01465/pub/goparse_go_token.tokens"], fn := fun _ => fun
  | [d1, d2, d3, d4, g1] => { results := [.lit (.bool true)], args := [d1, d2, d3, d4], vars := [g1] }
  | _ => none }
def fnRenamedRow : OpenClaim := { program := "ytgimbgpebpippaagreatdoor", sum := "3415aaebc4c9ec43e87e414fa7a1afa0bce1ff88d8ad93cc198457d118d694a5", func := "loop.example/pub-g01465/laws.FnRenamed", spec := "fnRenamed", unfollowed := true, recurses := true, named := ["loop.example/pub-g01465/pub/goparse_go_token.tokens", "internal/strconv.uint64pow10", "math/bits.deBruijn32tab", "math/bits.deBruijn64tab"], loops := true, apart := false, laid := [("math/bits.deBruijn32tab", laid_math_bits_deBruijn32tab), ("math/bits.deBruijn64tab", laid_math_bits_deBruijn64tab), ("internal/strconv.uint64pow10", laid_internal_strconv_uint64pow10), ("loop.example/pub-g01465/pub/goparse_go_token.tokens", laid_loop_example_pub_g01465_pub_goparse_go_token_tokens)] }
def FnRenamedSaid : Prop := fnRenamedRow.holds Tryz.pinned (OpenSpec.ofChange fnRenamedSpec)

/-- ITS FALSE NEIGHBOUR: 'it returns false'. Refute it at one input. -/
def fnRenamedWrong : ChangeSpec := { name := "fnRenamed", vars := ["loop.example/pub-g01465/pub/goparse_go_token.tokens"], fn := fun _ => fun
  | [d1, d2, d3, d4, g1] => { results := [.lit (.bool false)], args := [d1, d2, d3, d4], vars := [g1] }
  | _ => none }
def FnRenamedWrongFalsely : Prop := fnRenamedRow.holds Tryz.pinned (OpenSpec.ofChange fnRenamedWrong)

/-- 'laws.FnEdited': WHATEVER THE INPUT: true; the input reads as it did. -/
def fnEditedSpec : ChangeSpec := { name := "fnEdited", vars := ["loop.example/pub-g01465/pub/goparse_go_token.tokens"], fn := fun _ => fun
  | [d1, d2, g1] => { results := [.lit (.bool true)], args := [d1, d2], vars := [g1] }
  | _ => none }
def fnEditedRow : OpenClaim := { program := "ytgimbgpebpippaagreatdoor", sum := "3415aaebc4c9ec43e87e414fa7a1afa0bce1ff88d8ad93cc198457d118d694a5", func := "loop.example/pub-g01465/laws.FnEdited", spec := "fnEdited", unfollowed := true, recurses := true, named := ["loop.example/pub-g01465/pub/goparse_go_token.tokens", "internal/strconv.uint64pow10", "math/bits.deBruijn32tab", "math/bits.deBruijn64tab"], loops := true, apart := false, laid := [("math/bits.deBruijn32tab", laid_math_bits_deBruijn32tab), ("math/bits.deBruijn64tab", laid_math_bits_deBruijn64tab), ("internal/strconv.uint64pow10", laid_internal_strconv_uint64pow10), ("loop.example/pub-g01465/pub/goparse_go_token.tokens", laid_loop_example_pub_g01465_pub_goparse_go_token_tokens)] }
def FnEditedSaid : Prop := fnEditedRow.holds Tryz.pinned (OpenSpec.ofChange fnEditedSpec)

/-- ITS FALSE NEIGHBOUR: 'it returns false'. Refute it at one input. -/
def fnEditedWrong : ChangeSpec := { name := "fnEdited", vars := ["loop.example/pub-g01465/pub/goparse_go_token.tokens"], fn := fun _ => fun
  | [d1, d2, g1] => { results := [.lit (.bool false)], args := [d1, d2], vars := [g1] }
  | _ => none }
def FnEditedWrongFalsely : Prop := fnEditedRow.holds Tryz.pinned (OpenSpec.ofChange fnEditedWrong)

/-- 'laws.FnEditedTree': WHATEVER THE INPUT: true; the input reads as it did. -/
def fnEditedTreeSpec : ChangeSpec := { name := "fnEditedTree", vars := ["loop.example/pub-g01465/pub/goparse_go_token.tokens"], fn := fun _ => fun
  | [d1, d2, g1] => { results := [.lit (.bool true)], args := [d1, d2], vars := [g1] }
  | _ => none }
def fnEditedTreeRow : OpenClaim := { program := "ytgimbgpebpippaagreatdoor", sum := "3415aaebc4c9ec43e87e414fa7a1afa0bce1ff88d8ad93cc198457d118d694a5", func := "loop.example/pub-g01465/laws.FnEditedTree", spec := "fnEditedTree", unfollowed := true, recurses := true, named := ["loop.example/pub-g01465/pub/goparse_go_token.tokens", "internal/strconv.uint64pow10", "math/bits.deBruijn32tab", "math/bits.deBruijn64tab"], loops := true, apart := false, laid := [("math/bits.deBruijn32tab", laid_math_bits_deBruijn32tab), ("math/bits.deBruijn64tab", laid_math_bits_deBruijn64tab), ("internal/strconv.uint64pow10", laid_internal_strconv_uint64pow10), ("loop.example/pub-g01465/pub/goparse_go_token.tokens", laid_loop_example_pub_g01465_pub_goparse_go_token_tokens)] }
def FnEditedTreeSaid : Prop := fnEditedTreeRow.holds Tryz.pinned (OpenSpec.ofChange fnEditedTreeSpec)

/-- ITS FALSE NEIGHBOUR: 'it returns false'. Refute it at one input. -/
def fnEditedTreeWrong : ChangeSpec := { name := "fnEditedTree", vars := ["loop.example/pub-g01465/pub/goparse_go_token.tokens"], fn := fun _ => fun
  | [d1, d2, g1] => { results := [.lit (.bool false)], args := [d1, d2], vars := [g1] }
  | _ => none }
def FnEditedTreeWrongFalsely : Prop := fnEditedTreeRow.holds Tryz.pinned (OpenSpec.ofChange fnEditedTreeWrong)

/- THE SECOND FORM. 'bulk': how many values and letters a reading holds, each counted each time it is reached (what is shared counts as often as it is met; a slice's spare places count too). A statement '..UptoSaid' is the law's where the arguments, and the package variables that the reading takes, are together of bulk at most 1048576: NARROWER than '..Said'. Prove '..Said' where nothing that the law and all that it calls make is longer than what came in: it says more and counts as full. Else prove '..UptoSaid'. A law counts once. -/
mutual
def uptoBulk {H : Type} : DataW H → Nat
  | .lit (.string bytes) => bytes.length + 1
  | .lit _ => 1
  | .nil => 1
  | .ptr d => uptoBulk d + 1
  | .slice elems spare => uptoBulkAll elems + uptoBulkAll spare + 1
  | .agg parts => uptoBulkAll parts + 1
  | .iface _ d => uptoBulk d + 1
  | .map entries => uptoBulkEntries entries + 1
  | .held _ => 1
def uptoBulkAll {H : Type} : List (DataW H) → Nat
  | [] => 0
  | d :: r => uptoBulk d + uptoBulkAll r
def uptoBulkEntries {H : Type} : List (Lit × DataW H) → Nat
  | [] => 0
  | x :: r => uptoBulkEntry x + uptoBulkEntries r
def uptoBulkEntry {H : Type} : Lit × DataW H → Nat
  | (.string bytes, d) => bytes.length + uptoBulk d + 1
  | (_, d) => uptoBulk d + 1
 end
def uptoSmall : (H : Type) → List (DataW H) → Bool := fun _ ds => decide (uptoBulkAll ds ≤ 1048576)
def OpenSpec.upto (s : _root_.Go.ChangeSpec) : _root_.Go.OpenSpec := { _root_.Go.OpenSpec.ofChange s with cond := some uptoSmall }

/-- 'laws.FnApply', WHERE WHAT IT READS IS OF BULK AT MOST 1048576: true; the input reads as it did. -/
def fnApplyUptoRow : OpenClaim := { program := "ytgimbgpebpippaagreatdoor", sum := "3415aaebc4c9ec43e87e414fa7a1afa0bce1ff88d8ad93cc198457d118d694a5", func := "loop.example/pub-g01465/laws.FnApply", spec := "fnApply", unfollowed := true, recurses := true, named := ["loop.example/pub-g01465/pub/goparse_go_token.tokens", "internal/strconv.uint64pow10", "math/bits.deBruijn32tab", "math/bits.deBruijn64tab"], loops := true, apart := false, laid := [("math/bits.deBruijn32tab", laid_math_bits_deBruijn32tab), ("math/bits.deBruijn64tab", laid_math_bits_deBruijn64tab), ("internal/strconv.uint64pow10", laid_internal_strconv_uint64pow10), ("loop.example/pub-g01465/pub/goparse_go_token.tokens", laid_loop_example_pub_g01465_pub_goparse_go_token_tokens)], narrowed := true }
def FnApplyUptoSaid : Prop := fnApplyUptoRow.holds Tryz.pinned (OpenSpec.upto fnApplySpec)

/-- 'laws.FnApplyOne', WHERE WHAT IT READS IS OF BULK AT MOST 1048576: true; the input reads as it did. -/
def fnApplyOneUptoRow : OpenClaim := { program := "ytgimbgpebpippaagreatdoor", sum := "3415aaebc4c9ec43e87e414fa7a1afa0bce1ff88d8ad93cc198457d118d694a5", func := "loop.example/pub-g01465/laws.FnApplyOne", spec := "fnApplyOne", unfollowed := true, recurses := true, named := ["loop.example/pub-g01465/pub/goparse_go_token.tokens", "internal/strconv.uint64pow10", "math/bits.deBruijn32tab", "math/bits.deBruijn64tab"], loops := true, apart := false, laid := [("math/bits.deBruijn32tab", laid_math_bits_deBruijn32tab), ("math/bits.deBruijn64tab", laid_math_bits_deBruijn64tab), ("internal/strconv.uint64pow10", laid_internal_strconv_uint64pow10), ("loop.example/pub-g01465/pub/goparse_go_token.tokens", laid_loop_example_pub_g01465_pub_goparse_go_token_tokens)], narrowed := true }
def FnApplyOneUptoSaid : Prop := fnApplyOneUptoRow.holds Tryz.pinned (OpenSpec.upto fnApplyOneSpec)

/-- 'laws.FnUnwrapped', WHERE WHAT IT READS IS OF BULK AT MOST 1048576: true; the input reads as it did. -/
def fnUnwrappedUptoRow : OpenClaim := { program := "ytgimbgpebpippaagreatdoor", sum := "3415aaebc4c9ec43e87e414fa7a1afa0bce1ff88d8ad93cc198457d118d694a5", func := "loop.example/pub-g01465/laws.FnUnwrapped", spec := "fnUnwrapped", unfollowed := true, recurses := true, named := ["loop.example/pub-g01465/pub/goparse_go_token.tokens", "internal/strconv.uint64pow10", "math/bits.deBruijn32tab", "math/bits.deBruijn64tab"], loops := true, apart := false, laid := [("math/bits.deBruijn32tab", laid_math_bits_deBruijn32tab), ("math/bits.deBruijn64tab", laid_math_bits_deBruijn64tab), ("internal/strconv.uint64pow10", laid_internal_strconv_uint64pow10), ("loop.example/pub-g01465/pub/goparse_go_token.tokens", laid_loop_example_pub_g01465_pub_goparse_go_token_tokens)], narrowed := true }
def FnUnwrappedUptoSaid : Prop := fnUnwrappedUptoRow.holds Tryz.pinned (OpenSpec.upto fnUnwrappedSpec)

/-- 'laws.FnWrapped', WHERE WHAT IT READS IS OF BULK AT MOST 1048576: true; the input reads as it did. -/
def fnWrappedUptoRow : OpenClaim := { program := "ytgimbgpebpippaagreatdoor", sum := "3415aaebc4c9ec43e87e414fa7a1afa0bce1ff88d8ad93cc198457d118d694a5", func := "loop.example/pub-g01465/laws.FnWrapped", spec := "fnWrapped", unfollowed := true, recurses := true, named := ["loop.example/pub-g01465/pub/goparse_go_token.tokens", "internal/strconv.uint64pow10", "math/bits.deBruijn32tab", "math/bits.deBruijn64tab"], loops := true, apart := false, laid := [("math/bits.deBruijn32tab", laid_math_bits_deBruijn32tab), ("math/bits.deBruijn64tab", laid_math_bits_deBruijn64tab), ("internal/strconv.uint64pow10", laid_internal_strconv_uint64pow10), ("loop.example/pub-g01465/pub/goparse_go_token.tokens", laid_loop_example_pub_g01465_pub_goparse_go_token_tokens)], narrowed := true }
def FnWrappedUptoSaid : Prop := fnWrappedUptoRow.holds Tryz.pinned (OpenSpec.upto fnWrappedSpec)

/-- 'laws.FnRenamed', WHERE WHAT IT READS IS OF BULK AT MOST 1048576: true; the input reads as it did. -/
def fnRenamedUptoRow : OpenClaim := { program := "ytgimbgpebpippaagreatdoor", sum := "3415aaebc4c9ec43e87e414fa7a1afa0bce1ff88d8ad93cc198457d118d694a5", func := "loop.example/pub-g01465/laws.FnRenamed", spec := "fnRenamed", unfollowed := true, recurses := true, named := ["loop.example/pub-g01465/pub/goparse_go_token.tokens", "internal/strconv.uint64pow10", "math/bits.deBruijn32tab", "math/bits.deBruijn64tab"], loops := true, apart := false, laid := [("math/bits.deBruijn32tab", laid_math_bits_deBruijn32tab), ("math/bits.deBruijn64tab", laid_math_bits_deBruijn64tab), ("internal/strconv.uint64pow10", laid_internal_strconv_uint64pow10), ("loop.example/pub-g01465/pub/goparse_go_token.tokens", laid_loop_example_pub_g01465_pub_goparse_go_token_tokens)], narrowed := true }
def FnRenamedUptoSaid : Prop := fnRenamedUptoRow.holds Tryz.pinned (OpenSpec.upto fnRenamedSpec)

/-- 'laws.FnEdited', WHERE WHAT IT READS IS OF BULK AT MOST 1048576: true; the input reads as it did. -/
def fnEditedUptoRow : OpenClaim := { program := "ytgimbgpebpippaagreatdoor", sum := "3415aaebc4c9ec43e87e414fa7a1afa0bce1ff88d8ad93cc198457d118d694a5", func := "loop.example/pub-g01465/laws.FnEdited", spec := "fnEdited", unfollowed := true, recurses := true, named := ["loop.example/pub-g01465/pub/goparse_go_token.tokens", "internal/strconv.uint64pow10", "math/bits.deBruijn32tab", "math/bits.deBruijn64tab"], loops := true, apart := false, laid := [("math/bits.deBruijn32tab", laid_math_bits_deBruijn32tab), ("math/bits.deBruijn64tab", laid_math_bits_deBruijn64tab), ("internal/strconv.uint64pow10", laid_internal_strconv_uint64pow10), ("loop.example/pub-g01465/pub/goparse_go_token.tokens", laid_loop_example_pub_g01465_pub_goparse_go_token_tokens)], narrowed := true }
def FnEditedUptoSaid : Prop := fnEditedUptoRow.holds Tryz.pinned (OpenSpec.upto fnEditedSpec)

/-- 'laws.FnEditedTree', WHERE WHAT IT READS IS OF BULK AT MOST 1048576: true; the input reads as it did. -/
def fnEditedTreeUptoRow : OpenClaim := { program := "ytgimbgpebpippaagreatdoor", sum := "3415aaebc4c9ec43e87e414fa7a1afa0bce1ff88d8ad93cc198457d118d694a5", func := "loop.example/pub-g01465/laws.FnEditedTree", spec := "fnEditedTree", unfollowed := true, recurses := true, named := ["loop.example/pub-g01465/pub/goparse_go_token.tokens", "internal/strconv.uint64pow10", "math/bits.deBruijn32tab", "math/bits.deBruijn64tab"], loops := true, apart := false, laid := [("math/bits.deBruijn32tab", laid_math_bits_deBruijn32tab), ("math/bits.deBruijn64tab", laid_math_bits_deBruijn64tab), ("internal/strconv.uint64pow10", laid_internal_strconv_uint64pow10), ("loop.example/pub-g01465/pub/goparse_go_token.tokens", laid_loop_example_pub_g01465_pub_goparse_go_token_tokens)], narrowed := true }
def FnEditedTreeUptoSaid : Prop := fnEditedTreeUptoRow.holds Tryz.pinned (OpenSpec.upto fnEditedTreeSpec)

end Rows
end Go.Proofs.YtgimbgpebpippaaGreatDoor
