/-
  NARROWER THAN 'FOR EVERY INPUT', by the rows' own cells (each row's printed sentence says how): FnReadAgain: laid · FnGlued: laid · FnLongestSign: laid · FnBrackets: laid · FnGrouped: laid · FnOutermost: laid.
  DERIVED. THE GIVEN ROWS OF THIS SEAT. 6 by the template 'for every input the law returns true; each argument reads behind the call as it read before'; 0 by the template 'total and deterministic' (their statements: YtabjfjcaackelaaDoorTotals.lean).
  GIVEN WITH THE SEED: the statements are not yours to turn. If you find one false, say at which input.
  Laid BY PROGRAM, IN A SANDBOX (cutbox-rows.mjs): the forced cells as the released guide's own fill.sh prints them over the translation eca81d7f0a14473a… (all of the seat's roots in one cut). By AI agents, Wed Nov 11 2026. No macro, syntax, notation, axiom, sorry.
-/
import Derived.Test.YtabjfjcaackelaaDoorChecked
import GoSem.Claim
import GoSem.ClaimJoined
import GoSem.ClaimMapViews
import Derived.JoinedTies
import Derived.KernelRfl
namespace Go.Proofs.YtabjfjcaackelaaDoor
/- THE CELL 'sum', in the pinned program and in every row, IS THE sha256 OF THE DUMP (.gsa) THAT YtabjfjcaackelaaDoorProg.lean LOADS. Nothing in Lean hashes anything: it is a label: what it is worth is what the hold of that sum in a sandbox is worth. -/
noncomputable def Tryd.pinned : Pinned := { name := "ytabjfjcaackelaadoor", sum := "eca81d7f0a14473a7aeea4431924add5ae126f486675d3f59e9c467c1dd38c71", checked := Tryd.checked }
namespace Rows
def none {H : Type} : Left H := { results := [], args := [] }

/- WHAT THE LISTED PACKAGE-LEVEL VARIABLES READ AS WHEN THE CALL BEGINS. Each datum BY PROGRAM (the guide's laid-datum.mjs) off the statement by which the dump's own 'gosem.cut.vars' lays the variable. In a bare row this is a premise. The card (YtabjfjcaackelaaDoorCards.lean) ties it to the program's text. -/
def laid_math_bits_deBruijn32tab {H : Type} : DataW H := .agg [.lit (.int .u8 0), .lit (.int .u8 1), .lit (.int .u8 28), .lit (.int .u8 2), .lit (.int .u8 29), .lit (.int .u8 14), .lit (.int .u8 24), .lit (.int .u8 3), .lit (.int .u8 30), .lit (.int .u8 22), .lit (.int .u8 20), .lit (.int .u8 15), .lit (.int .u8 25), .lit (.int .u8 17), .lit (.int .u8 4), .lit (.int .u8 8), .lit (.int .u8 31), .lit (.int .u8 27), .lit (.int .u8 13), .lit (.int .u8 23), .lit (.int .u8 21), .lit (.int .u8 19), .lit (.int .u8 16), .lit (.int .u8 7), .lit (.int .u8 26), .lit (.int .u8 12), .lit (.int .u8 18), .lit (.int .u8 6), .lit (.int .u8 11), .lit (.int .u8 5), .lit (.int .u8 10), .lit (.int .u8 9)]
def laid_math_bits_deBruijn64tab {H : Type} : DataW H := .agg [.lit (.int .u8 0), .lit (.int .u8 1), .lit (.int .u8 56), .lit (.int .u8 2), .lit (.int .u8 57), .lit (.int .u8 49), .lit (.int .u8 28), .lit (.int .u8 3), .lit (.int .u8 61), .lit (.int .u8 58), .lit (.int .u8 42), .lit (.int .u8 50), .lit (.int .u8 38), .lit (.int .u8 29), .lit (.int .u8 17), .lit (.int .u8 4), .lit (.int .u8 62), .lit (.int .u8 47), .lit (.int .u8 59), .lit (.int .u8 36), .lit (.int .u8 45), .lit (.int .u8 43), .lit (.int .u8 51), .lit (.int .u8 22), .lit (.int .u8 53), .lit (.int .u8 39), .lit (.int .u8 33), .lit (.int .u8 30), .lit (.int .u8 24), .lit (.int .u8 18), .lit (.int .u8 12), .lit (.int .u8 5), .lit (.int .u8 63), .lit (.int .u8 55), .lit (.int .u8 48), .lit (.int .u8 27), .lit (.int .u8 60), .lit (.int .u8 41), .lit (.int .u8 37), .lit (.int .u8 16), .lit (.int .u8 46), .lit (.int .u8 35), .lit (.int .u8 44), .lit (.int .u8 21), .lit (.int .u8 52), .lit (.int .u8 32), .lit (.int .u8 23), .lit (.int .u8 11), .lit (.int .u8 54), .lit (.int .u8 26), .lit (.int .u8 40), .lit (.int .u8 15), .lit (.int .u8 34), .lit (.int .u8 20), .lit (.int .u8 31), .lit (.int .u8 10), .lit (.int .u8 25), .lit (.int .u8 14), .lit (.int .u8 19), .lit (.int .u8 9), .lit (.int .u8 13), .lit (.int .u8 8), .lit (.int .u8 7), .lit (.int .u8 6)]
def laid_internal_strconv_uint64pow10 {H : Type} : DataW H := .agg [.lit (.int .u64 1), .lit (.int .u64 10), .lit (.int .u64 100), .lit (.int .u64 1000), .lit (.int .u64 10000), .lit (.int .u64 100000), .lit (.int .u64 1000000), .lit (.int .u64 10000000), .lit (.int .u64 100000000), .lit (.int .u64 1000000000), .lit (.int .u64 10000000000), .lit (.int .u64 100000000000), .lit (.int .u64 1000000000000), .lit (.int .u64 10000000000000), .lit (.int .u64 100000000000000), .lit (.int .u64 1000000000000000), .lit (.int .u64 10000000000000000), .lit (.int .u64 100000000000000000), .lit (.int .u64 1000000000000000000), .lit (.int .u64 10000000000000000000)]
def laid_go_token_tokens {H : Type} : DataW H := .agg [.lit (.string [73, 76, 76, 69, 71, 65, 76]), .lit (.string [69, 79, 70]), .lit (.string [67, 79, 77, 77, 69, 78, 84]), .lit (.string []), .lit (.string [73, 68, 69, 78, 84]), .lit (.string [73, 78, 84]), .lit (.string [70, 76, 79, 65, 84]), .lit (.string [73, 77, 65, 71]), .lit (.string [67, 72, 65, 82]), .lit (.string [83, 84, 82, 73, 78, 71]), .lit (.string []), .lit (.string []), .lit (.string [43]), .lit (.string [45]), .lit (.string [42]), .lit (.string [47]), .lit (.string [37]), .lit (.string [38]), .lit (.string [124]), .lit (.string [94]), .lit (.string [60, 60]), .lit (.string [62, 62]), .lit (.string [38, 94]), .lit (.string [43, 61]), .lit (.string [45, 61]), .lit (.string [42, 61]), .lit (.string [47, 61]), .lit (.string [37, 61]), .lit (.string [38, 61]), .lit (.string [124, 61]), .lit (.string [94, 61]), .lit (.string [60, 60, 61]), .lit (.string [62, 62, 61]), .lit (.string [38, 94, 61]), .lit (.string [38, 38]), .lit (.string [124, 124]), .lit (.string [60, 45]), .lit (.string [43, 43]), .lit (.string [45, 45]), .lit (.string [61, 61]), .lit (.string [60]), .lit (.string [62]), .lit (.string [61]), .lit (.string [33]), .lit (.string [33, 61]), .lit (.string [60, 61]), .lit (.string [62, 61]), .lit (.string [58, 61]), .lit (.string [46, 46, 46]), .lit (.string [40]), .lit (.string [91]), .lit (.string [123]), .lit (.string [44]), .lit (.string [46]), .lit (.string [41]), .lit (.string [93]), .lit (.string [125]), .lit (.string [59]), .lit (.string [58]), .lit (.string []), .lit (.string []), .lit (.string [98, 114, 101, 97, 107]), .lit (.string [99, 97, 115, 101]), .lit (.string [99, 104, 97, 110]), .lit (.string [99, 111, 110, 115, 116]), .lit (.string [99, 111, 110, 116, 105, 110, 117, 101]), .lit (.string [100, 101, 102, 97, 117, 108, 116]), .lit (.string [100, 101, 102, 101, 114]), .lit (.string [101, 108, 115, 101]), .lit (.string [102, 97, 108, 108, 116, 104, 114, 111, 117, 103, 104]), .lit (.string [102, 111, 114]), .lit (.string [102, 117, 110, 99]), .lit (.string [103, 111]), .lit (.string [103, 111, 116, 111]), .lit (.string [105, 102]), .lit (.string [105, 109, 112, 111, 114, 116]), .lit (.string [105, 110, 116, 101, 114, 102, 97, 99, 101]), .lit (.string [109, 97, 112]), .lit (.string [112, 97, 99, 107, 97, 103, 101]), .lit (.string [114, 97, 110, 103, 101]), .lit (.string [114, 101, 116, 117, 114, 110]), .lit (.string [115, 101, 108, 101, 99, 116]), .lit (.string [115, 116, 114, 117, 99, 116]), .lit (.string [115, 119, 105, 116, 99, 104]), .lit (.string [116, 121, 112, 101]), .lit (.string [118, 97, 114]), .lit (.string []), .lit (.string []), .lit (.string [126])]

/-- 'laws.FnReadAgain': WHATEVER THE INPUT: true; the input reads as it did. -/
def fnReadAgainSpec : ChangeSpec := { name := "fnReadAgain", fn := fun _ => fun
  | [d1, d2] => { results := [.lit (.bool true)], args := [d1, d2] }
  | _ => none }
def fnReadAgainRow : OpenClaim := { program := "ytabjfjcaackelaadoor", sum := "eca81d7f0a14473a7aeea4431924add5ae126f486675d3f59e9c467c1dd38c71", func := "loop.example/lib-g03114/laws.FnReadAgain", spec := "fnReadAgain", named := ["go/token.tokens", "internal/strconv.uint64pow10", "math/bits.deBruijn32tab", "math/bits.deBruijn64tab"], apart := false, laid := [("math/bits.deBruijn32tab", laid_math_bits_deBruijn32tab), ("math/bits.deBruijn64tab", laid_math_bits_deBruijn64tab), ("internal/strconv.uint64pow10", laid_internal_strconv_uint64pow10), ("go/token.tokens", laid_go_token_tokens)] }
def FnReadAgainSaid : Prop := fnReadAgainRow.holds Tryd.pinned (OpenSpec.ofChange fnReadAgainSpec)

/-- ITS FALSE NEIGHBOUR: 'it returns false'. Refute it at one input. -/
def fnReadAgainWrong : ChangeSpec := { name := "fnReadAgain", fn := fun _ => fun
  | [d1, d2] => { results := [.lit (.bool false)], args := [d1, d2] }
  | _ => none }
def FnReadAgainWrongFalsely : Prop := fnReadAgainRow.holds Tryd.pinned (OpenSpec.ofChange fnReadAgainWrong)

/-- 'laws.FnGlued': WHATEVER THE INPUT: true; the input reads as it did. -/
def fnGluedSpec : ChangeSpec := { name := "fnGlued", fn := fun _ => fun
  | [d1, d2] => { results := [.lit (.bool true)], args := [d1, d2] }
  | _ => none }
def fnGluedRow : OpenClaim := { program := "ytabjfjcaackelaadoor", sum := "eca81d7f0a14473a7aeea4431924add5ae126f486675d3f59e9c467c1dd38c71", func := "loop.example/lib-g03114/laws.FnGlued", spec := "fnGlued", named := ["go/token.tokens", "internal/strconv.uint64pow10", "math/bits.deBruijn32tab", "math/bits.deBruijn64tab"], apart := false, laid := [("math/bits.deBruijn32tab", laid_math_bits_deBruijn32tab), ("math/bits.deBruijn64tab", laid_math_bits_deBruijn64tab), ("internal/strconv.uint64pow10", laid_internal_strconv_uint64pow10), ("go/token.tokens", laid_go_token_tokens)] }
def FnGluedSaid : Prop := fnGluedRow.holds Tryd.pinned (OpenSpec.ofChange fnGluedSpec)

/-- ITS FALSE NEIGHBOUR: 'it returns false'. Refute it at one input. -/
def fnGluedWrong : ChangeSpec := { name := "fnGlued", fn := fun _ => fun
  | [d1, d2] => { results := [.lit (.bool false)], args := [d1, d2] }
  | _ => none }
def FnGluedWrongFalsely : Prop := fnGluedRow.holds Tryd.pinned (OpenSpec.ofChange fnGluedWrong)

/-- 'laws.FnLongestSign': WHATEVER THE INPUT: true; the input reads as it did. -/
def fnLongestSignSpec : ChangeSpec := { name := "fnLongestSign", fn := fun _ => fun
  | [d] => { results := [.lit (.bool true)], args := [d] }
  | _ => none }
def fnLongestSignRow : OpenClaim := { program := "ytabjfjcaackelaadoor", sum := "eca81d7f0a14473a7aeea4431924add5ae126f486675d3f59e9c467c1dd38c71", func := "loop.example/lib-g03114/laws.FnLongestSign", spec := "fnLongestSign", named := ["go/token.tokens", "internal/strconv.uint64pow10", "math/bits.deBruijn32tab", "math/bits.deBruijn64tab"], apart := false, laid := [("math/bits.deBruijn32tab", laid_math_bits_deBruijn32tab), ("math/bits.deBruijn64tab", laid_math_bits_deBruijn64tab), ("internal/strconv.uint64pow10", laid_internal_strconv_uint64pow10), ("go/token.tokens", laid_go_token_tokens)] }
def FnLongestSignSaid : Prop := fnLongestSignRow.holds Tryd.pinned (OpenSpec.ofChange fnLongestSignSpec)

/-- ITS FALSE NEIGHBOUR: 'it returns false'. Refute it at one input. -/
def fnLongestSignWrong : ChangeSpec := { name := "fnLongestSign", fn := fun _ => fun
  | [d] => { results := [.lit (.bool false)], args := [d] }
  | _ => none }
def FnLongestSignWrongFalsely : Prop := fnLongestSignRow.holds Tryd.pinned (OpenSpec.ofChange fnLongestSignWrong)

/-- 'laws.FnBrackets': WHATEVER THE INPUT: true; the input reads as it did. -/
def fnBracketsSpec : ChangeSpec := { name := "fnBrackets", fn := fun _ => fun
  | [d] => { results := [.lit (.bool true)], args := [d] }
  | _ => none }
def fnBracketsRow : OpenClaim := { program := "ytabjfjcaackelaadoor", sum := "eca81d7f0a14473a7aeea4431924add5ae126f486675d3f59e9c467c1dd38c71", func := "loop.example/lib-g03114/laws.FnBrackets", spec := "fnBrackets", named := ["go/token.tokens", "internal/strconv.uint64pow10", "math/bits.deBruijn32tab", "math/bits.deBruijn64tab"], apart := false, laid := [("math/bits.deBruijn32tab", laid_math_bits_deBruijn32tab), ("math/bits.deBruijn64tab", laid_math_bits_deBruijn64tab), ("internal/strconv.uint64pow10", laid_internal_strconv_uint64pow10), ("go/token.tokens", laid_go_token_tokens)] }
def FnBracketsSaid : Prop := fnBracketsRow.holds Tryd.pinned (OpenSpec.ofChange fnBracketsSpec)

/-- ITS FALSE NEIGHBOUR: 'it returns false'. Refute it at one input. -/
def fnBracketsWrong : ChangeSpec := { name := "fnBrackets", fn := fun _ => fun
  | [d] => { results := [.lit (.bool false)], args := [d] }
  | _ => none }
def FnBracketsWrongFalsely : Prop := fnBracketsRow.holds Tryd.pinned (OpenSpec.ofChange fnBracketsWrong)

/-- 'laws.FnGrouped': WHATEVER THE INPUT: true; the input reads as it did. -/
def fnGroupedSpec : ChangeSpec := { name := "fnGrouped", fn := fun _ => fun
  | [d] => { results := [.lit (.bool true)], args := [d] }
  | _ => none }
def fnGroupedRow : OpenClaim := { program := "ytabjfjcaackelaadoor", sum := "eca81d7f0a14473a7aeea4431924add5ae126f486675d3f59e9c467c1dd38c71", func := "loop.example/lib-g03114/laws.FnGrouped", spec := "fnGrouped", recurses := true, named := ["go/token.tokens", "internal/strconv.uint64pow10", "math/bits.deBruijn32tab", "math/bits.deBruijn64tab"], apart := false, laid := [("math/bits.deBruijn32tab", laid_math_bits_deBruijn32tab), ("math/bits.deBruijn64tab", laid_math_bits_deBruijn64tab), ("internal/strconv.uint64pow10", laid_internal_strconv_uint64pow10), ("go/token.tokens", laid_go_token_tokens)] }
def FnGroupedSaid : Prop := fnGroupedRow.holds Tryd.pinned (OpenSpec.ofChange fnGroupedSpec)

/-- ITS FALSE NEIGHBOUR: 'it returns false'. Refute it at one input. -/
def fnGroupedWrong : ChangeSpec := { name := "fnGrouped", fn := fun _ => fun
  | [d] => { results := [.lit (.bool false)], args := [d] }
  | _ => none }
def FnGroupedWrongFalsely : Prop := fnGroupedRow.holds Tryd.pinned (OpenSpec.ofChange fnGroupedWrong)

/-- 'laws.FnOutermost': WHATEVER THE INPUT: true; the input reads as it did. -/
def fnOutermostSpec : ChangeSpec := { name := "fnOutermost", fn := fun _ => fun
  | [d1, d2, d3] => { results := [.lit (.bool true)], args := [d1, d2, d3] }
  | _ => none }
def fnOutermostRow : OpenClaim := { program := "ytabjfjcaackelaadoor", sum := "eca81d7f0a14473a7aeea4431924add5ae126f486675d3f59e9c467c1dd38c71", func := "loop.example/lib-g03114/laws.FnOutermost", spec := "fnOutermost", recurses := true, named := ["go/token.tokens", "internal/strconv.uint64pow10", "math/bits.deBruijn32tab", "math/bits.deBruijn64tab"], apart := false, laid := [("math/bits.deBruijn32tab", laid_math_bits_deBruijn32tab), ("math/bits.deBruijn64tab", laid_math_bits_deBruijn64tab), ("internal/strconv.uint64pow10", laid_internal_strconv_uint64pow10), ("go/token.tokens", laid_go_token_tokens)] }
def FnOutermostSaid : Prop := fnOutermostRow.holds Tryd.pinned (OpenSpec.ofChange fnOutermostSpec)

/-- ITS FALSE NEIGHBOUR: 'it returns false'. Refute it at one input. -/
def fnOutermostWrong : ChangeSpec := { name := "fnOutermost", fn := fun _ => fun
  | [d1, d2, d3] => { results := [.lit (.bool false)], args := [d1, d2, d3] }
  | _ => none }
def FnOutermostWrongFalsely : Prop := fnOutermostRow.holds Tryd.pinned (OpenSpec.ofChange fnOutermostWrong)

/- THE SECOND FORM. 'bulk': how many values and letters a reading holds, each counted each time it is reached (what is shared counts as often as it is met; a slice's spare places count too). A statement '..UptoSaid' is the law's where the arguments, and the package variables that the reading takes, are together of bulk at most 1048576: NARROWER than '..Said'. Prove '..Said' where nothing that the law and all that it calls make is longer than what came in: it says more and counts as full. Else prove '..UptoSaid'. A law counts once. -/
mutual
def uptoBulk {H : Type} : DataW H → Nat
  | .lit (.string bytes) => bytes.length + 1
  | .lit _ => 1
  | .nil => 1
  | .ptr d => uptoBulk d + 1
  | .slice elems spare => uptoBulkAll elems + uptoBulkAll spare + 1
  | .agg parts => uptoBulkAll parts + 1
  | .iface _ d => uptoBulk d + 1
  | .map entries => uptoBulkEntries entries + 1
  | .held _ => 1
def uptoBulkAll {H : Type} : List (DataW H) → Nat
  | [] => 0
  | d :: r => uptoBulk d + uptoBulkAll r
def uptoBulkEntries {H : Type} : List (Lit × DataW H) → Nat
  | [] => 0
  | x :: r => uptoBulkEntry x + uptoBulkEntries r
def uptoBulkEntry {H : Type} : Lit × DataW H → Nat
  | (.string bytes, d) => bytes.length + uptoBulk d + 1
  | (_, d) => uptoBulk d + 1
 end
def uptoSmall : (H : Type) → List (DataW H) → Bool := fun _ ds => decide (uptoBulkAll ds ≤ 1048576)
def OpenSpec.upto (s : _root_.Go.ChangeSpec) : _root_.Go.OpenSpec := { _root_.Go.OpenSpec.ofChange s with cond := some uptoSmall }

/-- 'laws.FnReadAgain', WHERE WHAT IT READS IS OF BULK AT MOST 1048576: true; the input reads as it did. -/
def fnReadAgainUptoRow : OpenClaim := { program := "ytabjfjcaackelaadoor", sum := "eca81d7f0a14473a7aeea4431924add5ae126f486675d3f59e9c467c1dd38c71", func := "loop.example/lib-g03114/laws.FnReadAgain", spec := "fnReadAgain", named := ["go/token.tokens", "internal/strconv.uint64pow10", "math/bits.deBruijn32tab", "math/bits.deBruijn64tab"], apart := false, laid := [("math/bits.deBruijn32tab", laid_math_bits_deBruijn32tab), ("math/bits.deBruijn64tab", laid_math_bits_deBruijn64tab), ("internal/strconv.uint64pow10", laid_internal_strconv_uint64pow10), ("go/token.tokens", laid_go_token_tokens)], narrowed := true }
def FnReadAgainUptoSaid : Prop := fnReadAgainUptoRow.holds Tryd.pinned (OpenSpec.upto fnReadAgainSpec)

/-- 'laws.FnGlued', WHERE WHAT IT READS IS OF BULK AT MOST 1048576: true; the input reads as it did. -/
def fnGluedUptoRow : OpenClaim := { program := "ytabjfjcaackelaadoor", sum := "eca81d7f0a14473a7aeea4431924add5ae126f486675d3f59e9c467c1dd38c71", func := "loop.example/lib-g03114/laws.FnGlued", spec := "fnGlued", named := ["go/token.tokens", "internal/strconv.uint64pow10", "math/bits.deBruijn32tab", "math/bits.deBruijn64tab"], apart := false, laid := [("math/bits.deBruijn32tab", laid_math_bits_deBruijn32tab), ("math/bits.deBruijn64tab", laid_math_bits_deBruijn64tab), ("internal/strconv.uint64pow10", laid_internal_strconv_uint64pow10), ("go/token.tokens", laid_go_token_tokens)], narrowed := true }
def FnGluedUptoSaid : Prop := fnGluedUptoRow.holds Tryd.pinned (OpenSpec.upto fnGluedSpec)

/-- 'laws.FnLongestSign', WHERE WHAT IT READS IS OF BULK AT MOST 1048576: true; the input reads as it did. -/
def fnLongestSignUptoRow : OpenClaim := { program := "ytabjfjcaackelaadoor", sum := "eca81d7f0a14473a7aeea4431924add5ae126f486675d3f59e9c467c1dd38c71", func := "loop.example/lib-g03114/laws.FnLongestSign", spec := "fnLongestSign", named := ["go/token.tokens", "internal/strconv.uint64pow10", "math/bits.deBruijn32tab", "math/bits.deBruijn64tab"], apart := false, laid := [("math/bits.deBruijn32tab", laid_math_bits_deBruijn32tab), ("math/bits.deBruijn64tab", laid_math_bits_deBruijn64tab), ("internal/strconv.uint64pow10", laid_internal_strconv_uint64pow10), ("go/token.tokens", laid_go_token_tokens)], narrowed := true }
def FnLongestSignUptoSaid : Prop := fnLongestSignUptoRow.holds Tryd.pinned (OpenSpec.upto fnLongestSignSpec)

/-- 'laws.FnBrackets', WHERE WHAT IT READS IS OF BULK AT MOST 1048576: true; the input reads as it did. -/
def fnBracketsUptoRow : OpenClaim := { program := "ytabjfjcaackelaadoor", sum := "eca81d7f0a14473a7aeea4431924add5ae126f486675d3f59e9c467c1dd38c71", func := "loop.example/lib-g03114/laws.FnBrackets", spec := "fnBrackets", named := ["go/token.tokens", "internal/strconv.uint64pow10", "math/bits.deBruijn32tab", "math/bits.deBruijn64tab"], apart := false, laid := [("math/bits.deBruijn32tab", laid_math_bits_deBruijn32tab), ("math/bits.deBruijn64tab", laid_math_bits_deBruijn64tab), ("internal/strconv.uint64pow10", laid_internal_strconv_uint64pow10), ("go/token.tokens", laid_go_token_tokens)], narrowed := true }
def FnBracketsUptoSaid : Prop := fnBracketsUptoRow.holds Tryd.pinned (OpenSpec.upto fnBracketsSpec)

/-- 'laws.FnGrouped', WHERE WHAT IT READS IS OF BULK AT MOST 1048576: true; the input reads as it did. -/
def fnGroupedUptoRow : OpenClaim := { program := "ytabjfjcaackelaadoor", sum := "eca81d7f0a14473a7aeea4431924add5ae126f486675d3f59e9c467c1dd38c71", func := "loop.example/lib-g03114/laws.FnGrouped", spec := "fnGrouped", recurses := true, named := ["go/token.tokens", "internal/strconv.uint64pow10", "math/bits.deBruijn32tab", "math/bits.deBruijn64tab"], apart := false, laid := [("math/bits.deBruijn32tab", laid_math_bits_deBruijn32tab), ("math/bits.deBruijn64tab", laid_math_bits_deBruijn64tab), ("internal/strconv.uint64pow10", laid_internal_strconv_uint64pow10), ("go/token.tokens", laid_go_token_tokens)], narrowed := true }
def FnGroupedUptoSaid : Prop := fnGroupedUptoRow.holds Tryd.pinned (OpenSpec.upto fnGroupedSpec)

/-- 'laws.FnOutermost', WHERE WHAT IT READS IS OF BULK AT MOST 1048576: true; the input reads as it did. -/
def fnOutermostUptoRow : OpenClaim := { program := "ytabjfjcaackelaadoor", sum := "eca81d7f0a14473a7aeea4431924add5ae126f486675d3f59e9c467c1dd38c71", func := "loop.example/lib-g03114/laws.FnOutermost", spec := "fnOutermost", recurses := true, named := ["go/token.tokens", "internal/strconv.uint64pow10", "math/bits.deBruijn32tab", "math/bits.deBruijn64tab"], apart := false, laid := [("math/bits.deBruijn32tab", laid_math_bits_deBruijn32tab), ("math/bits.deBruijn64tab", laid_math_bits_deBruijn64tab), ("internal/strconv.uint64pow10", laid_internal_strconv_uint64pow10), ("go/token.tokens", laid_go_token_tokens)], narrowed := true }
def FnOutermostUptoSaid : Prop := fnOutermostUptoRow.holds Tryd.pinned (OpenSpec.upto fnOutermostSpec)

end Rows
end Go.Proofs.YtabjfjcaackelaaDoor
