/-
  NARROWER THAN 'FOR EVERY INPUT', by the rows' own cells (each row's printed sentence says how): FnNumberTens: laid · FnNumberScaled: laid · FnNumberPads: laid · FnNumberMd4: laid · FnNumberInt64: laid · FnNumberRead: laid · FnNumberText: laid · FnNumberTexts: laid.
  DERIVED. THE GIVEN ROWS OF THIS SEAT. 8 by the template 'for every input the law returns true; each argument reads behind the call as it read before'; 0 by the template 'total and deterministic' (their statements: YtiahmmecekfjhaaDoorTotals.lean).
  GIVEN WITH THE SEED: the statements are not yours to turn. If you find one false, say at which input.
  Laid BY PROGRAM, IN A SANDBOX (cutbox-rows.mjs): the forced cells as the released guide's own fill.sh prints them over the translation 2368fd8c84ee0539… (all of the seat's roots in one cut). By AI agents, Wed Nov 11 2026. No macro, syntax, notation, axiom, sorry.
-/
import Derived.Test.YtiahmmecekfjhaaDoorChecked
import GoSem.Claim
import GoSem.ClaimJoined
import GoSem.ClaimMapViews
import Derived.JoinedTies
import Derived.KernelRfl
namespace Go.Proofs.YtiahmmecekfjhaaDoor
/- THE CELL 'sum', in the pinned program and in every row, IS THE sha256 OF THE DUMP (.gsa) THAT YtiahmmecekfjhaaDoorProg.lean LOADS. Nothing in Lean hashes anything: it is a label: what it is worth is what the hold of that sum in a sandbox is worth. -/
noncomputable def Tryd.pinned : Pinned := { name := "ytiahmmecekfjhaadoor", sum := "2368fd8c84ee05391bba528a6ce5cd700facd15996311e6b930576f929df5ce2", checked := Tryd.checked }
namespace Rows
def none {H : Type} : Left H := { results := [], args := [] }

/- WHAT THE LISTED PACKAGE-LEVEL VARIABLES READ AS WHEN THE CALL BEGINS. Each datum BY PROGRAM (the guide's laid-datum.mjs) off the statement by which the dump's own 'gosem.cut.vars' lays the variable. In a bare row this is a premise. The card (YtiahmmecekfjhaaDoorCards.lean) ties it to the program's text. -/
def laid_math_bits_deBruijn32tab {H : Type} : DataW H := .agg [.lit (.int .u8 0), .lit (.int .u8 1), .lit (.int .u8 28), .lit (.int .u8 2), .lit (.int .u8 29), .lit (.int .u8 14), .lit (.int .u8 24), .lit (.int .u8 3), .lit (.int .u8 30), .lit (.int .u8 22), .lit (.int .u8 20), .lit (.int .u8 15), .lit (.int .u8 25), .lit (.int .u8 17), .lit (.int .u8 4), .lit (.int .u8 8), .lit (.int .u8 31), .lit (.int .u8 27), .lit (.int .u8 13), .lit (.int .u8 23), .lit (.int .u8 21), .lit (.int .u8 19), .lit (.int .u8 16), .lit (.int .u8 7), .lit (.int .u8 26), .lit (.int .u8 12), .lit (.int .u8 18), .lit (.int .u8 6), .lit (.int .u8 11), .lit (.int .u8 5), .lit (.int .u8 10), .lit (.int .u8 9)]
def laid_math_bits_deBruijn64tab {H : Type} : DataW H := .agg [.lit (.int .u8 0), .lit (.int .u8 1), .lit (.int .u8 56), .lit (.int .u8 2), .lit (.int .u8 57), .lit (.int .u8 49), .lit (.int .u8 28), .lit (.int .u8 3), .lit (.int .u8 61), .lit (.int .u8 58), .lit (.int .u8 42), .lit (.int .u8 50), .lit (.int .u8 38), .lit (.int .u8 29), .lit (.int .u8 17), .lit (.int .u8 4), .lit (.int .u8 62), .lit (.int .u8 47), .lit (.int .u8 59), .lit (.int .u8 36), .lit (.int .u8 45), .lit (.int .u8 43), .lit (.int .u8 51), .lit (.int .u8 22), .lit (.int .u8 53), .lit (.int .u8 39), .lit (.int .u8 33), .lit (.int .u8 30), .lit (.int .u8 24), .lit (.int .u8 18), .lit (.int .u8 12), .lit (.int .u8 5), .lit (.int .u8 63), .lit (.int .u8 55), .lit (.int .u8 48), .lit (.int .u8 27), .lit (.int .u8 60), .lit (.int .u8 41), .lit (.int .u8 37), .lit (.int .u8 16), .lit (.int .u8 46), .lit (.int .u8 35), .lit (.int .u8 44), .lit (.int .u8 21), .lit (.int .u8 52), .lit (.int .u8 32), .lit (.int .u8 23), .lit (.int .u8 11), .lit (.int .u8 54), .lit (.int .u8 26), .lit (.int .u8 40), .lit (.int .u8 15), .lit (.int .u8 34), .lit (.int .u8 20), .lit (.int .u8 31), .lit (.int .u8 10), .lit (.int .u8 25), .lit (.int .u8 14), .lit (.int .u8 19), .lit (.int .u8 9), .lit (.int .u8 13), .lit (.int .u8 8), .lit (.int .u8 7), .lit (.int .u8 6)]
def laid_internal_strconv_uint64pow10 {H : Type} : DataW H := .agg [.lit (.int .u64 1), .lit (.int .u64 10), .lit (.int .u64 100), .lit (.int .u64 1000), .lit (.int .u64 10000), .lit (.int .u64 100000), .lit (.int .u64 1000000), .lit (.int .u64 10000000), .lit (.int .u64 100000000), .lit (.int .u64 1000000000), .lit (.int .u64 10000000000), .lit (.int .u64 100000000000), .lit (.int .u64 1000000000000), .lit (.int .u64 10000000000000), .lit (.int .u64 100000000000000), .lit (.int .u64 1000000000000000), .lit (.int .u64 10000000000000000), .lit (.int .u64 100000000000000000), .lit (.int .u64 1000000000000000000), .lit (.int .u64 10000000000000000000)]

/-- 'laws.FnNumberTens': WHATEVER THE INPUT: true; the input reads as it did. -/
def fnNumberTensSpec : ChangeSpec := { name := "fnNumberTens", fn := fun _ => fun
  | [d1, d2] => { results := [.lit (.bool true)], args := [d1, d2] }
  | _ => none }
def fnNumberTensRow : OpenClaim := { program := "ytiahmmecekfjhaadoor", sum := "2368fd8c84ee05391bba528a6ce5cd700facd15996311e6b930576f929df5ce2", func := "pub-dodona/laws.FnNumberTens", spec := "fnNumberTens", inPlace := ["math/bits.Add64"], named := ["internal/strconv.uint64pow10", "math/bits.deBruijn32tab", "math/bits.deBruijn64tab"], apart := false, laid := [("math/bits.deBruijn32tab", laid_math_bits_deBruijn32tab), ("math/bits.deBruijn64tab", laid_math_bits_deBruijn64tab), ("internal/strconv.uint64pow10", laid_internal_strconv_uint64pow10)] }
def FnNumberTensSaid : Prop := fnNumberTensRow.holds Tryd.pinned (OpenSpec.ofChange fnNumberTensSpec)

/-- ITS FALSE NEIGHBOUR: 'it returns false'. Refute it at one input. -/
def fnNumberTensWrong : ChangeSpec := { name := "fnNumberTens", fn := fun _ => fun
  | [d1, d2] => { results := [.lit (.bool false)], args := [d1, d2] }
  | _ => none }
def FnNumberTensWrongFalsely : Prop := fnNumberTensRow.holds Tryd.pinned (OpenSpec.ofChange fnNumberTensWrong)

/-- 'laws.FnNumberScaled': WHATEVER THE INPUT: true; the input reads as it did. -/
def fnNumberScaledSpec : ChangeSpec := { name := "fnNumberScaled", fn := fun _ => fun
  | [d1, d2, d3, d4] => { results := [.lit (.bool true)], args := [d1, d2, d3, d4] }
  | _ => none }
def fnNumberScaledRow : OpenClaim := { program := "ytiahmmecekfjhaadoor", sum := "2368fd8c84ee05391bba528a6ce5cd700facd15996311e6b930576f929df5ce2", func := "pub-dodona/laws.FnNumberScaled", spec := "fnNumberScaled", inPlace := ["math/bits.Add64"], named := ["internal/strconv.uint64pow10", "math/bits.deBruijn32tab", "math/bits.deBruijn64tab"], apart := false, laid := [("math/bits.deBruijn32tab", laid_math_bits_deBruijn32tab), ("math/bits.deBruijn64tab", laid_math_bits_deBruijn64tab), ("internal/strconv.uint64pow10", laid_internal_strconv_uint64pow10)] }
def FnNumberScaledSaid : Prop := fnNumberScaledRow.holds Tryd.pinned (OpenSpec.ofChange fnNumberScaledSpec)

/-- ITS FALSE NEIGHBOUR: 'it returns false'. Refute it at one input. -/
def fnNumberScaledWrong : ChangeSpec := { name := "fnNumberScaled", fn := fun _ => fun
  | [d1, d2, d3, d4] => { results := [.lit (.bool false)], args := [d1, d2, d3, d4] }
  | _ => none }
def FnNumberScaledWrongFalsely : Prop := fnNumberScaledRow.holds Tryd.pinned (OpenSpec.ofChange fnNumberScaledWrong)

/-- 'laws.FnNumberPads': WHATEVER THE INPUT: true; the input reads as it did. -/
def fnNumberPadsSpec : ChangeSpec := { name := "fnNumberPads", fn := fun _ => fun
  | [d1, d2] => { results := [.lit (.bool true)], args := [d1, d2] }
  | _ => none }
def fnNumberPadsRow : OpenClaim := { program := "ytiahmmecekfjhaadoor", sum := "2368fd8c84ee05391bba528a6ce5cd700facd15996311e6b930576f929df5ce2", func := "pub-dodona/laws.FnNumberPads", spec := "fnNumberPads", inPlace := ["math/bits.Add64", "internal/bytealg.MakeNoZero"], named := ["internal/strconv.uint64pow10", "math/bits.deBruijn32tab", "math/bits.deBruijn64tab"], apart := false, laid := [("math/bits.deBruijn32tab", laid_math_bits_deBruijn32tab), ("math/bits.deBruijn64tab", laid_math_bits_deBruijn64tab), ("internal/strconv.uint64pow10", laid_internal_strconv_uint64pow10)] }
def FnNumberPadsSaid : Prop := fnNumberPadsRow.holds Tryd.pinned (OpenSpec.ofChange fnNumberPadsSpec)

/-- ITS FALSE NEIGHBOUR: 'it returns false'. Refute it at one input. -/
def fnNumberPadsWrong : ChangeSpec := { name := "fnNumberPads", fn := fun _ => fun
  | [d1, d2] => { results := [.lit (.bool false)], args := [d1, d2] }
  | _ => none }
def FnNumberPadsWrongFalsely : Prop := fnNumberPadsRow.holds Tryd.pinned (OpenSpec.ofChange fnNumberPadsWrong)

/-- 'laws.FnNumberMd4': WHATEVER THE INPUT: true; the input reads as it did. -/
def fnNumberMd4Spec : ChangeSpec := { name := "fnNumberMd4", fn := fun _ => fun
  | [d1, d2] => { results := [.lit (.bool true)], args := [d1, d2] }
  | _ => none }
def fnNumberMd4Row : OpenClaim := { program := "ytiahmmecekfjhaadoor", sum := "2368fd8c84ee05391bba528a6ce5cd700facd15996311e6b930576f929df5ce2", func := "pub-dodona/laws.FnNumberMd4", spec := "fnNumberMd4", inPlace := ["math/bits.Add64"], unfollowed := true, recurses := true, named := ["internal/strconv.uint64pow10", "math/bits.deBruijn32tab", "math/bits.deBruijn64tab"], apart := false, laid := [("math/bits.deBruijn32tab", laid_math_bits_deBruijn32tab), ("math/bits.deBruijn64tab", laid_math_bits_deBruijn64tab), ("internal/strconv.uint64pow10", laid_internal_strconv_uint64pow10)] }
def FnNumberMd4Said : Prop := fnNumberMd4Row.holds Tryd.pinned (OpenSpec.ofChange fnNumberMd4Spec)

/-- ITS FALSE NEIGHBOUR: 'it returns false'. Refute it at one input. -/
def fnNumberMd4Wrong : ChangeSpec := { name := "fnNumberMd4", fn := fun _ => fun
  | [d1, d2] => { results := [.lit (.bool false)], args := [d1, d2] }
  | _ => none }
def FnNumberMd4WrongFalsely : Prop := fnNumberMd4Row.holds Tryd.pinned (OpenSpec.ofChange fnNumberMd4Wrong)

/-- 'laws.FnNumberInt64': WHATEVER THE INPUT: true; the input reads as it did. -/
def fnNumberInt64Spec : ChangeSpec := { name := "fnNumberInt64", fn := fun _ => fun
  | [d] => { results := [.lit (.bool true)], args := [d] }
  | _ => none }
def fnNumberInt64Row : OpenClaim := { program := "ytiahmmecekfjhaadoor", sum := "2368fd8c84ee05391bba528a6ce5cd700facd15996311e6b930576f929df5ce2", func := "pub-dodona/laws.FnNumberInt64", spec := "fnNumberInt64", inPlace := ["math.archMin", "math.Float64bits", "math.Float64frombits", "math/bits.Add64"], named := ["internal/strconv.uint64pow10", "math/bits.deBruijn32tab", "math/bits.deBruijn64tab"], apart := false, laid := [("math/bits.deBruijn32tab", laid_math_bits_deBruijn32tab), ("math/bits.deBruijn64tab", laid_math_bits_deBruijn64tab), ("internal/strconv.uint64pow10", laid_internal_strconv_uint64pow10)] }
def FnNumberInt64Said : Prop := fnNumberInt64Row.holds Tryd.pinned (OpenSpec.ofChange fnNumberInt64Spec)

/-- ITS FALSE NEIGHBOUR: 'it returns false'. Refute it at one input. -/
def fnNumberInt64Wrong : ChangeSpec := { name := "fnNumberInt64", fn := fun _ => fun
  | [d] => { results := [.lit (.bool false)], args := [d] }
  | _ => none }
def FnNumberInt64WrongFalsely : Prop := fnNumberInt64Row.holds Tryd.pinned (OpenSpec.ofChange fnNumberInt64Wrong)

/-- 'laws.FnNumberRead': WHATEVER THE INPUT: true; the input reads as it did. -/
def fnNumberReadSpec : ChangeSpec := { name := "fnNumberRead", fn := fun _ => fun
  | [d1, d2, d3] => { results := [.lit (.bool true)], args := [d1, d2, d3] }
  | _ => none }
def fnNumberReadRow : OpenClaim := { program := "ytiahmmecekfjhaadoor", sum := "2368fd8c84ee05391bba528a6ce5cd700facd15996311e6b930576f929df5ce2", func := "pub-dodona/laws.FnNumberRead", spec := "fnNumberRead", inPlace := ["math/bits.Add64"], named := ["internal/strconv.uint64pow10", "math/bits.deBruijn32tab", "math/bits.deBruijn64tab"], apart := false, laid := [("math/bits.deBruijn32tab", laid_math_bits_deBruijn32tab), ("math/bits.deBruijn64tab", laid_math_bits_deBruijn64tab), ("internal/strconv.uint64pow10", laid_internal_strconv_uint64pow10)] }
def FnNumberReadSaid : Prop := fnNumberReadRow.holds Tryd.pinned (OpenSpec.ofChange fnNumberReadSpec)

/-- ITS FALSE NEIGHBOUR: 'it returns false'. Refute it at one input. -/
def fnNumberReadWrong : ChangeSpec := { name := "fnNumberRead", fn := fun _ => fun
  | [d1, d2, d3] => { results := [.lit (.bool false)], args := [d1, d2, d3] }
  | _ => none }
def FnNumberReadWrongFalsely : Prop := fnNumberReadRow.holds Tryd.pinned (OpenSpec.ofChange fnNumberReadWrong)

/-- 'laws.FnNumberText': WHATEVER THE INPUT: true; the input reads as it did. -/
def fnNumberTextSpec : ChangeSpec := { name := "fnNumberText", fn := fun _ => fun
  | [d] => { results := [.lit (.bool true)], args := [d] }
  | _ => none }
def fnNumberTextRow : OpenClaim := { program := "ytiahmmecekfjhaadoor", sum := "2368fd8c84ee05391bba528a6ce5cd700facd15996311e6b930576f929df5ce2", func := "pub-dodona/laws.FnNumberText", spec := "fnNumberText", inPlace := ["math/bits.Add64"], named := ["internal/strconv.uint64pow10", "math/bits.deBruijn32tab", "math/bits.deBruijn64tab"], apart := false, laid := [("math/bits.deBruijn32tab", laid_math_bits_deBruijn32tab), ("math/bits.deBruijn64tab", laid_math_bits_deBruijn64tab), ("internal/strconv.uint64pow10", laid_internal_strconv_uint64pow10)] }
def FnNumberTextSaid : Prop := fnNumberTextRow.holds Tryd.pinned (OpenSpec.ofChange fnNumberTextSpec)

/-- ITS FALSE NEIGHBOUR: 'it returns false'. Refute it at one input. -/
def fnNumberTextWrong : ChangeSpec := { name := "fnNumberText", fn := fun _ => fun
  | [d] => { results := [.lit (.bool false)], args := [d] }
  | _ => none }
def FnNumberTextWrongFalsely : Prop := fnNumberTextRow.holds Tryd.pinned (OpenSpec.ofChange fnNumberTextWrong)

/-- 'laws.FnNumberTexts': WHATEVER THE INPUT: true; the input reads as it did. -/
def fnNumberTextsSpec : ChangeSpec := { name := "fnNumberTexts", fn := fun _ => fun
  | [d] => { results := [.lit (.bool true)], args := [d] }
  | _ => none }
def fnNumberTextsRow : OpenClaim := { program := "ytiahmmecekfjhaadoor", sum := "2368fd8c84ee05391bba528a6ce5cd700facd15996311e6b930576f929df5ce2", func := "pub-dodona/laws.FnNumberTexts", spec := "fnNumberTexts", inPlace := ["math/bits.Add64"], named := ["internal/strconv.uint64pow10", "math/bits.deBruijn32tab", "math/bits.deBruijn64tab"], apart := false, laid := [("math/bits.deBruijn32tab", laid_math_bits_deBruijn32tab), ("math/bits.deBruijn64tab", laid_math_bits_deBruijn64tab), ("internal/strconv.uint64pow10", laid_internal_strconv_uint64pow10)] }
def FnNumberTextsSaid : Prop := fnNumberTextsRow.holds Tryd.pinned (OpenSpec.ofChange fnNumberTextsSpec)

/-- ITS FALSE NEIGHBOUR: 'it returns false'. Refute it at one input. -/
def fnNumberTextsWrong : ChangeSpec := { name := "fnNumberTexts", fn := fun _ => fun
  | [d] => { results := [.lit (.bool false)], args := [d] }
  | _ => none }
def FnNumberTextsWrongFalsely : Prop := fnNumberTextsRow.holds Tryd.pinned (OpenSpec.ofChange fnNumberTextsWrong)

/- THE SECOND FORM. 'bulk': how many values and letters a reading holds, each counted each time it is reached (what is shared counts as often as it is met; a slice's spare places count too). A statement '..UptoSaid' is the law's where the arguments, and the package variables that the reading takes, are together of bulk at most 1048576: NARROWER than '..Said'. Prove '..Said' where nothing that the law and all that it calls make is longer than what came in: it says more and counts as full. Else prove '..UptoSaid'. A law counts once. -/
mutual
def uptoBulk {H : Type} : DataW H → Nat
  | .lit (.string bytes) => bytes.length + 1
  | .lit _ => 1
  | .nil => 1
  | .ptr d => uptoBulk d + 1
  | .slice elems spare => uptoBulkAll elems + uptoBulkAll spare + 1
  | .agg parts => uptoBulkAll parts + 1
  | .iface _ d => uptoBulk d + 1
  | .map entries => uptoBulkEntries entries + 1
  | .held _ => 1
def uptoBulkAll {H : Type} : List (DataW H) → Nat
  | [] => 0
  | d :: r => uptoBulk d + uptoBulkAll r
def uptoBulkEntries {H : Type} : List (Lit × DataW H) → Nat
  | [] => 0
  | x :: r => uptoBulkEntry x + uptoBulkEntries r
def uptoBulkEntry {H : Type} : Lit × DataW H → Nat
  | (.string bytes, d) => bytes.length + uptoBulk d + 1
  | (_, d) => uptoBulk d + 1
 end
def uptoSmall : (H : Type) → List (DataW H) → Bool := fun _ ds => decide (uptoBulkAll ds ≤ 1048576)
def OpenSpec.upto (s : _root_.Go.ChangeSpec) : _root_.Go.OpenSpec := { _root_.Go.OpenSpec.ofChange s with cond := some uptoSmall }

/-- 'laws.FnNumberTens', WHERE WHAT IT READS IS OF BULK AT MOST 1048576: true; the input reads as it did. -/
def fnNumberTensUptoRow : OpenClaim := { program := "ytiahmmecekfjhaadoor", sum := "2368fd8c84ee05391bba528a6ce5cd700facd15996311e6b930576f929df5ce2", func := "pub-dodona/laws.FnNumberTens", spec := "fnNumberTens", inPlace := ["math/bits.Add64"], named := ["internal/strconv.uint64pow10", "math/bits.deBruijn32tab", "math/bits.deBruijn64tab"], apart := false, laid := [("math/bits.deBruijn32tab", laid_math_bits_deBruijn32tab), ("math/bits.deBruijn64tab", laid_math_bits_deBruijn64tab), ("internal/strconv.uint64pow10", laid_internal_strconv_uint64pow10)], narrowed := true }
def FnNumberTensUptoSaid : Prop := fnNumberTensUptoRow.holds Tryd.pinned (OpenSpec.upto fnNumberTensSpec)

/-- 'laws.FnNumberScaled', WHERE WHAT IT READS IS OF BULK AT MOST 1048576: true; the input reads as it did. -/
def fnNumberScaledUptoRow : OpenClaim := { program := "ytiahmmecekfjhaadoor", sum := "2368fd8c84ee05391bba528a6ce5cd700facd15996311e6b930576f929df5ce2", func := "pub-dodona/laws.FnNumberScaled", spec := "fnNumberScaled", inPlace := ["math/bits.Add64"], named := ["internal/strconv.uint64pow10", "math/bits.deBruijn32tab", "math/bits.deBruijn64tab"], apart := false, laid := [("math/bits.deBruijn32tab", laid_math_bits_deBruijn32tab), ("math/bits.deBruijn64tab", laid_math_bits_deBruijn64tab), ("internal/strconv.uint64pow10", laid_internal_strconv_uint64pow10)], narrowed := true }
def FnNumberScaledUptoSaid : Prop := fnNumberScaledUptoRow.holds Tryd.pinned (OpenSpec.upto fnNumberScaledSpec)

/-- 'laws.FnNumberPads', WHERE WHAT IT READS IS OF BULK AT MOST 1048576: true; the input reads as it did. -/
def fnNumberPadsUptoRow : OpenClaim := { program := "ytiahmmecekfjhaadoor", sum := "2368fd8c84ee05391bba528a6ce5cd700facd15996311e6b930576f929df5ce2", func := "pub-dodona/laws.FnNumberPads", spec := "fnNumberPads", inPlace := ["math/bits.Add64", "internal/bytealg.MakeNoZero"], named := ["internal/strconv.uint64pow10", "math/bits.deBruijn32tab", "math/bits.deBruijn64tab"], apart := false, laid := [("math/bits.deBruijn32tab", laid_math_bits_deBruijn32tab), ("math/bits.deBruijn64tab", laid_math_bits_deBruijn64tab), ("internal/strconv.uint64pow10", laid_internal_strconv_uint64pow10)], narrowed := true }
def FnNumberPadsUptoSaid : Prop := fnNumberPadsUptoRow.holds Tryd.pinned (OpenSpec.upto fnNumberPadsSpec)

/-- 'laws.FnNumberMd4', WHERE WHAT IT READS IS OF BULK AT MOST 1048576: true; the input reads as it did. -/
def fnNumberMd4UptoRow : OpenClaim := { program := "ytiahmmecekfjhaadoor", sum := "2368fd8c84ee05391bba528a6ce5cd700facd15996311e6b930576f929df5ce2", func := "pub-dodona/laws.FnNumberMd4", spec := "fnNumberMd4", inPlace := ["math/bits.Add64"], unfollowed := true, recurses := true, named := ["internal/strconv.uint64pow10", "math/bits.deBruijn32tab", "math/bits.deBruijn64tab"], apart := false, laid := [("math/bits.deBruijn32tab", laid_math_bits_deBruijn32tab), ("math/bits.deBruijn64tab", laid_math_bits_deBruijn64tab), ("internal/strconv.uint64pow10", laid_internal_strconv_uint64pow10)], narrowed := true }
def FnNumberMd4UptoSaid : Prop := fnNumberMd4UptoRow.holds Tryd.pinned (OpenSpec.upto fnNumberMd4Spec)

/-- 'laws.FnNumberInt64', WHERE WHAT IT READS IS OF BULK AT MOST 1048576: true; the input reads as it did. -/
def fnNumberInt64UptoRow : OpenClaim := { program := "ytiahmmecekfjhaadoor", sum := "2368fd8c84ee05391bba528a6ce5cd700facd15996311e6b930576f929df5ce2", func := "pub-dodona/laws.FnNumberInt64", spec := "fnNumberInt64", inPlace := ["math.archMin", "math.Float64bits", "math.Float64frombits", "math/bits.Add64"], named := ["internal/strconv.uint64pow10", "math/bits.deBruijn32tab", "math/bits.deBruijn64tab"], apart := false, laid := [("math/bits.deBruijn32tab", laid_math_bits_deBruijn32tab), ("math/bits.deBruijn64tab", laid_math_bits_deBruijn64tab), ("internal/strconv.uint64pow10", laid_internal_strconv_uint64pow10)], narrowed := true }
def FnNumberInt64UptoSaid : Prop := fnNumberInt64UptoRow.holds Tryd.pinned (OpenSpec.upto fnNumberInt64Spec)

/-- 'laws.FnNumberRead', WHERE WHAT IT READS IS OF BULK AT MOST 1048576: true; the input reads as it did. -/
def fnNumberReadUptoRow : OpenClaim := { program := "ytiahmmecekfjhaadoor", sum := "2368fd8c84ee05391bba528a6ce5cd700facd15996311e6b930576f929df5ce2", func := "pub-dodona/laws.FnNumberRead", spec := "fnNumberRead", inPlace := ["math/bits.Add64"], named := ["internal/strconv.uint64pow10", "math/bits.deBruijn32tab", "math/bits.deBruijn64tab"], apart := false, laid := [("math/bits.deBruijn32tab", laid_math_bits_deBruijn32tab), ("math/bits.deBruijn64tab", laid_math_bits_deBruijn64tab), ("internal/strconv.uint64pow10", laid_internal_strconv_uint64pow10)], narrowed := true }
def FnNumberReadUptoSaid : Prop := fnNumberReadUptoRow.holds Tryd.pinned (OpenSpec.upto fnNumberReadSpec)

/-- 'laws.FnNumberText', WHERE WHAT IT READS IS OF BULK AT MOST 1048576: true; the input reads as it did. -/
def fnNumberTextUptoRow : OpenClaim := { program := "ytiahmmecekfjhaadoor", sum := "2368fd8c84ee05391bba528a6ce5cd700facd15996311e6b930576f929df5ce2", func := "pub-dodona/laws.FnNumberText", spec := "fnNumberText", inPlace := ["math/bits.Add64"], named := ["internal/strconv.uint64pow10", "math/bits.deBruijn32tab", "math/bits.deBruijn64tab"], apart := false, laid := [("math/bits.deBruijn32tab", laid_math_bits_deBruijn32tab), ("math/bits.deBruijn64tab", laid_math_bits_deBruijn64tab), ("internal/strconv.uint64pow10", laid_internal_strconv_uint64pow10)], narrowed := true }
def FnNumberTextUptoSaid : Prop := fnNumberTextUptoRow.holds Tryd.pinned (OpenSpec.upto fnNumberTextSpec)

/-- 'laws.FnNumberTexts', WHERE WHAT IT READS IS OF BULK AT MOST 1048576: true; the input reads as it did. -/
def fnNumberTextsUptoRow : OpenClaim := { program := "ytiahmmecekfjhaadoor", sum := "2368fd8c84ee05391bba528a6ce5cd700facd15996311e6b930576f929df5ce2", func := "pub-dodona/laws.FnNumberTexts", spec := "fnNumberTexts", inPlace := ["math/bits.Add64"], named := ["internal/strconv.uint64pow10", "math/bits.deBruijn32tab", "math/bits.deBruijn64tab"], apart := false, laid := [("math/bits.deBruijn32tab", laid_math_bits_deBruijn32tab), ("math/bits.deBruijn64tab", laid_math_bits_deBruijn64tab), ("internal/strconv.uint64pow10", laid_internal_strconv_uint64pow10)], narrowed := true }
def FnNumberTextsUptoSaid : Prop := fnNumberTextsUptoRow.holds Tryd.pinned (OpenSpec.upto fnNumberTextsSpec)

end Rows
end Go.Proofs.YtiahmmecekfjhaaDoor
