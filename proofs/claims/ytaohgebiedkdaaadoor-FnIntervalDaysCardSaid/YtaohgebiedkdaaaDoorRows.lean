/-
  NARROWER THAN 'FOR EVERY INPUT', by the rows' own cells (each row's printed sentence says how): FnPacketRedirect: laid · FnPacketHeads: laid · FnPacketData: laid · FnPacketLength: laid · FnPacketConnect: laid · FnPacketAcceptTorn: laid · FnIntervalDays: laid · FnJoinAnswers: laid · FnPacketApart: laid.
  DERIVED. THE GIVEN ROWS OF THIS SEAT. 9 by the template 'for every input the law returns true; each argument reads behind the call as it read before'; 0 by the template 'total and deterministic' (their statements: YtaohgebiedkdaaaDoorTotals.lean).
  GIVEN WITH THE SEED: the statements are not yours to turn. If you find one false, say at which input.
  Laid BY PROGRAM, IN A SANDBOX (cutbox-rows.mjs): the forced cells as the released guide's own fill.sh prints them over the translation 8257f87303a283bf… (all of the seat's roots in one cut). By AI agents, Wed Nov 11 2026. No macro, syntax, notation, axiom, sorry.
-/
import Derived.Test.YtaohgebiedkdaaaDoorChecked
import GoSem.Claim
import GoSem.ClaimJoined
import GoSem.ClaimMapViews
import Derived.JoinedTies
import Derived.KernelRfl
namespace Go.Proofs.YtaohgebiedkdaaaDoor
/- THE CELL 'sum', in the pinned program and in every row, IS THE sha256 OF THE DUMP (.gsa) THAT YtaohgebiedkdaaaDoorProg.lean LOADS. Nothing in Lean hashes anything: it is a label: what it is worth is what the hold of that sum in a sandbox is worth. -/
noncomputable def Tryd.pinned : Pinned := { name := "ytaohgebiedkdaaadoor", sum := "8257f87303a283bf2a4d79dfbc397ace87c5a911f53945102edc97c977249eff", checked := Tryd.checked }
namespace Rows
def none {H : Type} : Left H := { results := [], args := [] }

/- WHAT THE LISTED PACKAGE-LEVEL VARIABLES READ AS WHEN THE CALL BEGINS. Each datum BY PROGRAM (the guide's laid-datum.mjs) off the statement by which the dump's own 'gosem.cut.vars' lays the variable. In a bare row this is a premise. The card (YtaohgebiedkdaaaDoorCards.lean) ties it to the program's text. -/
def laid_bytes_ErrTooLarge {H : Type} : DataW H := .iface "*errors.errorString" (.ptr (.agg [.lit (.string [98, 121, 116, 101, 115, 46, 66, 117, 102, 102, 101, 114, 58, 32, 116, 111, 111, 32, 108, 97, 114, 103, 101])]))
def laid_math_bits_deBruijn32tab {H : Type} : DataW H := .agg [.lit (.int .u8 0), .lit (.int .u8 1), .lit (.int .u8 28), .lit (.int .u8 2), .lit (.int .u8 29), .lit (.int .u8 14), .lit (.int .u8 24), .lit (.int .u8 3), .lit (.int .u8 30), .lit (.int .u8 22), .lit (.int .u8 20), .lit (.int .u8 15), .lit (.int .u8 25), .lit (.int .u8 17), .lit (.int .u8 4), .lit (.int .u8 8), .lit (.int .u8 31), .lit (.int .u8 27), .lit (.int .u8 13), .lit (.int .u8 23), .lit (.int .u8 21), .lit (.int .u8 19), .lit (.int .u8 16), .lit (.int .u8 7), .lit (.int .u8 26), .lit (.int .u8 12), .lit (.int .u8 18), .lit (.int .u8 6), .lit (.int .u8 11), .lit (.int .u8 5), .lit (.int .u8 10), .lit (.int .u8 9)]
def laid_math_bits_deBruijn64tab {H : Type} : DataW H := .agg [.lit (.int .u8 0), .lit (.int .u8 1), .lit (.int .u8 56), .lit (.int .u8 2), .lit (.int .u8 57), .lit (.int .u8 49), .lit (.int .u8 28), .lit (.int .u8 3), .lit (.int .u8 61), .lit (.int .u8 58), .lit (.int .u8 42), .lit (.int .u8 50), .lit (.int .u8 38), .lit (.int .u8 29), .lit (.int .u8 17), .lit (.int .u8 4), .lit (.int .u8 62), .lit (.int .u8 47), .lit (.int .u8 59), .lit (.int .u8 36), .lit (.int .u8 45), .lit (.int .u8 43), .lit (.int .u8 51), .lit (.int .u8 22), .lit (.int .u8 53), .lit (.int .u8 39), .lit (.int .u8 33), .lit (.int .u8 30), .lit (.int .u8 24), .lit (.int .u8 18), .lit (.int .u8 12), .lit (.int .u8 5), .lit (.int .u8 63), .lit (.int .u8 55), .lit (.int .u8 48), .lit (.int .u8 27), .lit (.int .u8 60), .lit (.int .u8 41), .lit (.int .u8 37), .lit (.int .u8 16), .lit (.int .u8 46), .lit (.int .u8 35), .lit (.int .u8 44), .lit (.int .u8 21), .lit (.int .u8 52), .lit (.int .u8 32), .lit (.int .u8 23), .lit (.int .u8 11), .lit (.int .u8 54), .lit (.int .u8 26), .lit (.int .u8 40), .lit (.int .u8 15), .lit (.int .u8 34), .lit (.int .u8 20), .lit (.int .u8 31), .lit (.int .u8 10), .lit (.int .u8 25), .lit (.int .u8 14), .lit (.int .u8 19), .lit (.int .u8 9), .lit (.int .u8 13), .lit (.int .u8 8), .lit (.int .u8 7), .lit (.int .u8 6)]
def laid_internal_strconv_uint64pow10 {H : Type} : DataW H := .agg [.lit (.int .u64 1), .lit (.int .u64 10), .lit (.int .u64 100), .lit (.int .u64 1000), .lit (.int .u64 10000), .lit (.int .u64 100000), .lit (.int .u64 1000000), .lit (.int .u64 10000000), .lit (.int .u64 100000000), .lit (.int .u64 1000000000), .lit (.int .u64 10000000000), .lit (.int .u64 100000000000), .lit (.int .u64 1000000000000), .lit (.int .u64 10000000000000), .lit (.int .u64 100000000000000), .lit (.int .u64 1000000000000000), .lit (.int .u64 10000000000000000), .lit (.int .u64 100000000000000000), .lit (.int .u64 1000000000000000000), .lit (.int .u64 10000000000000000000)]

/-- 'laws.FnPacketRedirect': WHATEVER THE INPUT: true; the input reads as it did. -/
def fnPacketRedirectSpec : ChangeSpec := { name := "fnPacketRedirect", fn := fun _ => fun
  | [d] => { results := [.lit (.bool true)], args := [d] }
  | _ => none }
def fnPacketRedirectRow : OpenClaim := { program := "ytaohgebiedkdaaadoor", sum := "8257f87303a283bf2a4d79dfbc397ace87c5a911f53945102edc97c977249eff", func := "pub-dodona/laws.FnPacketRedirect", spec := "fnPacketRedirect", named := ["encoding/binary.BigEndian", "bytes.ErrTooLarge"], apart := false, laid := [("bytes.ErrTooLarge", laid_bytes_ErrTooLarge)] }
def FnPacketRedirectSaid : Prop := fnPacketRedirectRow.holds Tryd.pinned (OpenSpec.ofChange fnPacketRedirectSpec)

/-- ITS FALSE NEIGHBOUR: 'it returns false'. Refute it at one input. -/
def fnPacketRedirectWrong : ChangeSpec := { name := "fnPacketRedirect", fn := fun _ => fun
  | [d] => { results := [.lit (.bool false)], args := [d] }
  | _ => none }
def FnPacketRedirectWrongFalsely : Prop := fnPacketRedirectRow.holds Tryd.pinned (OpenSpec.ofChange fnPacketRedirectWrong)

/-- 'laws.FnPacketHeads': WHATEVER THE INPUT: true; the input reads as it did. -/
def fnPacketHeadsSpec : ChangeSpec := { name := "fnPacketHeads", fn := fun _ => fun
  | [d1, d2] => { results := [.lit (.bool true)], args := [d1, d2] }
  | _ => none }
def fnPacketHeadsRow : OpenClaim := { program := "ytaohgebiedkdaaadoor", sum := "8257f87303a283bf2a4d79dfbc397ace87c5a911f53945102edc97c977249eff", func := "pub-dodona/laws.FnPacketHeads", spec := "fnPacketHeads", named := ["encoding/binary.BigEndian", "bytes.ErrTooLarge"], apart := false, laid := [("bytes.ErrTooLarge", laid_bytes_ErrTooLarge)] }
def FnPacketHeadsSaid : Prop := fnPacketHeadsRow.holds Tryd.pinned (OpenSpec.ofChange fnPacketHeadsSpec)

/-- ITS FALSE NEIGHBOUR: 'it returns false'. Refute it at one input. -/
def fnPacketHeadsWrong : ChangeSpec := { name := "fnPacketHeads", fn := fun _ => fun
  | [d1, d2] => { results := [.lit (.bool false)], args := [d1, d2] }
  | _ => none }
def FnPacketHeadsWrongFalsely : Prop := fnPacketHeadsRow.holds Tryd.pinned (OpenSpec.ofChange fnPacketHeadsWrong)

/-- 'laws.FnPacketData': WHATEVER THE INPUT: true; the input reads as it did. -/
def fnPacketDataSpec : ChangeSpec := { name := "fnPacketData", fn := fun _ => fun
  | [d1, d2] => { results := [.lit (.bool true)], args := [d1, d2] }
  | _ => none }
def fnPacketDataRow : OpenClaim := { program := "ytaohgebiedkdaaadoor", sum := "8257f87303a283bf2a4d79dfbc397ace87c5a911f53945102edc97c977249eff", func := "pub-dodona/laws.FnPacketData", spec := "fnPacketData", named := ["encoding/binary.BigEndian", "bytes.ErrTooLarge"], apart := false, laid := [("bytes.ErrTooLarge", laid_bytes_ErrTooLarge)] }
def FnPacketDataSaid : Prop := fnPacketDataRow.holds Tryd.pinned (OpenSpec.ofChange fnPacketDataSpec)

/-- ITS FALSE NEIGHBOUR: 'it returns false'. Refute it at one input. -/
def fnPacketDataWrong : ChangeSpec := { name := "fnPacketData", fn := fun _ => fun
  | [d1, d2] => { results := [.lit (.bool false)], args := [d1, d2] }
  | _ => none }
def FnPacketDataWrongFalsely : Prop := fnPacketDataRow.holds Tryd.pinned (OpenSpec.ofChange fnPacketDataWrong)

/-- 'laws.FnPacketLength': WHATEVER THE INPUT: true; the input reads as it did. -/
def fnPacketLengthSpec : ChangeSpec := { name := "fnPacketLength", fn := fun _ => fun
  | [d1, d2] => { results := [.lit (.bool true)], args := [d1, d2] }
  | _ => none }
def fnPacketLengthRow : OpenClaim := { program := "ytaohgebiedkdaaadoor", sum := "8257f87303a283bf2a4d79dfbc397ace87c5a911f53945102edc97c977249eff", func := "pub-dodona/laws.FnPacketLength", spec := "fnPacketLength", named := ["encoding/binary.BigEndian", "bytes.ErrTooLarge"], apart := false, laid := [("bytes.ErrTooLarge", laid_bytes_ErrTooLarge)] }
def FnPacketLengthSaid : Prop := fnPacketLengthRow.holds Tryd.pinned (OpenSpec.ofChange fnPacketLengthSpec)

/-- ITS FALSE NEIGHBOUR: 'it returns false'. Refute it at one input. -/
def fnPacketLengthWrong : ChangeSpec := { name := "fnPacketLength", fn := fun _ => fun
  | [d1, d2] => { results := [.lit (.bool false)], args := [d1, d2] }
  | _ => none }
def FnPacketLengthWrongFalsely : Prop := fnPacketLengthRow.holds Tryd.pinned (OpenSpec.ofChange fnPacketLengthWrong)

/-- 'laws.FnPacketConnect': WHATEVER THE INPUT: true; the input reads as it did. -/
def fnPacketConnectSpec : ChangeSpec := { name := "fnPacketConnect", fn := fun _ => fun
  | [d1, d2] => { results := [.lit (.bool true)], args := [d1, d2] }
  | _ => none }
def fnPacketConnectRow : OpenClaim := { program := "ytaohgebiedkdaaadoor", sum := "8257f87303a283bf2a4d79dfbc397ace87c5a911f53945102edc97c977249eff", func := "pub-dodona/laws.FnPacketConnect", spec := "fnPacketConnect", named := ["encoding/binary.BigEndian", "bytes.ErrTooLarge"], apart := false, laid := [("bytes.ErrTooLarge", laid_bytes_ErrTooLarge)] }
def FnPacketConnectSaid : Prop := fnPacketConnectRow.holds Tryd.pinned (OpenSpec.ofChange fnPacketConnectSpec)

/-- ITS FALSE NEIGHBOUR: 'it returns false'. Refute it at one input. -/
def fnPacketConnectWrong : ChangeSpec := { name := "fnPacketConnect", fn := fun _ => fun
  | [d1, d2] => { results := [.lit (.bool false)], args := [d1, d2] }
  | _ => none }
def FnPacketConnectWrongFalsely : Prop := fnPacketConnectRow.holds Tryd.pinned (OpenSpec.ofChange fnPacketConnectWrong)

/-- 'laws.FnPacketAcceptTorn': WHATEVER THE INPUT: true; the input reads as it did. -/
def fnPacketAcceptTornSpec : ChangeSpec := { name := "fnPacketAcceptTorn", fn := fun _ => fun
  | [d1, d2, d3] => { results := [.lit (.bool true)], args := [d1, d2, d3] }
  | _ => none }
def fnPacketAcceptTornRow : OpenClaim := { program := "ytaohgebiedkdaaadoor", sum := "8257f87303a283bf2a4d79dfbc397ace87c5a911f53945102edc97c977249eff", func := "pub-dodona/laws.FnPacketAcceptTorn", spec := "fnPacketAcceptTorn", named := ["encoding/binary.BigEndian", "bytes.ErrTooLarge"], apart := false, laid := [("bytes.ErrTooLarge", laid_bytes_ErrTooLarge)] }
def FnPacketAcceptTornSaid : Prop := fnPacketAcceptTornRow.holds Tryd.pinned (OpenSpec.ofChange fnPacketAcceptTornSpec)

/-- ITS FALSE NEIGHBOUR: 'it returns false'. Refute it at one input. -/
def fnPacketAcceptTornWrong : ChangeSpec := { name := "fnPacketAcceptTorn", fn := fun _ => fun
  | [d1, d2, d3] => { results := [.lit (.bool false)], args := [d1, d2, d3] }
  | _ => none }
def FnPacketAcceptTornWrongFalsely : Prop := fnPacketAcceptTornRow.holds Tryd.pinned (OpenSpec.ofChange fnPacketAcceptTornWrong)

/-- 'laws.FnIntervalDays': WHATEVER THE INPUT: true; the input reads as it did. -/
def fnIntervalDaysSpec : ChangeSpec := { name := "fnIntervalDays", fn := fun _ => fun
  | [d] => { results := [.lit (.bool true)], args := [d] }
  | _ => none }
def fnIntervalDaysRow : OpenClaim := { program := "ytaohgebiedkdaaadoor", sum := "8257f87303a283bf2a4d79dfbc397ace87c5a911f53945102edc97c977249eff", func := "pub-dodona/laws.FnIntervalDays", spec := "fnIntervalDays", named := ["encoding/binary.BigEndian", "internal/strconv.uint64pow10", "math/bits.deBruijn32tab", "math/bits.deBruijn64tab"], apart := false, laid := [("math/bits.deBruijn32tab", laid_math_bits_deBruijn32tab), ("math/bits.deBruijn64tab", laid_math_bits_deBruijn64tab), ("internal/strconv.uint64pow10", laid_internal_strconv_uint64pow10)] }
def FnIntervalDaysSaid : Prop := fnIntervalDaysRow.holds Tryd.pinned (OpenSpec.ofChange fnIntervalDaysSpec)

/-- ITS FALSE NEIGHBOUR: 'it returns false'. Refute it at one input. -/
def fnIntervalDaysWrong : ChangeSpec := { name := "fnIntervalDays", fn := fun _ => fun
  | [d] => { results := [.lit (.bool false)], args := [d] }
  | _ => none }
def FnIntervalDaysWrongFalsely : Prop := fnIntervalDaysRow.holds Tryd.pinned (OpenSpec.ofChange fnIntervalDaysWrong)

/-- 'laws.FnJoinAnswers': WHATEVER THE INPUT: true; the input reads as it did. -/
def fnJoinAnswersSpec : ChangeSpec := { name := "fnJoinAnswers", fn := fun _ => fun
  | [d1, d2] => { results := [.lit (.bool true)], args := [d1, d2] }
  | _ => none }
def fnJoinAnswersRow : OpenClaim := { program := "ytaohgebiedkdaaadoor", sum := "8257f87303a283bf2a4d79dfbc397ace87c5a911f53945102edc97c977249eff", func := "pub-dodona/laws.FnJoinAnswers", spec := "fnJoinAnswers", named := ["encoding/binary.BigEndian", "bytes.ErrTooLarge"], apart := false, laid := [("bytes.ErrTooLarge", laid_bytes_ErrTooLarge)] }
def FnJoinAnswersSaid : Prop := fnJoinAnswersRow.holds Tryd.pinned (OpenSpec.ofChange fnJoinAnswersSpec)

/-- ITS FALSE NEIGHBOUR: 'it returns false'. Refute it at one input. -/
def fnJoinAnswersWrong : ChangeSpec := { name := "fnJoinAnswers", fn := fun _ => fun
  | [d1, d2] => { results := [.lit (.bool false)], args := [d1, d2] }
  | _ => none }
def FnJoinAnswersWrongFalsely : Prop := fnJoinAnswersRow.holds Tryd.pinned (OpenSpec.ofChange fnJoinAnswersWrong)

/-- 'laws.FnPacketApart': WHATEVER THE INPUT: true; the input reads as it did. -/
def fnPacketApartSpec : ChangeSpec := { name := "fnPacketApart", fn := fun _ => fun
  | [d1, d2, d3, d4] => { results := [.lit (.bool true)], args := [d1, d2, d3, d4] }
  | _ => none }
def fnPacketApartRow : OpenClaim := { program := "ytaohgebiedkdaaadoor", sum := "8257f87303a283bf2a4d79dfbc397ace87c5a911f53945102edc97c977249eff", func := "pub-dodona/laws.FnPacketApart", spec := "fnPacketApart", named := ["encoding/binary.BigEndian", "bytes.ErrTooLarge"], apart := false, laid := [("bytes.ErrTooLarge", laid_bytes_ErrTooLarge)] }
def FnPacketApartSaid : Prop := fnPacketApartRow.holds Tryd.pinned (OpenSpec.ofChange fnPacketApartSpec)

/-- ITS FALSE NEIGHBOUR: 'it returns false'. Refute it at one input. -/
def fnPacketApartWrong : ChangeSpec := { name := "fnPacketApart", fn := fun _ => fun
  | [d1, d2, d3, d4] => { results := [.lit (.bool false)], args := [d1, d2, d3, d4] }
  | _ => none }
def FnPacketApartWrongFalsely : Prop := fnPacketApartRow.holds Tryd.pinned (OpenSpec.ofChange fnPacketApartWrong)

/- THE SECOND FORM. 'bulk': how many values and letters a reading holds, each counted each time it is reached (what is shared counts as often as it is met; a slice's spare places count too). A statement '..UptoSaid' is the law's where the arguments, and the package variables that the reading takes, are together of bulk at most 1048576: NARROWER than '..Said'. Prove '..Said' where nothing that the law and all that it calls make is longer than what came in: it says more and counts as full. Else prove '..UptoSaid'. A law counts once. -/
mutual
def uptoBulk {H : Type} : DataW H → Nat
  | .lit (.string bytes) => bytes.length + 1
  | .lit _ => 1
  | .nil => 1
  | .ptr d => uptoBulk d + 1
  | .slice elems spare => uptoBulkAll elems + uptoBulkAll spare + 1
  | .agg parts => uptoBulkAll parts + 1
  | .iface _ d => uptoBulk d + 1
  | .map entries => uptoBulkEntries entries + 1
  | .held _ => 1
def uptoBulkAll {H : Type} : List (DataW H) → Nat
  | [] => 0
  | d :: r => uptoBulk d + uptoBulkAll r
def uptoBulkEntries {H : Type} : List (Lit × DataW H) → Nat
  | [] => 0
  | x :: r => uptoBulkEntry x + uptoBulkEntries r
def uptoBulkEntry {H : Type} : Lit × DataW H → Nat
  | (.string bytes, d) => bytes.length + uptoBulk d + 1
  | (_, d) => uptoBulk d + 1
 end
def uptoSmall : (H : Type) → List (DataW H) → Bool := fun _ ds => decide (uptoBulkAll ds ≤ 1048576)
def OpenSpec.upto (s : _root_.Go.ChangeSpec) : _root_.Go.OpenSpec := { _root_.Go.OpenSpec.ofChange s with cond := some uptoSmall }

/-- 'laws.FnPacketRedirect', WHERE WHAT IT READS IS OF BULK AT MOST 1048576: true; the input reads as it did. -/
def fnPacketRedirectUptoRow : OpenClaim := { program := "ytaohgebiedkdaaadoor", sum := "8257f87303a283bf2a4d79dfbc397ace87c5a911f53945102edc97c977249eff", func := "pub-dodona/laws.FnPacketRedirect", spec := "fnPacketRedirect", named := ["encoding/binary.BigEndian", "bytes.ErrTooLarge"], apart := false, laid := [("bytes.ErrTooLarge", laid_bytes_ErrTooLarge)], narrowed := true }
def FnPacketRedirectUptoSaid : Prop := fnPacketRedirectUptoRow.holds Tryd.pinned (OpenSpec.upto fnPacketRedirectSpec)

/-- 'laws.FnPacketHeads', WHERE WHAT IT READS IS OF BULK AT MOST 1048576: true; the input reads as it did. -/
def fnPacketHeadsUptoRow : OpenClaim := { program := "ytaohgebiedkdaaadoor", sum := "8257f87303a283bf2a4d79dfbc397ace87c5a911f53945102edc97c977249eff", func := "pub-dodona/laws.FnPacketHeads", spec := "fnPacketHeads", named := ["encoding/binary.BigEndian", "bytes.ErrTooLarge"], apart := false, laid := [("bytes.ErrTooLarge", laid_bytes_ErrTooLarge)], narrowed := true }
def FnPacketHeadsUptoSaid : Prop := fnPacketHeadsUptoRow.holds Tryd.pinned (OpenSpec.upto fnPacketHeadsSpec)

/-- 'laws.FnPacketData', WHERE WHAT IT READS IS OF BULK AT MOST 1048576: true; the input reads as it did. -/
def fnPacketDataUptoRow : OpenClaim := { program := "ytaohgebiedkdaaadoor", sum := "8257f87303a283bf2a4d79dfbc397ace87c5a911f53945102edc97c977249eff", func := "pub-dodona/laws.FnPacketData", spec := "fnPacketData", named := ["encoding/binary.BigEndian", "bytes.ErrTooLarge"], apart := false, laid := [("bytes.ErrTooLarge", laid_bytes_ErrTooLarge)], narrowed := true }
def FnPacketDataUptoSaid : Prop := fnPacketDataUptoRow.holds Tryd.pinned (OpenSpec.upto fnPacketDataSpec)

/-- 'laws.FnPacketLength', WHERE WHAT IT READS IS OF BULK AT MOST 1048576: true; the input reads as it did. -/
def fnPacketLengthUptoRow : OpenClaim := { program := "ytaohgebiedkdaaadoor", sum := "8257f87303a283bf2a4d79dfbc397ace87c5a911f53945102edc97c977249eff", func := "pub-dodona/laws.FnPacketLength", spec := "fnPacketLength", named := ["encoding/binary.BigEndian", "bytes.ErrTooLarge"], apart := false, laid := [("bytes.ErrTooLarge", laid_bytes_ErrTooLarge)], narrowed := true }
def FnPacketLengthUptoSaid : Prop := fnPacketLengthUptoRow.holds Tryd.pinned (OpenSpec.upto fnPacketLengthSpec)

/-- 'laws.FnPacketConnect', WHERE WHAT IT READS IS OF BULK AT MOST 1048576: true; the input reads as it did. -/
def fnPacketConnectUptoRow : OpenClaim := { program := "ytaohgebiedkdaaadoor", sum := "8257f87303a283bf2a4d79dfbc397ace87c5a911f53945102edc97c977249eff", func := "pub-dodona/laws.FnPacketConnect", spec := "fnPacketConnect", named := ["encoding/binary.BigEndian", "bytes.ErrTooLarge"], apart := false, laid := [("bytes.ErrTooLarge", laid_bytes_ErrTooLarge)], narrowed := true }
def FnPacketConnectUptoSaid : Prop := fnPacketConnectUptoRow.holds Tryd.pinned (OpenSpec.upto fnPacketConnectSpec)

/-- 'laws.FnPacketAcceptTorn', WHERE WHAT IT READS IS OF BULK AT MOST 1048576: true; the input reads as it did. -/
def fnPacketAcceptTornUptoRow : OpenClaim := { program := "ytaohgebiedkdaaadoor", sum := "8257f87303a283bf2a4d79dfbc397ace87c5a911f53945102edc97c977249eff", func := "pub-dodona/laws.FnPacketAcceptTorn", spec := "fnPacketAcceptTorn", named := ["encoding/binary.BigEndian", "bytes.ErrTooLarge"], apart := false, laid := [("bytes.ErrTooLarge", laid_bytes_ErrTooLarge)], narrowed := true }
def FnPacketAcceptTornUptoSaid : Prop := fnPacketAcceptTornUptoRow.holds Tryd.pinned (OpenSpec.upto fnPacketAcceptTornSpec)

/-- 'laws.FnIntervalDays', WHERE WHAT IT READS IS OF BULK AT MOST 1048576: true; the input reads as it did. -/
def fnIntervalDaysUptoRow : OpenClaim := { program := "ytaohgebiedkdaaadoor", sum := "8257f87303a283bf2a4d79dfbc397ace87c5a911f53945102edc97c977249eff", func := "pub-dodona/laws.FnIntervalDays", spec := "fnIntervalDays", named := ["encoding/binary.BigEndian", "internal/strconv.uint64pow10", "math/bits.deBruijn32tab", "math/bits.deBruijn64tab"], apart := false, laid := [("math/bits.deBruijn32tab", laid_math_bits_deBruijn32tab), ("math/bits.deBruijn64tab", laid_math_bits_deBruijn64tab), ("internal/strconv.uint64pow10", laid_internal_strconv_uint64pow10)], narrowed := true }
def FnIntervalDaysUptoSaid : Prop := fnIntervalDaysUptoRow.holds Tryd.pinned (OpenSpec.upto fnIntervalDaysSpec)

/-- 'laws.FnJoinAnswers', WHERE WHAT IT READS IS OF BULK AT MOST 1048576: true; the input reads as it did. -/
def fnJoinAnswersUptoRow : OpenClaim := { program := "ytaohgebiedkdaaadoor", sum := "8257f87303a283bf2a4d79dfbc397ace87c5a911f53945102edc97c977249eff", func := "pub-dodona/laws.FnJoinAnswers", spec := "fnJoinAnswers", named := ["encoding/binary.BigEndian", "bytes.ErrTooLarge"], apart := false, laid := [("bytes.ErrTooLarge", laid_bytes_ErrTooLarge)], narrowed := true }
def FnJoinAnswersUptoSaid : Prop := fnJoinAnswersUptoRow.holds Tryd.pinned (OpenSpec.upto fnJoinAnswersSpec)

/-- 'laws.FnPacketApart', WHERE WHAT IT READS IS OF BULK AT MOST 1048576: true; the input reads as it did. -/
def fnPacketApartUptoRow : OpenClaim := { program := "ytaohgebiedkdaaadoor", sum := "8257f87303a283bf2a4d79dfbc397ace87c5a911f53945102edc97c977249eff", func := "pub-dodona/laws.FnPacketApart", spec := "fnPacketApart", named := ["encoding/binary.BigEndian", "bytes.ErrTooLarge"], apart := false, laid := [("bytes.ErrTooLarge", laid_bytes_ErrTooLarge)], narrowed := true }
def FnPacketApartUptoSaid : Prop := fnPacketApartUptoRow.holds Tryd.pinned (OpenSpec.upto fnPacketApartSpec)

end Rows
end Go.Proofs.YtaohgebiedkdaaaDoor
