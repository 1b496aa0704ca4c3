/-
  NARROWER THAN 'FOR EVERY INPUT', by the rows' own cells (each row's printed sentence says how): FnSessionPairs: laid · FnSessionReaders: laid · FnSessionShort: laid · FnSessionSigned: laid · FnSessionBigParts: laid · FnSessionSizes: laid · FnSessionWithin: laid · FnSessionFixed: laid · FnSessionBack: laid · FnSessionGetApart: laid.
  DERIVED. THE GIVEN ROWS OF THIS SEAT. 10 by the template 'for every input the law returns true; each argument reads behind the call as it read before'; 0 by the template 'total and deterministic' (their statements: YtgjfejalinkohaaDoorTotals.lean).
  GIVEN WITH THE SEED: the statements are not yours to turn. If you find one false, say at which input.
  Laid BY PROGRAM, IN A SANDBOX (cutbox-rows.mjs): the forced cells as the released guide's own fill.sh prints them over the translation f05da5071ef9b993… (all of the seat's roots in one cut). By AI agents, Wed Nov 11 2026. No macro, syntax, notation, axiom, sorry.
-/
import Derived.Test.YtgjfejalinkohaaDoorChecked
import GoSem.Claim
import GoSem.ClaimJoined
import GoSem.ClaimMapViews
import Derived.JoinedTies
import Derived.KernelRfl
namespace Go.Proofs.YtgjfejalinkohaaDoor
/- THE CELL 'sum', in the pinned program and in every row, IS THE sha256 OF THE DUMP (.gsa) THAT YtgjfejalinkohaaDoorProg.lean LOADS. Nothing in Lean hashes anything: it is a label: what it is worth is what the hold of that sum in a sandbox is worth. -/
noncomputable def Tryd.pinned : Pinned := { name := "ytgjfejalinkohaadoor", sum := "f05da5071ef9b993955428a6e44a5eb95cd72d7543289646fb04a76c3b023ced", checked := Tryd.checked }
namespace Rows
def none {H : Type} : Left H := { results := [], args := [] }

/- WHAT THE LISTED PACKAGE-LEVEL VARIABLES READ AS WHEN THE CALL BEGINS. Each datum BY PROGRAM (the guide's laid-datum.mjs) off the statement by which the dump's own 'gosem.cut.vars' lays the variable. In a bare row this is a premise. The card (YtgjfejalinkohaaDoorCards.lean) ties it to the program's text. -/
def laid_bytes_ErrTooLarge {H : Type} : DataW H := .iface "*errors.errorString" (.ptr (.agg [.lit (.string [98, 121, 116, 101, 115, 46, 66, 117, 102, 102, 101, 114, 58, 32, 116, 111, 111, 32, 108, 97, 114, 103, 101])]))
def laid_pub_dodona_pub_goora_network_errEnd {H : Type} : DataW H := .iface "*errors.errorString" (.ptr (.agg [.lit (.string [110, 111, 32, 109, 111, 114, 101, 32, 105, 110, 112, 117, 116])]))

/-- 'laws.FnSessionPairs': WHATEVER THE INPUT: true; the input reads as it did. -/
def fnSessionPairsSpec : ChangeSpec := { name := "fnSessionPairs", fn := fun _ => fun
  | [d1, d2, d3, d4] => { results := [.lit (.bool true)], args := [d1, d2, d3, d4] }
  | _ => none }
def fnSessionPairsRow : OpenClaim := { program := "ytgjfejalinkohaadoor", sum := "f05da5071ef9b993955428a6e44a5eb95cd72d7543289646fb04a76c3b023ced", func := "pub-dodona/laws.FnSessionPairs", spec := "fnSessionPairs", named := ["bytes.ErrTooLarge", "encoding/binary.BigEndian", "encoding/binary.LittleEndian", "pub-dodona/pub/goora/network.errEnd"], apart := false, laid := [("bytes.ErrTooLarge", laid_bytes_ErrTooLarge), ("pub-dodona/pub/goora/network.errEnd", laid_pub_dodona_pub_goora_network_errEnd)] }
def FnSessionPairsSaid : Prop := fnSessionPairsRow.holds Tryd.pinned (OpenSpec.ofChange fnSessionPairsSpec)

/-- ITS FALSE NEIGHBOUR: 'it returns false'. Refute it at one input. -/
def fnSessionPairsWrong : ChangeSpec := { name := "fnSessionPairs", fn := fun _ => fun
  | [d1, d2, d3, d4] => { results := [.lit (.bool false)], args := [d1, d2, d3, d4] }
  | _ => none }
def FnSessionPairsWrongFalsely : Prop := fnSessionPairsRow.holds Tryd.pinned (OpenSpec.ofChange fnSessionPairsWrong)

/-- 'laws.FnSessionReaders': WHATEVER THE INPUT: true; the input reads as it did. -/
def fnSessionReadersSpec : ChangeSpec := { name := "fnSessionReaders", fn := fun _ => fun
  | [d1, d2, d3, d4] => { results := [.lit (.bool true)], args := [d1, d2, d3, d4] }
  | _ => none }
def fnSessionReadersRow : OpenClaim := { program := "ytgjfejalinkohaadoor", sum := "f05da5071ef9b993955428a6e44a5eb95cd72d7543289646fb04a76c3b023ced", func := "pub-dodona/laws.FnSessionReaders", spec := "fnSessionReaders", named := ["bytes.ErrTooLarge", "encoding/binary.BigEndian", "encoding/binary.LittleEndian", "pub-dodona/pub/goora/network.errEnd"], apart := false, laid := [("bytes.ErrTooLarge", laid_bytes_ErrTooLarge), ("pub-dodona/pub/goora/network.errEnd", laid_pub_dodona_pub_goora_network_errEnd)] }
def FnSessionReadersSaid : Prop := fnSessionReadersRow.holds Tryd.pinned (OpenSpec.ofChange fnSessionReadersSpec)

/-- ITS FALSE NEIGHBOUR: 'it returns false'. Refute it at one input. -/
def fnSessionReadersWrong : ChangeSpec := { name := "fnSessionReaders", fn := fun _ => fun
  | [d1, d2, d3, d4] => { results := [.lit (.bool false)], args := [d1, d2, d3, d4] }
  | _ => none }
def FnSessionReadersWrongFalsely : Prop := fnSessionReadersRow.holds Tryd.pinned (OpenSpec.ofChange fnSessionReadersWrong)

/-- 'laws.FnSessionShort': WHATEVER THE INPUT: true; the input reads as it did. -/
def fnSessionShortSpec : ChangeSpec := { name := "fnSessionShort", fn := fun _ => fun
  | [d1, d2, d3] => { results := [.lit (.bool true)], args := [d1, d2, d3] }
  | _ => none }
def fnSessionShortRow : OpenClaim := { program := "ytgjfejalinkohaadoor", sum := "f05da5071ef9b993955428a6e44a5eb95cd72d7543289646fb04a76c3b023ced", func := "pub-dodona/laws.FnSessionShort", spec := "fnSessionShort", named := ["bytes.ErrTooLarge", "encoding/binary.BigEndian", "encoding/binary.LittleEndian", "pub-dodona/pub/goora/network.errEnd"], apart := false, laid := [("bytes.ErrTooLarge", laid_bytes_ErrTooLarge), ("pub-dodona/pub/goora/network.errEnd", laid_pub_dodona_pub_goora_network_errEnd)] }
def FnSessionShortSaid : Prop := fnSessionShortRow.holds Tryd.pinned (OpenSpec.ofChange fnSessionShortSpec)

/-- ITS FALSE NEIGHBOUR: 'it returns false'. Refute it at one input. -/
def fnSessionShortWrong : ChangeSpec := { name := "fnSessionShort", fn := fun _ => fun
  | [d1, d2, d3] => { results := [.lit (.bool false)], args := [d1, d2, d3] }
  | _ => none }
def FnSessionShortWrongFalsely : Prop := fnSessionShortRow.holds Tryd.pinned (OpenSpec.ofChange fnSessionShortWrong)

/-- 'laws.FnSessionSigned': WHATEVER THE INPUT: true; the input reads as it did. -/
def fnSessionSignedSpec : ChangeSpec := { name := "fnSessionSigned", fn := fun _ => fun
  | [d1, d2, d3, d4] => { results := [.lit (.bool true)], args := [d1, d2, d3, d4] }
  | _ => none }
def fnSessionSignedRow : OpenClaim := { program := "ytgjfejalinkohaadoor", sum := "f05da5071ef9b993955428a6e44a5eb95cd72d7543289646fb04a76c3b023ced", func := "pub-dodona/laws.FnSessionSigned", spec := "fnSessionSigned", named := ["bytes.ErrTooLarge", "encoding/binary.BigEndian", "encoding/binary.LittleEndian", "pub-dodona/pub/goora/network.errEnd"], apart := false, laid := [("bytes.ErrTooLarge", laid_bytes_ErrTooLarge), ("pub-dodona/pub/goora/network.errEnd", laid_pub_dodona_pub_goora_network_errEnd)] }
def FnSessionSignedSaid : Prop := fnSessionSignedRow.holds Tryd.pinned (OpenSpec.ofChange fnSessionSignedSpec)

/-- ITS FALSE NEIGHBOUR: 'it returns false'. Refute it at one input. -/
def fnSessionSignedWrong : ChangeSpec := { name := "fnSessionSigned", fn := fun _ => fun
  | [d1, d2, d3, d4] => { results := [.lit (.bool false)], args := [d1, d2, d3, d4] }
  | _ => none }
def FnSessionSignedWrongFalsely : Prop := fnSessionSignedRow.holds Tryd.pinned (OpenSpec.ofChange fnSessionSignedWrong)

/-- 'laws.FnSessionBigParts': WHATEVER THE INPUT: true; the input reads as it did. -/
def fnSessionBigPartsSpec : ChangeSpec := { name := "fnSessionBigParts", fn := fun _ => fun
  | [d1, d2] => { results := [.lit (.bool true)], args := [d1, d2] }
  | _ => none }
def fnSessionBigPartsRow : OpenClaim := { program := "ytgjfejalinkohaadoor", sum := "f05da5071ef9b993955428a6e44a5eb95cd72d7543289646fb04a76c3b023ced", func := "pub-dodona/laws.FnSessionBigParts", spec := "fnSessionBigParts", named := ["bytes.ErrTooLarge", "encoding/binary.BigEndian", "encoding/binary.LittleEndian", "pub-dodona/pub/goora/network.errEnd"], apart := false, laid := [("bytes.ErrTooLarge", laid_bytes_ErrTooLarge), ("pub-dodona/pub/goora/network.errEnd", laid_pub_dodona_pub_goora_network_errEnd)] }
def FnSessionBigPartsSaid : Prop := fnSessionBigPartsRow.holds Tryd.pinned (OpenSpec.ofChange fnSessionBigPartsSpec)

/-- ITS FALSE NEIGHBOUR: 'it returns false'. Refute it at one input. -/
def fnSessionBigPartsWrong : ChangeSpec := { name := "fnSessionBigParts", fn := fun _ => fun
  | [d1, d2] => { results := [.lit (.bool false)], args := [d1, d2] }
  | _ => none }
def FnSessionBigPartsWrongFalsely : Prop := fnSessionBigPartsRow.holds Tryd.pinned (OpenSpec.ofChange fnSessionBigPartsWrong)

/-- 'laws.FnSessionSizes': WHATEVER THE INPUT: true; the input reads as it did. -/
def fnSessionSizesSpec : ChangeSpec := { name := "fnSessionSizes", fn := fun _ => fun
  | [d1, d2] => { results := [.lit (.bool true)], args := [d1, d2] }
  | _ => none }
def fnSessionSizesRow : OpenClaim := { program := "ytgjfejalinkohaadoor", sum := "f05da5071ef9b993955428a6e44a5eb95cd72d7543289646fb04a76c3b023ced", func := "pub-dodona/laws.FnSessionSizes", spec := "fnSessionSizes", unfollowed := true, recurses := true, named := ["bytes.ErrTooLarge", "encoding/binary.BigEndian", "encoding/binary.LittleEndian", "pub-dodona/pub/goora/network.errEnd"], apart := false, laid := [("bytes.ErrTooLarge", laid_bytes_ErrTooLarge), ("pub-dodona/pub/goora/network.errEnd", laid_pub_dodona_pub_goora_network_errEnd)] }
def FnSessionSizesSaid : Prop := fnSessionSizesRow.holds Tryd.pinned (OpenSpec.ofChange fnSessionSizesSpec)

/-- ITS FALSE NEIGHBOUR: 'it returns false'. Refute it at one input. -/
def fnSessionSizesWrong : ChangeSpec := { name := "fnSessionSizes", fn := fun _ => fun
  | [d1, d2] => { results := [.lit (.bool false)], args := [d1, d2] }
  | _ => none }
def FnSessionSizesWrongFalsely : Prop := fnSessionSizesRow.holds Tryd.pinned (OpenSpec.ofChange fnSessionSizesWrong)

/-- 'laws.FnSessionWithin': WHATEVER THE INPUT: true; the input reads as it did. -/
def fnSessionWithinSpec : ChangeSpec := { name := "fnSessionWithin", fn := fun _ => fun
  | [d1, d2, d3] => { results := [.lit (.bool true)], args := [d1, d2, d3] }
  | _ => none }
def fnSessionWithinRow : OpenClaim := { program := "ytgjfejalinkohaadoor", sum := "f05da5071ef9b993955428a6e44a5eb95cd72d7543289646fb04a76c3b023ced", func := "pub-dodona/laws.FnSessionWithin", spec := "fnSessionWithin", unfollowed := true, recurses := true, named := ["bytes.ErrTooLarge", "encoding/binary.BigEndian", "encoding/binary.LittleEndian", "pub-dodona/pub/goora/network.errEnd"], apart := false, laid := [("bytes.ErrTooLarge", laid_bytes_ErrTooLarge), ("pub-dodona/pub/goora/network.errEnd", laid_pub_dodona_pub_goora_network_errEnd)] }
def FnSessionWithinSaid : Prop := fnSessionWithinRow.holds Tryd.pinned (OpenSpec.ofChange fnSessionWithinSpec)

/-- ITS FALSE NEIGHBOUR: 'it returns false'. Refute it at one input. -/
def fnSessionWithinWrong : ChangeSpec := { name := "fnSessionWithin", fn := fun _ => fun
  | [d1, d2, d3] => { results := [.lit (.bool false)], args := [d1, d2, d3] }
  | _ => none }
def FnSessionWithinWrongFalsely : Prop := fnSessionWithinRow.holds Tryd.pinned (OpenSpec.ofChange fnSessionWithinWrong)

/-- 'laws.FnSessionFixed': WHATEVER THE INPUT: true; the input reads as it did. -/
def fnSessionFixedSpec : ChangeSpec := { name := "fnSessionFixed", fn := fun _ => fun
  | [d1, d2] => { results := [.lit (.bool true)], args := [d1, d2] }
  | _ => none }
def fnSessionFixedRow : OpenClaim := { program := "ytgjfejalinkohaadoor", sum := "f05da5071ef9b993955428a6e44a5eb95cd72d7543289646fb04a76c3b023ced", func := "pub-dodona/laws.FnSessionFixed", spec := "fnSessionFixed", named := ["bytes.ErrTooLarge", "encoding/binary.BigEndian", "encoding/binary.LittleEndian", "pub-dodona/pub/goora/network.errEnd"], apart := false, laid := [("bytes.ErrTooLarge", laid_bytes_ErrTooLarge), ("pub-dodona/pub/goora/network.errEnd", laid_pub_dodona_pub_goora_network_errEnd)] }
def FnSessionFixedSaid : Prop := fnSessionFixedRow.holds Tryd.pinned (OpenSpec.ofChange fnSessionFixedSpec)

/-- ITS FALSE NEIGHBOUR: 'it returns false'. Refute it at one input. -/
def fnSessionFixedWrong : ChangeSpec := { name := "fnSessionFixed", fn := fun _ => fun
  | [d1, d2] => { results := [.lit (.bool false)], args := [d1, d2] }
  | _ => none }
def FnSessionFixedWrongFalsely : Prop := fnSessionFixedRow.holds Tryd.pinned (OpenSpec.ofChange fnSessionFixedWrong)

/-- 'laws.FnSessionBack': WHATEVER THE INPUT: true; the input reads as it did. -/
def fnSessionBackSpec : ChangeSpec := { name := "fnSessionBack", fn := fun _ => fun
  | [d1, d2, d3, d4] => { results := [.lit (.bool true)], args := [d1, d2, d3, d4] }
  | _ => none }
def fnSessionBackRow : OpenClaim := { program := "ytgjfejalinkohaadoor", sum := "f05da5071ef9b993955428a6e44a5eb95cd72d7543289646fb04a76c3b023ced", func := "pub-dodona/laws.FnSessionBack", spec := "fnSessionBack", unfollowed := true, recurses := true, named := ["bytes.ErrTooLarge", "encoding/binary.BigEndian", "encoding/binary.LittleEndian", "pub-dodona/pub/goora/network.errEnd"], apart := false, laid := [("bytes.ErrTooLarge", laid_bytes_ErrTooLarge), ("pub-dodona/pub/goora/network.errEnd", laid_pub_dodona_pub_goora_network_errEnd)] }
def FnSessionBackSaid : Prop := fnSessionBackRow.holds Tryd.pinned (OpenSpec.ofChange fnSessionBackSpec)

/-- ITS FALSE NEIGHBOUR: 'it returns false'. Refute it at one input. -/
def fnSessionBackWrong : ChangeSpec := { name := "fnSessionBack", fn := fun _ => fun
  | [d1, d2, d3, d4] => { results := [.lit (.bool false)], args := [d1, d2, d3, d4] }
  | _ => none }
def FnSessionBackWrongFalsely : Prop := fnSessionBackRow.holds Tryd.pinned (OpenSpec.ofChange fnSessionBackWrong)

/-- 'laws.FnSessionGetApart': WHATEVER THE INPUT: true; the input reads as it did. -/
def fnSessionGetApartSpec : ChangeSpec := { name := "fnSessionGetApart", fn := fun _ => fun
  | [d1, d2, d3, d4] => { results := [.lit (.bool true)], args := [d1, d2, d3, d4] }
  | _ => none }
def fnSessionGetApartRow : OpenClaim := { program := "ytgjfejalinkohaadoor", sum := "f05da5071ef9b993955428a6e44a5eb95cd72d7543289646fb04a76c3b023ced", func := "pub-dodona/laws.FnSessionGetApart", spec := "fnSessionGetApart", unfollowed := true, recurses := true, named := ["bytes.ErrTooLarge", "encoding/binary.BigEndian", "encoding/binary.LittleEndian", "pub-dodona/pub/goora/network.errEnd"], apart := false, laid := [("bytes.ErrTooLarge", laid_bytes_ErrTooLarge), ("pub-dodona/pub/goora/network.errEnd", laid_pub_dodona_pub_goora_network_errEnd)] }
def FnSessionGetApartSaid : Prop := fnSessionGetApartRow.holds Tryd.pinned (OpenSpec.ofChange fnSessionGetApartSpec)

/-- ITS FALSE NEIGHBOUR: 'it returns false'. Refute it at one input. -/
def fnSessionGetApartWrong : ChangeSpec := { name := "fnSessionGetApart", fn := fun _ => fun
  | [d1, d2, d3, d4] => { results := [.lit (.bool false)], args := [d1, d2, d3, d4] }
  | _ => none }
def FnSessionGetApartWrongFalsely : Prop := fnSessionGetApartRow.holds Tryd.pinned (OpenSpec.ofChange fnSessionGetApartWrong)

/- THE SECOND FORM. 'bulk': how many values and letters a reading holds, each counted each time it is reached (what is shared counts as often as it is met; a slice's spare places count too). A statement '..UptoSaid' is the law's where the arguments, and the package variables that the reading takes, are together of bulk at most 1048576: NARROWER than '..Said'. Prove '..Said' where nothing that the law and all that it calls make is longer than what came in: it says more and counts as full. Else prove '..UptoSaid'. A law counts once. -/
mutual
def uptoBulk {H : Type} : DataW H → Nat
  | .lit (.string bytes) => bytes.length + 1
  | .lit _ => 1
  | .nil => 1
  | .ptr d => uptoBulk d + 1
  | .slice elems spare => uptoBulkAll elems + uptoBulkAll spare + 1
  | .agg parts => uptoBulkAll parts + 1
  | .iface _ d => uptoBulk d + 1
  | .map entries => uptoBulkEntries entries + 1
  | .held _ => 1
def uptoBulkAll {H : Type} : List (DataW H) → Nat
  | [] => 0
  | d :: r => uptoBulk d + uptoBulkAll r
def uptoBulkEntries {H : Type} : List (Lit × DataW H) → Nat
  | [] => 0
  | x :: r => uptoBulkEntry x + uptoBulkEntries r
def uptoBulkEntry {H : Type} : Lit × DataW H → Nat
  | (.string bytes, d) => bytes.length + uptoBulk d + 1
  | (_, d) => uptoBulk d + 1
 end
def uptoSmall : (H : Type) → List (DataW H) → Bool := fun _ ds => decide (uptoBulkAll ds ≤ 1048576)
def OpenSpec.upto (s : _root_.Go.ChangeSpec) : _root_.Go.OpenSpec := { _root_.Go.OpenSpec.ofChange s with cond := some uptoSmall }

/-- 'laws.FnSessionPairs', WHERE WHAT IT READS IS OF BULK AT MOST 1048576: true; the input reads as it did. -/
def fnSessionPairsUptoRow : OpenClaim := { program := "ytgjfejalinkohaadoor", sum := "f05da5071ef9b993955428a6e44a5eb95cd72d7543289646fb04a76c3b023ced", func := "pub-dodona/laws.FnSessionPairs", spec := "fnSessionPairs", named := ["bytes.ErrTooLarge", "encoding/binary.BigEndian", "encoding/binary.LittleEndian", "pub-dodona/pub/goora/network.errEnd"], apart := false, laid := [("bytes.ErrTooLarge", laid_bytes_ErrTooLarge), ("pub-dodona/pub/goora/network.errEnd", laid_pub_dodona_pub_goora_network_errEnd)], narrowed := true }
def FnSessionPairsUptoSaid : Prop := fnSessionPairsUptoRow.holds Tryd.pinned (OpenSpec.upto fnSessionPairsSpec)

/-- 'laws.FnSessionReaders', WHERE WHAT IT READS IS OF BULK AT MOST 1048576: true; the input reads as it did. -/
def fnSessionReadersUptoRow : OpenClaim := { program := "ytgjfejalinkohaadoor", sum := "f05da5071ef9b993955428a6e44a5eb95cd72d7543289646fb04a76c3b023ced", func := "pub-dodona/laws.FnSessionReaders", spec := "fnSessionReaders", named := ["bytes.ErrTooLarge", "encoding/binary.BigEndian", "encoding/binary.LittleEndian", "pub-dodona/pub/goora/network.errEnd"], apart := false, laid := [("bytes.ErrTooLarge", laid_bytes_ErrTooLarge), ("pub-dodona/pub/goora/network.errEnd", laid_pub_dodona_pub_goora_network_errEnd)], narrowed := true }
def FnSessionReadersUptoSaid : Prop := fnSessionReadersUptoRow.holds Tryd.pinned (OpenSpec.upto fnSessionReadersSpec)

/-- 'laws.FnSessionShort', WHERE WHAT IT READS IS OF BULK AT MOST 1048576: true; the input reads as it did. -/
def fnSessionShortUptoRow : OpenClaim := { program := "ytgjfejalinkohaadoor", sum := "f05da5071ef9b993955428a6e44a5eb95cd72d7543289646fb04a76c3b023ced", func := "pub-dodona/laws.FnSessionShort", spec := "fnSessionShort", named := ["bytes.ErrTooLarge", "encoding/binary.BigEndian", "encoding/binary.LittleEndian", "pub-dodona/pub/goora/network.errEnd"], apart := false, laid := [("bytes.ErrTooLarge", laid_bytes_ErrTooLarge), ("pub-dodona/pub/goora/network.errEnd", laid_pub_dodona_pub_goora_network_errEnd)], narrowed := true }
def FnSessionShortUptoSaid : Prop := fnSessionShortUptoRow.holds Tryd.pinned (OpenSpec.upto fnSessionShortSpec)

/-- 'laws.FnSessionSigned', WHERE WHAT IT READS IS OF BULK AT MOST 1048576: true; the input reads as it did. -/
def fnSessionSignedUptoRow : OpenClaim := { program := "ytgjfejalinkohaadoor", sum := "f05da5071ef9b993955428a6e44a5eb95cd72d7543289646fb04a76c3b023ced", func := "pub-dodona/laws.FnSessionSigned", spec := "fnSessionSigned", named := ["bytes.ErrTooLarge", "encoding/binary.BigEndian", "encoding/binary.LittleEndian", "pub-dodona/pub/goora/network.errEnd"], apart := false, laid := [("bytes.ErrTooLarge", laid_bytes_ErrTooLarge), ("pub-dodona/pub/goora/network.errEnd", laid_pub_dodona_pub_goora_network_errEnd)], narrowed := true }
def FnSessionSignedUptoSaid : Prop := fnSessionSignedUptoRow.holds Tryd.pinned (OpenSpec.upto fnSessionSignedSpec)

/-- 'laws.FnSessionBigParts', WHERE WHAT IT READS IS OF BULK AT MOST 1048576: true; the input reads as it did. -/
def fnSessionBigPartsUptoRow : OpenClaim := { program := "ytgjfejalinkohaadoor", sum := "f05da5071ef9b993955428a6e44a5eb95cd72d7543289646fb04a76c3b023ced", func := "pub-dodona/laws.FnSessionBigParts", spec := "fnSessionBigParts", named := ["bytes.ErrTooLarge", "encoding/binary.BigEndian", "encoding/binary.LittleEndian", "pub-dodona/pub/goora/network.errEnd"], apart := false, laid := [("bytes.ErrTooLarge", laid_bytes_ErrTooLarge), ("pub-dodona/pub/goora/network.errEnd", laid_pub_dodona_pub_goora_network_errEnd)], narrowed := true }
def FnSessionBigPartsUptoSaid : Prop := fnSessionBigPartsUptoRow.holds Tryd.pinned (OpenSpec.upto fnSessionBigPartsSpec)

/-- 'laws.FnSessionSizes', WHERE WHAT IT READS IS OF BULK AT MOST 1048576: true; the input reads as it did. -/
def fnSessionSizesUptoRow : OpenClaim := { program := "ytgjfejalinkohaadoor", sum := "f05da5071ef9b993955428a6e44a5eb95cd72d7543289646fb04a76c3b023ced", func := "pub-dodona/laws.FnSessionSizes", spec := "fnSessionSizes", unfollowed := true, recurses := true, named := ["bytes.ErrTooLarge", "encoding/binary.BigEndian", "encoding/binary.LittleEndian", "pub-dodona/pub/goora/network.errEnd"], apart := false, laid := [("bytes.ErrTooLarge", laid_bytes_ErrTooLarge), ("pub-dodona/pub/goora/network.errEnd", laid_pub_dodona_pub_goora_network_errEnd)], narrowed := true }
def FnSessionSizesUptoSaid : Prop := fnSessionSizesUptoRow.holds Tryd.pinned (OpenSpec.upto fnSessionSizesSpec)

/-- 'laws.FnSessionWithin', WHERE WHAT IT READS IS OF BULK AT MOST 1048576: true; the input reads as it did. -/
def fnSessionWithinUptoRow : OpenClaim := { program := "ytgjfejalinkohaadoor", sum := "f05da5071ef9b993955428a6e44a5eb95cd72d7543289646fb04a76c3b023ced", func := "pub-dodona/laws.FnSessionWithin", spec := "fnSessionWithin", unfollowed := true, recurses := true, named := ["bytes.ErrTooLarge", "encoding/binary.BigEndian", "encoding/binary.LittleEndian", "pub-dodona/pub/goora/network.errEnd"], apart := false, laid := [("bytes.ErrTooLarge", laid_bytes_ErrTooLarge), ("pub-dodona/pub/goora/network.errEnd", laid_pub_dodona_pub_goora_network_errEnd)], narrowed := true }
def FnSessionWithinUptoSaid : Prop := fnSessionWithinUptoRow.holds Tryd.pinned (OpenSpec.upto fnSessionWithinSpec)

/-- 'laws.FnSessionFixed', WHERE WHAT IT READS IS OF BULK AT MOST 1048576: true; the input reads as it did. -/
def fnSessionFixedUptoRow : OpenClaim := { program := "ytgjfejalinkohaadoor", sum := "f05da5071ef9b993955428a6e44a5eb95cd72d7543289646fb04a76c3b023ced", func := "pub-dodona/laws.FnSessionFixed", spec := "fnSessionFixed", named := ["bytes.ErrTooLarge", "encoding/binary.BigEndian", "encoding/binary.LittleEndian", "pub-dodona/pub/goora/network.errEnd"], apart := false, laid := [("bytes.ErrTooLarge", laid_bytes_ErrTooLarge), ("pub-dodona/pub/goora/network.errEnd", laid_pub_dodona_pub_goora_network_errEnd)], narrowed := true }
def FnSessionFixedUptoSaid : Prop := fnSessionFixedUptoRow.holds Tryd.pinned (OpenSpec.upto fnSessionFixedSpec)

/-- 'laws.FnSessionBack', WHERE WHAT IT READS IS OF BULK AT MOST 1048576: true; the input reads as it did. -/
def fnSessionBackUptoRow : OpenClaim := { program := "ytgjfejalinkohaadoor", sum := "f05da5071ef9b993955428a6e44a5eb95cd72d7543289646fb04a76c3b023ced", func := "pub-dodona/laws.FnSessionBack", spec := "fnSessionBack", unfollowed := true, recurses := true, named := ["bytes.ErrTooLarge", "encoding/binary.BigEndian", "encoding/binary.LittleEndian", "pub-dodona/pub/goora/network.errEnd"], apart := false, laid := [("bytes.ErrTooLarge", laid_bytes_ErrTooLarge), ("pub-dodona/pub/goora/network.errEnd", laid_pub_dodona_pub_goora_network_errEnd)], narrowed := true }
def FnSessionBackUptoSaid : Prop := fnSessionBackUptoRow.holds Tryd.pinned (OpenSpec.upto fnSessionBackSpec)

/-- 'laws.FnSessionGetApart', WHERE WHAT IT READS IS OF BULK AT MOST 1048576: true; the input reads as it did. -/
def fnSessionGetApartUptoRow : OpenClaim := { program := "ytgjfejalinkohaadoor", sum := "f05da5071ef9b993955428a6e44a5eb95cd72d7543289646fb04a76c3b023ced", func := "pub-dodona/laws.FnSessionGetApart", spec := "fnSessionGetApart", unfollowed := true, recurses := true, named := ["bytes.ErrTooLarge", "encoding/binary.BigEndian", "encoding/binary.LittleEndian", "pub-dodona/pub/goora/network.errEnd"], apart := false, laid := [("bytes.ErrTooLarge", laid_bytes_ErrTooLarge), ("pub-dodona/pub/goora/network.errEnd", laid_pub_dodona_pub_goora_network_errEnd)], narrowed := true }
def FnSessionGetApartUptoSaid : Prop := fnSessionGetApartUptoRow.holds Tryd.pinned (OpenSpec.upto fnSessionGetApartSpec)

end Rows
end Go.Proofs.YtgjfejalinkohaaDoor
