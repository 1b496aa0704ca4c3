/-
  NARROWER THAN 'FOR EVERY INPUT', by the rows' own cells (each row's printed sentence says how): FnPacketAcceptTorn: laid · FnSessionGetApart: laid.
  DERIVED. THE GIVEN ROWS OF THIS SEAT. 2 by the template 'for every input the law returns true; each argument reads behind the call as it read before'; 0 by the template 'total and deterministic' (their statements: YtacmnibhdmeidaaDoorTotals.lean).
  GIVEN WITH THE SEED: the statements are not yours to turn. If you find one false, say at which input.
  Laid BY PROGRAM, IN A SANDBOX (cutbox-rows.mjs): the forced cells as the released guide's own fill.sh prints them over the translation ea415b9ce7b58455… (all of the seat's roots in one cut). By AI agents, Wed Nov 11 2026. No macro, syntax, notation, axiom, sorry.
-/
import Derived.Test.YtacmnibhdmeidaaDoorChecked
import GoSem.Claim
import GoSem.ClaimJoined
import GoSem.ClaimMapViews
import Derived.JoinedTies
import Derived.KernelRfl
namespace Go.Proofs.YtacmnibhdmeidaaDoor
/- THE CELL 'sum', in the pinned program and in every row, IS THE sha256 OF THE DUMP (.gsa) THAT YtacmnibhdmeidaaDoorProg.lean LOADS. Nothing in Lean hashes anything: it is a label: what it is worth is what the hold of that sum in a sandbox is worth. -/
noncomputable def Tryd.pinned : Pinned := { name := "ytacmnibhdmeidaadoor", sum := "ea415b9ce7b58455e31ee9aff71eb9d6b3c945409681ceaf899e815b61b3d066", checked := Tryd.checked }
namespace Rows
def none {H : Type} : Left H := { results := [], args := [] }

/- WHAT THE LISTED PACKAGE-LEVEL VARIABLES READ AS WHEN THE CALL BEGINS. Each datum BY PROGRAM (the guide's laid-datum.mjs) off the statement by which the dump's own 'gosem.cut.vars' lays the variable. In a bare row this is a premise. The card (YtacmnibhdmeidaaDoorCards.lean) ties it to the program's text. -/
def laid_bytes_ErrTooLarge {H : Type} : DataW H := .iface "*errors.errorString" (.ptr (.agg [.lit (.string [98, 121, 116, 101, 115, 46, 66, 117, 102, 102, 101, 114, 58, 32, 116, 111, 111, 32, 108, 97, 114, 103, 101])]))
def laid_pub_dodona_pub_goora_network_errEnd {H : Type} : DataW H := .iface "*errors.errorString" (.ptr (.agg [.lit (.string [110, 111, 32, 109, 111, 114, 101, 32, 105, 110, 112, 117, 116])]))

/-- 'laws.FnPacketAcceptTorn': WHATEVER THE INPUT: true; the input reads as it did. -/
def fnPacketAcceptTornSpec : ChangeSpec := { name := "fnPacketAcceptTorn", fn := fun _ => fun
  | [d1, d2, d3] => { results := [.lit (.bool true)], args := [d1, d2, d3] }
  | _ => none }
def fnPacketAcceptTornRow : OpenClaim := { program := "ytacmnibhdmeidaadoor", sum := "ea415b9ce7b58455e31ee9aff71eb9d6b3c945409681ceaf899e815b61b3d066", func := "pub-dodona/laws.FnPacketAcceptTorn", spec := "fnPacketAcceptTorn", named := ["encoding/binary.BigEndian", "bytes.ErrTooLarge"], apart := false, laid := [("bytes.ErrTooLarge", laid_bytes_ErrTooLarge)] }
def FnPacketAcceptTornSaid : Prop := fnPacketAcceptTornRow.holds Tryd.pinned (OpenSpec.ofChange fnPacketAcceptTornSpec)

/-- ITS FALSE NEIGHBOUR: 'it returns false'. Refute it at one input. -/
def fnPacketAcceptTornWrong : ChangeSpec := { name := "fnPacketAcceptTorn", fn := fun _ => fun
  | [d1, d2, d3] => { results := [.lit (.bool false)], args := [d1, d2, d3] }
  | _ => none }
def FnPacketAcceptTornWrongFalsely : Prop := fnPacketAcceptTornRow.holds Tryd.pinned (OpenSpec.ofChange fnPacketAcceptTornWrong)

/-- 'laws.FnSessionGetApart': WHATEVER THE INPUT: true; the input reads as it did. -/
def fnSessionGetApartSpec : ChangeSpec := { name := "fnSessionGetApart", fn := fun _ => fun
  | [d1, d2, d3, d4] => { results := [.lit (.bool true)], args := [d1, d2, d3, d4] }
  | _ => none }
def fnSessionGetApartRow : OpenClaim := { program := "ytacmnibhdmeidaadoor", sum := "ea415b9ce7b58455e31ee9aff71eb9d6b3c945409681ceaf899e815b61b3d066", func := "pub-dodona/laws.FnSessionGetApart", spec := "fnSessionGetApart", unfollowed := true, recurses := true, named := ["bytes.ErrTooLarge", "encoding/binary.BigEndian", "encoding/binary.LittleEndian", "pub-dodona/pub/goora/network.errEnd"], apart := false, laid := [("bytes.ErrTooLarge", laid_bytes_ErrTooLarge), ("pub-dodona/pub/goora/network.errEnd", laid_pub_dodona_pub_goora_network_errEnd)] }
def FnSessionGetApartSaid : Prop := fnSessionGetApartRow.holds Tryd.pinned (OpenSpec.ofChange fnSessionGetApartSpec)

/-- ITS FALSE NEIGHBOUR: 'it returns false'. Refute it at one input. -/
def fnSessionGetApartWrong : ChangeSpec := { name := "fnSessionGetApart", fn := fun _ => fun
  | [d1, d2, d3, d4] => { results := [.lit (.bool false)], args := [d1, d2, d3, d4] }
  | _ => none }
def FnSessionGetApartWrongFalsely : Prop := fnSessionGetApartRow.holds Tryd.pinned (OpenSpec.ofChange fnSessionGetApartWrong)

/- THE SECOND FORM. 'bulk': how many values and letters a reading holds, each counted each time it is reached (what is shared counts as often as it is met; a slice's spare places count too). A statement '..UptoSaid' is the law's where the arguments, and the package variables that the reading takes, are together of bulk at most 1048576: NARROWER than '..Said'. Prove '..Said' where nothing that the law and all that it calls make is longer than what came in: it says more and counts as full. Else prove '..UptoSaid'. A law counts once. -/
mutual
def uptoBulk {H : Type} : DataW H → Nat
  | .lit (.string bytes) => bytes.length + 1
  | .lit _ => 1
  | .nil => 1
  | .ptr d => uptoBulk d + 1
  | .slice elems spare => uptoBulkAll elems + uptoBulkAll spare + 1
  | .agg parts => uptoBulkAll parts + 1
  | .iface _ d => uptoBulk d + 1
  | .map entries => uptoBulkEntries entries + 1
  | .held _ => 1
def uptoBulkAll {H : Type} : List (DataW H) → Nat
  | [] => 0
  | d :: r => uptoBulk d + uptoBulkAll r
def uptoBulkEntries {H : Type} : List (Lit × DataW H) → Nat
  | [] => 0
  | x :: r => uptoBulkEntry x + uptoBulkEntries r
def uptoBulkEntry {H : Type} : Lit × DataW H → Nat
  | (.string bytes, d) => bytes.length + uptoBulk d + 1
  | (_, d) => uptoBulk d + 1
 end
def uptoSmall : (H : Type) → List (DataW H) → Bool := fun _ ds => decide (uptoBulkAll ds ≤ 1048576)
def OpenSpec.upto (s : _root_.Go.ChangeSpec) : _root_.Go.OpenSpec := { _root_.Go.OpenSpec.ofChange s with cond := some uptoSmall }

/-- 'laws.FnPacketAcceptTorn', WHERE WHAT IT READS IS OF BULK AT MOST 1048576: true; the input reads as it did. -/
def fnPacketAcceptTornUptoRow : OpenClaim := { program := "ytacmnibhdmeidaadoor", sum := "ea415b9ce7b58455e31ee9aff71eb9d6b3c945409681ceaf899e815b61b3d066", func := "pub-dodona/laws.FnPacketAcceptTorn", spec := "fnPacketAcceptTorn", named := ["encoding/binary.BigEndian", "bytes.ErrTooLarge"], apart := false, laid := [("bytes.ErrTooLarge", laid_bytes_ErrTooLarge)], narrowed := true }
def FnPacketAcceptTornUptoSaid : Prop := fnPacketAcceptTornUptoRow.holds Tryd.pinned (OpenSpec.upto fnPacketAcceptTornSpec)

/-- 'laws.FnSessionGetApart', WHERE WHAT IT READS IS OF BULK AT MOST 1048576: true; the input reads as it did. -/
def fnSessionGetApartUptoRow : OpenClaim := { program := "ytacmnibhdmeidaadoor", sum := "ea415b9ce7b58455e31ee9aff71eb9d6b3c945409681ceaf899e815b61b3d066", func := "pub-dodona/laws.FnSessionGetApart", spec := "fnSessionGetApart", unfollowed := true, recurses := true, named := ["bytes.ErrTooLarge", "encoding/binary.BigEndian", "encoding/binary.LittleEndian", "pub-dodona/pub/goora/network.errEnd"], apart := false, laid := [("bytes.ErrTooLarge", laid_bytes_ErrTooLarge), ("pub-dodona/pub/goora/network.errEnd", laid_pub_dodona_pub_goora_network_errEnd)], narrowed := true }
def FnSessionGetApartUptoSaid : Prop := fnSessionGetApartUptoRow.holds Tryd.pinned (OpenSpec.upto fnSessionGetApartSpec)

end Rows
end Go.Proofs.YtacmnibhdmeidaaDoor
