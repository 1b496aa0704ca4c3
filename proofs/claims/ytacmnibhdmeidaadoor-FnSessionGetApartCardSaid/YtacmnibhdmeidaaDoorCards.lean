/-
  DERIVED. GIVEN WITH THE SEED: THE CARDS: each row of YtacmnibhdmeidaaDoorRows.lean that lists a variable, with what it lists TIED to the program's text (the seventh form; the later family's looks); each row that meets fmt, with fmt's text TOLD by the authors' own Lean function (tested against real Go, not proved from fmt's source: count such statements apart). THE CARD IS WHAT COUNTS. Prove the row's statement (the work); the ties are given (YtacmnibhdmeidaaDoorTie.lean); close each card by the builder's one call (the guide's Derived/Test/ToyasCard.lean, 'card_holds'). Laid BY PROGRAM, IN A SANDBOX (cutbox-door.mjs). By AI agents, Wed Nov 11 2026. No macro, syntax, notation, axiom, sorry.
-/
import Derived.Test.YtacmnibhdmeidaaDoorRows
import GoSem.ClaimSeven
namespace Go.Proofs.YtacmnibhdmeidaaDoor
namespace Rows

/-- THE TIED CARD OF 'laws.FnPacketAcceptTorn'. -/
def fnPacketAcceptTornCard : Claim7 := { stood := { row := fnPacketAcceptTornRow, standIns := [], harness := (true, "bfe665c836c59b59655a5905268271cb43a1682c96e48750f9f2ebfa1293bc97"), looks := true }, kinds := [], alts := [], laidByText := true, laidKinds := [.sentinel], laidTests := true, laidLooks := .later }
def FnPacketAcceptTornCardSaid : Prop := Claim7.holds Tryd.pinned (.plain (OpenSpec.ofChange fnPacketAcceptTornSpec)) fnPacketAcceptTornCard

/-- THE TIED CARD OF 'laws.FnSessionGetApart'. -/
def fnSessionGetApartCard : Claim7 := { stood := { row := fnSessionGetApartRow, standIns := [], harness := (true, "bfe665c836c59b59655a5905268271cb43a1682c96e48750f9f2ebfa1293bc97"), looks := true }, kinds := [], alts := [], laidByText := true, laidKinds := [.sentinel, .sentinel], laidTests := true, laidLooks := .later }
def FnSessionGetApartCardSaid : Prop := Claim7.holds Tryd.pinned (.plain (OpenSpec.ofChange fnSessionGetApartSpec)) fnSessionGetApartCard

/-- THE SECOND FORM's CARD OF 'laws.FnPacketAcceptTorn'. -/
def fnPacketAcceptTornUptoCard : Claim7 := { stood := { row := fnPacketAcceptTornUptoRow, standIns := [], harness := (true, "bfe665c836c59b59655a5905268271cb43a1682c96e48750f9f2ebfa1293bc97"), looks := true }, kinds := [], alts := [], laidByText := true, laidKinds := [.sentinel], laidTests := true, laidLooks := .later }
def FnPacketAcceptTornUptoCardSaid : Prop := Claim7.holds Tryd.pinned (.plain (OpenSpec.upto fnPacketAcceptTornSpec)) fnPacketAcceptTornUptoCard

/-- THE SECOND FORM's CARD OF 'laws.FnSessionGetApart'. -/
def fnSessionGetApartUptoCard : Claim7 := { stood := { row := fnSessionGetApartUptoRow, standIns := [], harness := (true, "bfe665c836c59b59655a5905268271cb43a1682c96e48750f9f2ebfa1293bc97"), looks := true }, kinds := [], alts := [], laidByText := true, laidKinds := [.sentinel, .sentinel], laidTests := true, laidLooks := .later }
def FnSessionGetApartUptoCardSaid : Prop := Claim7.holds Tryd.pinned (.plain (OpenSpec.upto fnSessionGetApartSpec)) fnSessionGetApartUptoCard
end Rows
end Go.Proofs.YtacmnibhdmeidaaDoor
