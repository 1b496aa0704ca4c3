/-
  DERIVED. GIVEN WITH THE SEED: THE CARDS: each row of YtgjfejalinkohaaDoorRows.lean that lists a variable, with what it lists TIED to the program's text (the seventh form; the later family's looks); each row that meets fmt, with fmt's text TOLD by the authors' own Lean function (tested against real Go, not proved from fmt's source: count such statements apart). THE CARD IS WHAT COUNTS. Prove the row's statement (the work); the ties are given (YtgjfejalinkohaaDoorTie.lean); close each card by the builder's one call (the guide's Derived/Test/ToyasCard.lean, 'card_holds'). Laid BY PROGRAM, IN A SANDBOX (cutbox-door.mjs). By AI agents, Wed Nov 11 2026. No macro, syntax, notation, axiom, sorry.
-/
import Derived.Test.YtgjfejalinkohaaDoorRows
import GoSem.ClaimSeven
namespace Go.Proofs.YtgjfejalinkohaaDoor
namespace Rows

/-- THE TIED CARD OF 'laws.FnSessionPairs'. -/
def fnSessionPairsCard : Claim7 := { stood := { row := fnSessionPairsRow, standIns := [], harness := (true, "e897c04b9663731d5634908eb2c8bfa1bd4b62d60f0a8e07d310ad8cf944942b"), looks := true }, kinds := [], alts := [], laidByText := true, laidKinds := [.sentinel, .sentinel], laidTests := true, laidLooks := .later }
def FnSessionPairsCardSaid : Prop := Claim7.holds Tryd.pinned (.plain (OpenSpec.ofChange fnSessionPairsSpec)) fnSessionPairsCard

/-- THE TIED CARD OF 'laws.FnSessionReaders'. -/
def fnSessionReadersCard : Claim7 := { stood := { row := fnSessionReadersRow, standIns := [], harness := (true, "e897c04b9663731d5634908eb2c8bfa1bd4b62d60f0a8e07d310ad8cf944942b"), looks := true }, kinds := [], alts := [], laidByText := true, laidKinds := [.sentinel, .sentinel], laidTests := true, laidLooks := .later }
def FnSessionReadersCardSaid : Prop := Claim7.holds Tryd.pinned (.plain (OpenSpec.ofChange fnSessionReadersSpec)) fnSessionReadersCard

/-- THE TIED CARD OF 'laws.FnSessionShort'. -/
def fnSessionShortCard : Claim7 := { stood := { row := fnSessionShortRow, standIns := [], harness := (true, "e897c04b9663731d5634908eb2c8bfa1bd4b62d60f0a8e07d310ad8cf944942b"), looks := true }, kinds := [], alts := [], laidByText := true, laidKinds := [.sentinel, .sentinel], laidTests := true, laidLooks := .later }
def FnSessionShortCardSaid : Prop := Claim7.holds Tryd.pinned (.plain (OpenSpec.ofChange fnSessionShortSpec)) fnSessionShortCard

/-- THE TIED CARD OF 'laws.FnSessionSigned'. -/
def fnSessionSignedCard : Claim7 := { stood := { row := fnSessionSignedRow, standIns := [], harness := (true, "e897c04b9663731d5634908eb2c8bfa1bd4b62d60f0a8e07d310ad8cf944942b"), looks := true }, kinds := [], alts := [], laidByText := true, laidKinds := [.sentinel, .sentinel], laidTests := true, laidLooks := .later }
def FnSessionSignedCardSaid : Prop := Claim7.holds Tryd.pinned (.plain (OpenSpec.ofChange fnSessionSignedSpec)) fnSessionSignedCard

/-- THE TIED CARD OF 'laws.FnSessionBigParts'. -/
def fnSessionBigPartsCard : Claim7 := { stood := { row := fnSessionBigPartsRow, standIns := [], harness := (true, "e897c04b9663731d5634908eb2c8bfa1bd4b62d60f0a8e07d310ad8cf944942b"), looks := true }, kinds := [], alts := [], laidByText := true, laidKinds := [.sentinel, .sentinel], laidTests := true, laidLooks := .later }
def FnSessionBigPartsCardSaid : Prop := Claim7.holds Tryd.pinned (.plain (OpenSpec.ofChange fnSessionBigPartsSpec)) fnSessionBigPartsCard

/-- THE TIED CARD OF 'laws.FnSessionSizes'. -/
def fnSessionSizesCard : Claim7 := { stood := { row := fnSessionSizesRow, standIns := [], harness := (true, "e897c04b9663731d5634908eb2c8bfa1bd4b62d60f0a8e07d310ad8cf944942b"), looks := true }, kinds := [], alts := [], laidByText := true, laidKinds := [.sentinel, .sentinel], laidTests := true, laidLooks := .later }
def FnSessionSizesCardSaid : Prop := Claim7.holds Tryd.pinned (.plain (OpenSpec.ofChange fnSessionSizesSpec)) fnSessionSizesCard

/-- THE TIED CARD OF 'laws.FnSessionWithin'. -/
def fnSessionWithinCard : Claim7 := { stood := { row := fnSessionWithinRow, standIns := [], harness := (true, "e897c04b9663731d5634908eb2c8bfa1bd4b62d60f0a8e07d310ad8cf944942b"), looks := true }, kinds := [], alts := [], laidByText := true, laidKinds := [.sentinel, .sentinel], laidTests := true, laidLooks := .later }
def FnSessionWithinCardSaid : Prop := Claim7.holds Tryd.pinned (.plain (OpenSpec.ofChange fnSessionWithinSpec)) fnSessionWithinCard

/-- THE TIED CARD OF 'laws.FnSessionFixed'. -/
def fnSessionFixedCard : Claim7 := { stood := { row := fnSessionFixedRow, standIns := [], harness := (true, "e897c04b9663731d5634908eb2c8bfa1bd4b62d60f0a8e07d310ad8cf944942b"), looks := true }, kinds := [], alts := [], laidByText := true, laidKinds := [.sentinel, .sentinel], laidTests := true, laidLooks := .later }
def FnSessionFixedCardSaid : Prop := Claim7.holds Tryd.pinned (.plain (OpenSpec.ofChange fnSessionFixedSpec)) fnSessionFixedCard

/-- THE TIED CARD OF 'laws.FnSessionBack'. -/
def fnSessionBackCard : Claim7 := { stood := { row := fnSessionBackRow, standIns := [], harness := (true, "e897c04b9663731d5634908eb2c8bfa1bd4b62d60f0a8e07d310ad8cf944942b"), looks := true }, kinds := [], alts := [], laidByText := true, laidKinds := [.sentinel, .sentinel], laidTests := true, laidLooks := .later }
def FnSessionBackCardSaid : Prop := Claim7.holds Tryd.pinned (.plain (OpenSpec.ofChange fnSessionBackSpec)) fnSessionBackCard

/-- THE TIED CARD OF 'laws.FnSessionGetApart'. -/
def fnSessionGetApartCard : Claim7 := { stood := { row := fnSessionGetApartRow, standIns := [], harness := (true, "e897c04b9663731d5634908eb2c8bfa1bd4b62d60f0a8e07d310ad8cf944942b"), looks := true }, kinds := [], alts := [], laidByText := true, laidKinds := [.sentinel, .sentinel], laidTests := true, laidLooks := .later }
def FnSessionGetApartCardSaid : Prop := Claim7.holds Tryd.pinned (.plain (OpenSpec.ofChange fnSessionGetApartSpec)) fnSessionGetApartCard

/-- THE SECOND FORM's CARD OF 'laws.FnSessionPairs'. -/
def fnSessionPairsUptoCard : Claim7 := { stood := { row := fnSessionPairsUptoRow, standIns := [], harness := (true, "e897c04b9663731d5634908eb2c8bfa1bd4b62d60f0a8e07d310ad8cf944942b"), looks := true }, kinds := [], alts := [], laidByText := true, laidKinds := [.sentinel, .sentinel], laidTests := true, laidLooks := .later }
def FnSessionPairsUptoCardSaid : Prop := Claim7.holds Tryd.pinned (.plain (OpenSpec.upto fnSessionPairsSpec)) fnSessionPairsUptoCard

/-- THE SECOND FORM's CARD OF 'laws.FnSessionReaders'. -/
def fnSessionReadersUptoCard : Claim7 := { stood := { row := fnSessionReadersUptoRow, standIns := [], harness := (true, "e897c04b9663731d5634908eb2c8bfa1bd4b62d60f0a8e07d310ad8cf944942b"), looks := true }, kinds := [], alts := [], laidByText := true, laidKinds := [.sentinel, .sentinel], laidTests := true, laidLooks := .later }
def FnSessionReadersUptoCardSaid : Prop := Claim7.holds Tryd.pinned (.plain (OpenSpec.upto fnSessionReadersSpec)) fnSessionReadersUptoCard

/-- THE SECOND FORM's CARD OF 'laws.FnSessionShort'. -/
def fnSessionShortUptoCard : Claim7 := { stood := { row := fnSessionShortUptoRow, standIns := [], harness := (true, "e897c04b9663731d5634908eb2c8bfa1bd4b62d60f0a8e07d310ad8cf944942b"), looks := true }, kinds := [], alts := [], laidByText := true, laidKinds := [.sentinel, .sentinel], laidTests := true, laidLooks := .later }
def FnSessionShortUptoCardSaid : Prop := Claim7.holds Tryd.pinned (.plain (OpenSpec.upto fnSessionShortSpec)) fnSessionShortUptoCard

/-- THE SECOND FORM's CARD OF 'laws.FnSessionSigned'. -/
def fnSessionSignedUptoCard : Claim7 := { stood := { row := fnSessionSignedUptoRow, standIns := [], harness := (true, "e897c04b9663731d5634908eb2c8bfa1bd4b62d60f0a8e07d310ad8cf944942b"), looks := true }, kinds := [], alts := [], laidByText := true, laidKinds := [.sentinel, .sentinel], laidTests := true, laidLooks := .later }
def FnSessionSignedUptoCardSaid : Prop := Claim7.holds Tryd.pinned (.plain (OpenSpec.upto fnSessionSignedSpec)) fnSessionSignedUptoCard

/-- THE SECOND FORM's CARD OF 'laws.FnSessionBigParts'. -/
def fnSessionBigPartsUptoCard : Claim7 := { stood := { row := fnSessionBigPartsUptoRow, standIns := [], harness := (true, "e897c04b9663731d5634908eb2c8bfa1bd4b62d60f0a8e07d310ad8cf944942b"), looks := true }, kinds := [], alts := [], laidByText := true, laidKinds := [.sentinel, .sentinel], laidTests := true, laidLooks := .later }
def FnSessionBigPartsUptoCardSaid : Prop := Claim7.holds Tryd.pinned (.plain (OpenSpec.upto fnSessionBigPartsSpec)) fnSessionBigPartsUptoCard

/-- THE SECOND FORM's CARD OF 'laws.FnSessionSizes'. -/
def fnSessionSizesUptoCard : Claim7 := { stood := { row := fnSessionSizesUptoRow, standIns := [], harness := (true, "e897c04b9663731d5634908eb2c8bfa1bd4b62d60f0a8e07d310ad8cf944942b"), looks := true }, kinds := [], alts := [], laidByText := true, laidKinds := [.sentinel, .sentinel], laidTests := true, laidLooks := .later }
def FnSessionSizesUptoCardSaid : Prop := Claim7.holds Tryd.pinned (.plain (OpenSpec.upto fnSessionSizesSpec)) fnSessionSizesUptoCard

/-- THE SECOND FORM's CARD OF 'laws.FnSessionWithin'. -/
def fnSessionWithinUptoCard : Claim7 := { stood := { row := fnSessionWithinUptoRow, standIns := [], harness := (true, "e897c04b9663731d5634908eb2c8bfa1bd4b62d60f0a8e07d310ad8cf944942b"), looks := true }, kinds := [], alts := [], laidByText := true, laidKinds := [.sentinel, .sentinel], laidTests := true, laidLooks := .later }
def FnSessionWithinUptoCardSaid : Prop := Claim7.holds Tryd.pinned (.plain (OpenSpec.upto fnSessionWithinSpec)) fnSessionWithinUptoCard

/-- THE SECOND FORM's CARD OF 'laws.FnSessionFixed'. -/
def fnSessionFixedUptoCard : Claim7 := { stood := { row := fnSessionFixedUptoRow, standIns := [], harness := (true, "e897c04b9663731d5634908eb2c8bfa1bd4b62d60f0a8e07d310ad8cf944942b"), looks := true }, kinds := [], alts := [], laidByText := true, laidKinds := [.sentinel, .sentinel], laidTests := true, laidLooks := .later }
def FnSessionFixedUptoCardSaid : Prop := Claim7.holds Tryd.pinned (.plain (OpenSpec.upto fnSessionFixedSpec)) fnSessionFixedUptoCard

/-- THE SECOND FORM's CARD OF 'laws.FnSessionBack'. -/
def fnSessionBackUptoCard : Claim7 := { stood := { row := fnSessionBackUptoRow, standIns := [], harness := (true, "e897c04b9663731d5634908eb2c8bfa1bd4b62d60f0a8e07d310ad8cf944942b"), looks := true }, kinds := [], alts := [], laidByText := true, laidKinds := [.sentinel, .sentinel], laidTests := true, laidLooks := .later }
def FnSessionBackUptoCardSaid : Prop := Claim7.holds Tryd.pinned (.plain (OpenSpec.upto fnSessionBackSpec)) fnSessionBackUptoCard

/-- THE SECOND FORM's CARD OF 'laws.FnSessionGetApart'. -/
def fnSessionGetApartUptoCard : Claim7 := { stood := { row := fnSessionGetApartUptoRow, standIns := [], harness := (true, "e897c04b9663731d5634908eb2c8bfa1bd4b62d60f0a8e07d310ad8cf944942b"), looks := true }, kinds := [], alts := [], laidByText := true, laidKinds := [.sentinel, .sentinel], laidTests := true, laidLooks := .later }
def FnSessionGetApartUptoCardSaid : Prop := Claim7.holds Tryd.pinned (.plain (OpenSpec.upto fnSessionGetApartSpec)) fnSessionGetApartUptoCard
end Rows
end Go.Proofs.YtgjfejalinkohaaDoor
