/-
  DERIVED. GIVEN WITH THE SEED: THE CARDS: each row of YtaohgebiedkdaaaDoorRows.lean that lists a variable, with what it lists TIED to the program's text (the seventh form; the later family's looks); each row that meets fmt, with fmt's text TOLD by the authors' own Lean function (tested against real Go, not proved from fmt's source: count such statements apart). THE CARD IS WHAT COUNTS. Prove the row's statement (the work); the ties are given (YtaohgebiedkdaaaDoorTie.lean); close each card by the builder's one call (the guide's Derived/Test/ToyasCard.lean, 'card_holds'). Laid BY PROGRAM, IN A SANDBOX (cutbox-door.mjs). By AI agents, Wed Nov 11 2026. No macro, syntax, notation, axiom, sorry.
-/
import Derived.Test.YtaohgebiedkdaaaDoorRows
import GoSem.ClaimSeven
namespace Go.Proofs.YtaohgebiedkdaaaDoor
namespace Rows

/-- THE TIED CARD OF 'laws.FnPacketRedirect'. -/
def fnPacketRedirectCard : Claim7 := { stood := { row := fnPacketRedirectRow, standIns := [], harness := (true, "42c1f6b607ff4e8a23f8da3001b6d06cefc7b8fe939e6b166a87443f3071cf08"), looks := false }, kinds := [], alts := [], laidByText := true, laidKinds := [.sentinel], laidTests := true, laidLooks := .later }
def FnPacketRedirectCardSaid : Prop := Claim7.holds Tryd.pinned (.plain (OpenSpec.ofChange fnPacketRedirectSpec)) fnPacketRedirectCard

/-- THE TIED CARD OF 'laws.FnPacketHeads'. -/
def fnPacketHeadsCard : Claim7 := { stood := { row := fnPacketHeadsRow, standIns := [], harness := (true, "42c1f6b607ff4e8a23f8da3001b6d06cefc7b8fe939e6b166a87443f3071cf08"), looks := false }, kinds := [], alts := [], laidByText := true, laidKinds := [.sentinel], laidTests := true, laidLooks := .later }
def FnPacketHeadsCardSaid : Prop := Claim7.holds Tryd.pinned (.plain (OpenSpec.ofChange fnPacketHeadsSpec)) fnPacketHeadsCard

/-- THE TIED CARD OF 'laws.FnPacketData'. -/
def fnPacketDataCard : Claim7 := { stood := { row := fnPacketDataRow, standIns := [], harness := (true, "42c1f6b607ff4e8a23f8da3001b6d06cefc7b8fe939e6b166a87443f3071cf08"), looks := false }, kinds := [], alts := [], laidByText := true, laidKinds := [.sentinel], laidTests := true, laidLooks := .later }
def FnPacketDataCardSaid : Prop := Claim7.holds Tryd.pinned (.plain (OpenSpec.ofChange fnPacketDataSpec)) fnPacketDataCard

/-- THE TIED CARD OF 'laws.FnPacketLength'. -/
def fnPacketLengthCard : Claim7 := { stood := { row := fnPacketLengthRow, standIns := [], harness := (true, "42c1f6b607ff4e8a23f8da3001b6d06cefc7b8fe939e6b166a87443f3071cf08"), looks := false }, kinds := [], alts := [], laidByText := true, laidKinds := [.sentinel], laidTests := true, laidLooks := .later }
def FnPacketLengthCardSaid : Prop := Claim7.holds Tryd.pinned (.plain (OpenSpec.ofChange fnPacketLengthSpec)) fnPacketLengthCard

/-- THE TIED CARD OF 'laws.FnPacketConnect'. -/
def fnPacketConnectCard : Claim7 := { stood := { row := fnPacketConnectRow, standIns := [], harness := (true, "42c1f6b607ff4e8a23f8da3001b6d06cefc7b8fe939e6b166a87443f3071cf08"), looks := false }, kinds := [], alts := [], laidByText := true, laidKinds := [.sentinel], laidTests := true, laidLooks := .later }
def FnPacketConnectCardSaid : Prop := Claim7.holds Tryd.pinned (.plain (OpenSpec.ofChange fnPacketConnectSpec)) fnPacketConnectCard

/-- THE TIED CARD OF 'laws.FnPacketAcceptTorn'. -/
def fnPacketAcceptTornCard : Claim7 := { stood := { row := fnPacketAcceptTornRow, standIns := [], harness := (true, "42c1f6b607ff4e8a23f8da3001b6d06cefc7b8fe939e6b166a87443f3071cf08"), looks := false }, kinds := [], alts := [], laidByText := true, laidKinds := [.sentinel], laidTests := true, laidLooks := .later }
def FnPacketAcceptTornCardSaid : Prop := Claim7.holds Tryd.pinned (.plain (OpenSpec.ofChange fnPacketAcceptTornSpec)) fnPacketAcceptTornCard

/-- THE TIED CARD OF 'laws.FnIntervalDays'. -/
def fnIntervalDaysCard : Claim7 := { stood := { row := fnIntervalDaysRow, standIns := [], harness := (true, "42c1f6b607ff4e8a23f8da3001b6d06cefc7b8fe939e6b166a87443f3071cf08"), looks := false }, kinds := [], alts := [], laidByText := true, laidKinds := [.data, .data, .data], laidTests := true, laidLooks := .later }
def FnIntervalDaysCardSaid : Prop := Claim7.holds Tryd.pinned (.plain (OpenSpec.ofChange fnIntervalDaysSpec)) fnIntervalDaysCard

/-- THE TIED CARD OF 'laws.FnJoinAnswers'. -/
def fnJoinAnswersCard : Claim7 := { stood := { row := fnJoinAnswersRow, standIns := [], harness := (true, "42c1f6b607ff4e8a23f8da3001b6d06cefc7b8fe939e6b166a87443f3071cf08"), looks := false }, kinds := [], alts := [], laidByText := true, laidKinds := [.sentinel], laidTests := true, laidLooks := .later }
def FnJoinAnswersCardSaid : Prop := Claim7.holds Tryd.pinned (.plain (OpenSpec.ofChange fnJoinAnswersSpec)) fnJoinAnswersCard

/-- THE TIED CARD OF 'laws.FnPacketApart'. -/
def fnPacketApartCard : Claim7 := { stood := { row := fnPacketApartRow, standIns := [], harness := (true, "42c1f6b607ff4e8a23f8da3001b6d06cefc7b8fe939e6b166a87443f3071cf08"), looks := false }, kinds := [], alts := [], laidByText := true, laidKinds := [.sentinel], laidTests := true, laidLooks := .later }
def FnPacketApartCardSaid : Prop := Claim7.holds Tryd.pinned (.plain (OpenSpec.ofChange fnPacketApartSpec)) fnPacketApartCard

/-- THE SECOND FORM's CARD OF 'laws.FnPacketRedirect'. -/
def fnPacketRedirectUptoCard : Claim7 := { stood := { row := fnPacketRedirectUptoRow, standIns := [], harness := (true, "42c1f6b607ff4e8a23f8da3001b6d06cefc7b8fe939e6b166a87443f3071cf08"), looks := false }, kinds := [], alts := [], laidByText := true, laidKinds := [.sentinel], laidTests := true, laidLooks := .later }
def FnPacketRedirectUptoCardSaid : Prop := Claim7.holds Tryd.pinned (.plain (OpenSpec.upto fnPacketRedirectSpec)) fnPacketRedirectUptoCard

/-- THE SECOND FORM's CARD OF 'laws.FnPacketHeads'. -/
def fnPacketHeadsUptoCard : Claim7 := { stood := { row := fnPacketHeadsUptoRow, standIns := [], harness := (true, "42c1f6b607ff4e8a23f8da3001b6d06cefc7b8fe939e6b166a87443f3071cf08"), looks := false }, kinds := [], alts := [], laidByText := true, laidKinds := [.sentinel], laidTests := true, laidLooks := .later }
def FnPacketHeadsUptoCardSaid : Prop := Claim7.holds Tryd.pinned (.plain (OpenSpec.upto fnPacketHeadsSpec)) fnPacketHeadsUptoCard

/-- THE SECOND FORM's CARD OF 'laws.FnPacketData'. -/
def fnPacketDataUptoCard : Claim7 := { stood := { row := fnPacketDataUptoRow, standIns := [], harness := (true, "42c1f6b607ff4e8a23f8da3001b6d06cefc7b8fe939e6b166a87443f3071cf08"), looks := false }, kinds := [], alts := [], laidByText := true, laidKinds := [.sentinel], laidTests := true, laidLooks := .later }
def FnPacketDataUptoCardSaid : Prop := Claim7.holds Tryd.pinned (.plain (OpenSpec.upto fnPacketDataSpec)) fnPacketDataUptoCard

/-- THE SECOND FORM's CARD OF 'laws.FnPacketLength'. -/
def fnPacketLengthUptoCard : Claim7 := { stood := { row := fnPacketLengthUptoRow, standIns := [], harness := (true, "42c1f6b607ff4e8a23f8da3001b6d06cefc7b8fe939e6b166a87443f3071cf08"), looks := false }, kinds := [], alts := [], laidByText := true, laidKinds := [.sentinel], laidTests := true, laidLooks := .later }
def FnPacketLengthUptoCardSaid : Prop := Claim7.holds Tryd.pinned (.plain (OpenSpec.upto fnPacketLengthSpec)) fnPacketLengthUptoCard

/-- THE SECOND FORM's CARD OF 'laws.FnPacketConnect'. -/
def fnPacketConnectUptoCard : Claim7 := { stood := { row := fnPacketConnectUptoRow, standIns := [], harness := (true, "42c1f6b607ff4e8a23f8da3001b6d06cefc7b8fe939e6b166a87443f3071cf08"), looks := false }, kinds := [], alts := [], laidByText := true, laidKinds := [.sentinel], laidTests := true, laidLooks := .later }
def FnPacketConnectUptoCardSaid : Prop := Claim7.holds Tryd.pinned (.plain (OpenSpec.upto fnPacketConnectSpec)) fnPacketConnectUptoCard

/-- THE SECOND FORM's CARD OF 'laws.FnPacketAcceptTorn'. -/
def fnPacketAcceptTornUptoCard : Claim7 := { stood := { row := fnPacketAcceptTornUptoRow, standIns := [], harness := (true, "42c1f6b607ff4e8a23f8da3001b6d06cefc7b8fe939e6b166a87443f3071cf08"), looks := false }, kinds := [], alts := [], laidByText := true, laidKinds := [.sentinel], laidTests := true, laidLooks := .later }
def FnPacketAcceptTornUptoCardSaid : Prop := Claim7.holds Tryd.pinned (.plain (OpenSpec.upto fnPacketAcceptTornSpec)) fnPacketAcceptTornUptoCard

/-- THE SECOND FORM's CARD OF 'laws.FnIntervalDays'. -/
def fnIntervalDaysUptoCard : Claim7 := { stood := { row := fnIntervalDaysUptoRow, standIns := [], harness := (true, "42c1f6b607ff4e8a23f8da3001b6d06cefc7b8fe939e6b166a87443f3071cf08"), looks := false }, kinds := [], alts := [], laidByText := true, laidKinds := [.data, .data, .data], laidTests := true, laidLooks := .later }
def FnIntervalDaysUptoCardSaid : Prop := Claim7.holds Tryd.pinned (.plain (OpenSpec.upto fnIntervalDaysSpec)) fnIntervalDaysUptoCard

/-- THE SECOND FORM's CARD OF 'laws.FnJoinAnswers'. -/
def fnJoinAnswersUptoCard : Claim7 := { stood := { row := fnJoinAnswersUptoRow, standIns := [], harness := (true, "42c1f6b607ff4e8a23f8da3001b6d06cefc7b8fe939e6b166a87443f3071cf08"), looks := false }, kinds := [], alts := [], laidByText := true, laidKinds := [.sentinel], laidTests := true, laidLooks := .later }
def FnJoinAnswersUptoCardSaid : Prop := Claim7.holds Tryd.pinned (.plain (OpenSpec.upto fnJoinAnswersSpec)) fnJoinAnswersUptoCard

/-- THE SECOND FORM's CARD OF 'laws.FnPacketApart'. -/
def fnPacketApartUptoCard : Claim7 := { stood := { row := fnPacketApartUptoRow, standIns := [], harness := (true, "42c1f6b607ff4e8a23f8da3001b6d06cefc7b8fe939e6b166a87443f3071cf08"), looks := false }, kinds := [], alts := [], laidByText := true, laidKinds := [.sentinel], laidTests := true, laidLooks := .later }
def FnPacketApartUptoCardSaid : Prop := Claim7.holds Tryd.pinned (.plain (OpenSpec.upto fnPacketApartSpec)) fnPacketApartUptoCard
end Rows
end Go.Proofs.YtaohgebiedkdaaaDoor
