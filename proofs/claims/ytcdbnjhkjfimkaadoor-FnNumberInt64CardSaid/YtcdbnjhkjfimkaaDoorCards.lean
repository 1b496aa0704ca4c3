/-
  DERIVED. GIVEN WITH THE SEED: THE CARDS: each row of YtcdbnjhkjfimkaaDoorRows.lean that lists a variable, with what it lists TIED to the program's text (the seventh form; the later family's looks); each row that meets fmt, with fmt's text TOLD by the authors' own Lean function (tested against real Go, not proved from fmt's source: count such statements apart). THE CARD IS WHAT COUNTS. Prove the row's statement (the work); the ties are given (YtcdbnjhkjfimkaaDoorTie.lean); close each card by the builder's one call (the guide's Derived/Test/ToyasCard.lean, 'card_holds'). Laid BY PROGRAM, IN A SANDBOX (cutbox-door.mjs). By AI agents, Wed Nov 11 2026. No macro, syntax, notation, axiom, sorry.
-/
import Derived.Test.YtcdbnjhkjfimkaaDoorRows
import GoSem.ClaimSeven
namespace Go.Proofs.YtcdbnjhkjfimkaaDoor
namespace Rows

/-- THE TIED CARD OF 'laws.FnPacketAcceptTorn'. -/
def fnPacketAcceptTornCard : Claim7 := { stood := { row := fnPacketAcceptTornRow, standIns := [], harness := (true, "d3a94b98fb968e0a7ee3784f241dbd1d9cdaec85715697f2ec9450e8b10dcf03"), looks := true }, kinds := [], alts := [], laidByText := true, laidKinds := [.sentinel], laidTests := true, laidLooks := .later }
def FnPacketAcceptTornCardSaid : Prop := Claim7.holds Tryd.pinned (.plain (OpenSpec.ofChange fnPacketAcceptTornSpec)) fnPacketAcceptTornCard

/-- THE TIED CARD OF 'laws.FnNumberInt64'. -/
def fnNumberInt64Card : Claim7 := { stood := { row := fnNumberInt64Row, standIns := [], harness := (true, "d3a94b98fb968e0a7ee3784f241dbd1d9cdaec85715697f2ec9450e8b10dcf03"), looks := true }, kinds := [], alts := [], laidByText := true, laidKinds := [.data, .data, .data], laidTests := true, laidLooks := .later }
def FnNumberInt64CardSaid : Prop := Claim7.holds Tryd.pinned (.plain (OpenSpec.ofChange fnNumberInt64Spec)) fnNumberInt64Card

/-- THE TIED CARD OF 'laws.FnNumberRead'. -/
def fnNumberReadCard : Claim7 := { stood := { row := fnNumberReadRow, standIns := [], harness := (true, "d3a94b98fb968e0a7ee3784f241dbd1d9cdaec85715697f2ec9450e8b10dcf03"), looks := true }, kinds := [], alts := [], laidByText := true, laidKinds := [.data, .data, .data], laidTests := true, laidLooks := .later }
def FnNumberReadCardSaid : Prop := Claim7.holds Tryd.pinned (.plain (OpenSpec.ofChange fnNumberReadSpec)) fnNumberReadCard

/-- THE TIED CARD OF 'laws.FnNumberText'. -/
def fnNumberTextCard : Claim7 := { stood := { row := fnNumberTextRow, standIns := [], harness := (true, "d3a94b98fb968e0a7ee3784f241dbd1d9cdaec85715697f2ec9450e8b10dcf03"), looks := true }, kinds := [], alts := [], laidByText := true, laidKinds := [.data, .data, .data], laidTests := true, laidLooks := .later }
def FnNumberTextCardSaid : Prop := Claim7.holds Tryd.pinned (.plain (OpenSpec.ofChange fnNumberTextSpec)) fnNumberTextCard

/-- THE TIED CARD OF 'laws.FnNumberTexts'. -/
def fnNumberTextsCard : Claim7 := { stood := { row := fnNumberTextsRow, standIns := [], harness := (true, "d3a94b98fb968e0a7ee3784f241dbd1d9cdaec85715697f2ec9450e8b10dcf03"), looks := true }, kinds := [], alts := [], laidByText := true, laidKinds := [.data, .data, .data], laidTests := true, laidLooks := .later }
def FnNumberTextsCardSaid : Prop := Claim7.holds Tryd.pinned (.plain (OpenSpec.ofChange fnNumberTextsSpec)) fnNumberTextsCard

/-- THE TIED CARD OF 'laws.FnSessionGetApart'. -/
def fnSessionGetApartCard : Claim7 := { stood := { row := fnSessionGetApartRow, standIns := [], harness := (true, "d3a94b98fb968e0a7ee3784f241dbd1d9cdaec85715697f2ec9450e8b10dcf03"), looks := true }, kinds := [], alts := [], laidByText := true, laidKinds := [.sentinel, .sentinel], laidTests := true, laidLooks := .later }
def FnSessionGetApartCardSaid : Prop := Claim7.holds Tryd.pinned (.plain (OpenSpec.ofChange fnSessionGetApartSpec)) fnSessionGetApartCard

/-- THE TIED CARD OF 'laws.FnUrlJdbc'. -/
def fnUrlJdbcCard : Claim7 := { stood := { row := fnUrlJdbcRow, standIns := [], harness := (true, "d3a94b98fb968e0a7ee3784f241dbd1d9cdaec85715697f2ec9450e8b10dcf03"), looks := true }, kinds := [], alts := [], laidByText := true, laidKinds := [.data, .data, .data, .data, .listed, .data, .data, .pinned, .pinned], laidTests := true, laidLooks := .later }
def FnUrlJdbcCardSaid : Prop := Claim7.holds Tryd.pinned (.plain (OpenSpec.ofChange fnUrlJdbcSpec)) fnUrlJdbcCard

/-- THE TIED CARD OF 'laws.FnUrlValue'. -/
def fnUrlValueCard : Claim7 := { stood := { row := fnUrlValueRow, standIns := [], harness := (true, "d3a94b98fb968e0a7ee3784f241dbd1d9cdaec85715697f2ec9450e8b10dcf03"), looks := true }, kinds := [], alts := [], laidByText := true, laidKinds := [.data, .data, .data, .data, .sentinel, .sentinel, .listed, .data, .data, .pinned, .pinned], laidTests := true, laidLooks := .later }
def FnUrlValueCardSaid : Prop := Claim7.holds Tryd.pinned (.plain (OpenSpec.ofChange fnUrlValueSpec)) fnUrlValueCard

/-- THE SECOND FORM's CARD OF 'laws.FnPacketAcceptTorn'. -/
def fnPacketAcceptTornUptoCard : Claim7 := { stood := { row := fnPacketAcceptTornUptoRow, standIns := [], harness := (true, "d3a94b98fb968e0a7ee3784f241dbd1d9cdaec85715697f2ec9450e8b10dcf03"), looks := true }, kinds := [], alts := [], laidByText := true, laidKinds := [.sentinel], laidTests := true, laidLooks := .later }
def FnPacketAcceptTornUptoCardSaid : Prop := Claim7.holds Tryd.pinned (.plain (OpenSpec.upto fnPacketAcceptTornSpec)) fnPacketAcceptTornUptoCard

/-- THE SECOND FORM's CARD OF 'laws.FnNumberInt64'. -/
def fnNumberInt64UptoCard : Claim7 := { stood := { row := fnNumberInt64UptoRow, standIns := [], harness := (true, "d3a94b98fb968e0a7ee3784f241dbd1d9cdaec85715697f2ec9450e8b10dcf03"), looks := true }, kinds := [], alts := [], laidByText := true, laidKinds := [.data, .data, .data], laidTests := true, laidLooks := .later }
def FnNumberInt64UptoCardSaid : Prop := Claim7.holds Tryd.pinned (.plain (OpenSpec.upto fnNumberInt64Spec)) fnNumberInt64UptoCard

/-- THE SECOND FORM's CARD OF 'laws.FnNumberRead'. -/
def fnNumberReadUptoCard : Claim7 := { stood := { row := fnNumberReadUptoRow, standIns := [], harness := (true, "d3a94b98fb968e0a7ee3784f241dbd1d9cdaec85715697f2ec9450e8b10dcf03"), looks := true }, kinds := [], alts := [], laidByText := true, laidKinds := [.data, .data, .data], laidTests := true, laidLooks := .later }
def FnNumberReadUptoCardSaid : Prop := Claim7.holds Tryd.pinned (.plain (OpenSpec.upto fnNumberReadSpec)) fnNumberReadUptoCard

/-- THE SECOND FORM's CARD OF 'laws.FnNumberText'. -/
def fnNumberTextUptoCard : Claim7 := { stood := { row := fnNumberTextUptoRow, standIns := [], harness := (true, "d3a94b98fb968e0a7ee3784f241dbd1d9cdaec85715697f2ec9450e8b10dcf03"), looks := true }, kinds := [], alts := [], laidByText := true, laidKinds := [.data, .data, .data], laidTests := true, laidLooks := .later }
def FnNumberTextUptoCardSaid : Prop := Claim7.holds Tryd.pinned (.plain (OpenSpec.upto fnNumberTextSpec)) fnNumberTextUptoCard

/-- THE SECOND FORM's CARD OF 'laws.FnNumberTexts'. -/
def fnNumberTextsUptoCard : Claim7 := { stood := { row := fnNumberTextsUptoRow, standIns := [], harness := (true, "d3a94b98fb968e0a7ee3784f241dbd1d9cdaec85715697f2ec9450e8b10dcf03"), looks := true }, kinds := [], alts := [], laidByText := true, laidKinds := [.data, .data, .data], laidTests := true, laidLooks := .later }
def FnNumberTextsUptoCardSaid : Prop := Claim7.holds Tryd.pinned (.plain (OpenSpec.upto fnNumberTextsSpec)) fnNumberTextsUptoCard

/-- THE SECOND FORM's CARD OF 'laws.FnSessionGetApart'. -/
def fnSessionGetApartUptoCard : Claim7 := { stood := { row := fnSessionGetApartUptoRow, standIns := [], harness := (true, "d3a94b98fb968e0a7ee3784f241dbd1d9cdaec85715697f2ec9450e8b10dcf03"), looks := true }, kinds := [], alts := [], laidByText := true, laidKinds := [.sentinel, .sentinel], laidTests := true, laidLooks := .later }
def FnSessionGetApartUptoCardSaid : Prop := Claim7.holds Tryd.pinned (.plain (OpenSpec.upto fnSessionGetApartSpec)) fnSessionGetApartUptoCard

/-- THE SECOND FORM's CARD OF 'laws.FnUrlJdbc'. -/
def fnUrlJdbcUptoCard : Claim7 := { stood := { row := fnUrlJdbcUptoRow, standIns := [], harness := (true, "d3a94b98fb968e0a7ee3784f241dbd1d9cdaec85715697f2ec9450e8b10dcf03"), looks := true }, kinds := [], alts := [], laidByText := true, laidKinds := [.data, .data, .data, .data, .listed, .data, .data, .pinned, .pinned], laidTests := true, laidLooks := .later }
def FnUrlJdbcUptoCardSaid : Prop := Claim7.holds Tryd.pinned (.plain (OpenSpec.upto fnUrlJdbcSpec)) fnUrlJdbcUptoCard

/-- THE SECOND FORM's CARD OF 'laws.FnUrlValue'. -/
def fnUrlValueUptoCard : Claim7 := { stood := { row := fnUrlValueUptoRow, standIns := [], harness := (true, "d3a94b98fb968e0a7ee3784f241dbd1d9cdaec85715697f2ec9450e8b10dcf03"), looks := true }, kinds := [], alts := [], laidByText := true, laidKinds := [.data, .data, .data, .data, .sentinel, .sentinel, .listed, .data, .data, .pinned, .pinned], laidTests := true, laidLooks := .later }
def FnUrlValueUptoCardSaid : Prop := Claim7.holds Tryd.pinned (.plain (OpenSpec.upto fnUrlValueSpec)) fnUrlValueUptoCard
end Rows
end Go.Proofs.YtcdbnjhkjfimkaaDoor
