/-
  DERIVED. GIVEN WITH THE SEED: THE CARDS: each row of YtiahmmecekfjhaaDoorRows.lean that lists a variable, with what it lists TIED to the program's text (the seventh form; the later family's looks); each row that meets fmt, with fmt's text TOLD by the authors' own Lean function (tested against real Go, not proved from fmt's source: count such statements apart). THE CARD IS WHAT COUNTS. Prove the row's statement (the work); the ties are given (YtiahmmecekfjhaaDoorTie.lean); close each card by the builder's one call (the guide's Derived/Test/ToyasCard.lean, 'card_holds'). Laid BY PROGRAM, IN A SANDBOX (cutbox-door.mjs). By AI agents, Wed Nov 11 2026. No macro, syntax, notation, axiom, sorry.
-/
import Derived.Test.YtiahmmecekfjhaaDoorRows
import GoSem.ClaimSeven
namespace Go.Proofs.YtiahmmecekfjhaaDoor
namespace Rows

/-- THE TIED CARD OF 'laws.FnNumberTens'. -/
def fnNumberTensCard : Claim7 := { stood := { row := fnNumberTensRow, standIns := [], harness := (true, "12d56b3f9834cf57954a7a771890df23421b777f600ea4bf03c4a31529f2bdf0"), looks := false }, kinds := [], alts := [], laidByText := true, laidKinds := [.data, .data, .data], laidTests := true, laidLooks := .later }
def FnNumberTensCardSaid : Prop := Claim7.holds Tryd.pinned (.plain (OpenSpec.ofChange fnNumberTensSpec)) fnNumberTensCard

/-- THE TIED CARD OF 'laws.FnNumberScaled'. -/
def fnNumberScaledCard : Claim7 := { stood := { row := fnNumberScaledRow, standIns := [], harness := (true, "12d56b3f9834cf57954a7a771890df23421b777f600ea4bf03c4a31529f2bdf0"), looks := false }, kinds := [], alts := [], laidByText := true, laidKinds := [.data, .data, .data], laidTests := true, laidLooks := .later }
def FnNumberScaledCardSaid : Prop := Claim7.holds Tryd.pinned (.plain (OpenSpec.ofChange fnNumberScaledSpec)) fnNumberScaledCard

/-- THE TIED CARD OF 'laws.FnNumberPads'. -/
def fnNumberPadsCard : Claim7 := { stood := { row := fnNumberPadsRow, standIns := [], harness := (true, "12d56b3f9834cf57954a7a771890df23421b777f600ea4bf03c4a31529f2bdf0"), looks := false }, kinds := [], alts := [], laidByText := true, laidKinds := [.data, .data, .data], laidTests := true, laidLooks := .later }
def FnNumberPadsCardSaid : Prop := Claim7.holds Tryd.pinned (.plain (OpenSpec.ofChange fnNumberPadsSpec)) fnNumberPadsCard

/-- THE TIED CARD OF 'laws.FnNumberMd4'. -/
def fnNumberMd4Card : Claim7 := { stood := { row := fnNumberMd4Row, standIns := [], harness := (true, "12d56b3f9834cf57954a7a771890df23421b777f600ea4bf03c4a31529f2bdf0"), looks := false }, kinds := [], alts := [], laidByText := true, laidKinds := [.data, .data, .data], laidTests := true, laidLooks := .later }
def FnNumberMd4CardSaid : Prop := Claim7.holds Tryd.pinned (.plain (OpenSpec.ofChange fnNumberMd4Spec)) fnNumberMd4Card

/-- THE TIED CARD OF 'laws.FnNumberInt64'. -/
def fnNumberInt64Card : Claim7 := { stood := { row := fnNumberInt64Row, standIns := [], harness := (true, "12d56b3f9834cf57954a7a771890df23421b777f600ea4bf03c4a31529f2bdf0"), looks := false }, kinds := [], alts := [], laidByText := true, laidKinds := [.data, .data, .data], laidTests := true, laidLooks := .later }
def FnNumberInt64CardSaid : Prop := Claim7.holds Tryd.pinned (.plain (OpenSpec.ofChange fnNumberInt64Spec)) fnNumberInt64Card

/-- THE TIED CARD OF 'laws.FnNumberRead'. -/
def fnNumberReadCard : Claim7 := { stood := { row := fnNumberReadRow, standIns := [], harness := (true, "12d56b3f9834cf57954a7a771890df23421b777f600ea4bf03c4a31529f2bdf0"), looks := false }, kinds := [], alts := [], laidByText := true, laidKinds := [.data, .data, .data], laidTests := true, laidLooks := .later }
def FnNumberReadCardSaid : Prop := Claim7.holds Tryd.pinned (.plain (OpenSpec.ofChange fnNumberReadSpec)) fnNumberReadCard

/-- THE TIED CARD OF 'laws.FnNumberText'. -/
def fnNumberTextCard : Claim7 := { stood := { row := fnNumberTextRow, standIns := [], harness := (true, "12d56b3f9834cf57954a7a771890df23421b777f600ea4bf03c4a31529f2bdf0"), looks := false }, kinds := [], alts := [], laidByText := true, laidKinds := [.data, .data, .data], laidTests := true, laidLooks := .later }
def FnNumberTextCardSaid : Prop := Claim7.holds Tryd.pinned (.plain (OpenSpec.ofChange fnNumberTextSpec)) fnNumberTextCard

/-- THE TIED CARD OF 'laws.FnNumberTexts'. -/
def fnNumberTextsCard : Claim7 := { stood := { row := fnNumberTextsRow, standIns := [], harness := (true, "12d56b3f9834cf57954a7a771890df23421b777f600ea4bf03c4a31529f2bdf0"), looks := false }, kinds := [], alts := [], laidByText := true, laidKinds := [.data, .data, .data], laidTests := true, laidLooks := .later }
def FnNumberTextsCardSaid : Prop := Claim7.holds Tryd.pinned (.plain (OpenSpec.ofChange fnNumberTextsSpec)) fnNumberTextsCard

/-- THE SECOND FORM's CARD OF 'laws.FnNumberTens'. -/
def fnNumberTensUptoCard : Claim7 := { stood := { row := fnNumberTensUptoRow, standIns := [], harness := (true, "12d56b3f9834cf57954a7a771890df23421b777f600ea4bf03c4a31529f2bdf0"), looks := false }, kinds := [], alts := [], laidByText := true, laidKinds := [.data, .data, .data], laidTests := true, laidLooks := .later }
def FnNumberTensUptoCardSaid : Prop := Claim7.holds Tryd.pinned (.plain (OpenSpec.upto fnNumberTensSpec)) fnNumberTensUptoCard

/-- THE SECOND FORM's CARD OF 'laws.FnNumberScaled'. -/
def fnNumberScaledUptoCard : Claim7 := { stood := { row := fnNumberScaledUptoRow, standIns := [], harness := (true, "12d56b3f9834cf57954a7a771890df23421b777f600ea4bf03c4a31529f2bdf0"), looks := false }, kinds := [], alts := [], laidByText := true, laidKinds := [.data, .data, .data], laidTests := true, laidLooks := .later }
def FnNumberScaledUptoCardSaid : Prop := Claim7.holds Tryd.pinned (.plain (OpenSpec.upto fnNumberScaledSpec)) fnNumberScaledUptoCard

/-- THE SECOND FORM's CARD OF 'laws.FnNumberPads'. -/
def fnNumberPadsUptoCard : Claim7 := { stood := { row := fnNumberPadsUptoRow, standIns := [], harness := (true, "12d56b3f9834cf57954a7a771890df23421b777f600ea4bf03c4a31529f2bdf0"), looks := false }, kinds := [], alts := [], laidByText := true, laidKinds := [.data, .data, .data], laidTests := true, laidLooks := .later }
def FnNumberPadsUptoCardSaid : Prop := Claim7.holds Tryd.pinned (.plain (OpenSpec.upto fnNumberPadsSpec)) fnNumberPadsUptoCard

/-- THE SECOND FORM's CARD OF 'laws.FnNumberMd4'. -/
def fnNumberMd4UptoCard : Claim7 := { stood := { row := fnNumberMd4UptoRow, standIns := [], harness := (true, "12d56b3f9834cf57954a7a771890df23421b777f600ea4bf03c4a31529f2bdf0"), looks := false }, kinds := [], alts := [], laidByText := true, laidKinds := [.data, .data, .data], laidTests := true, laidLooks := .later }
def FnNumberMd4UptoCardSaid : Prop := Claim7.holds Tryd.pinned (.plain (OpenSpec.upto fnNumberMd4Spec)) fnNumberMd4UptoCard

/-- THE SECOND FORM's CARD OF 'laws.FnNumberInt64'. -/
def fnNumberInt64UptoCard : Claim7 := { stood := { row := fnNumberInt64UptoRow, standIns := [], harness := (true, "12d56b3f9834cf57954a7a771890df23421b777f600ea4bf03c4a31529f2bdf0"), looks := false }, kinds := [], alts := [], laidByText := true, laidKinds := [.data, .data, .data], laidTests := true, laidLooks := .later }
def FnNumberInt64UptoCardSaid : Prop := Claim7.holds Tryd.pinned (.plain (OpenSpec.upto fnNumberInt64Spec)) fnNumberInt64UptoCard

/-- THE SECOND FORM's CARD OF 'laws.FnNumberRead'. -/
def fnNumberReadUptoCard : Claim7 := { stood := { row := fnNumberReadUptoRow, standIns := [], harness := (true, "12d56b3f9834cf57954a7a771890df23421b777f600ea4bf03c4a31529f2bdf0"), looks := false }, kinds := [], alts := [], laidByText := true, laidKinds := [.data, .data, .data], laidTests := true, laidLooks := .later }
def FnNumberReadUptoCardSaid : Prop := Claim7.holds Tryd.pinned (.plain (OpenSpec.upto fnNumberReadSpec)) fnNumberReadUptoCard

/-- THE SECOND FORM's CARD OF 'laws.FnNumberText'. -/
def fnNumberTextUptoCard : Claim7 := { stood := { row := fnNumberTextUptoRow, standIns := [], harness := (true, "12d56b3f9834cf57954a7a771890df23421b777f600ea4bf03c4a31529f2bdf0"), looks := false }, kinds := [], alts := [], laidByText := true, laidKinds := [.data, .data, .data], laidTests := true, laidLooks := .later }
def FnNumberTextUptoCardSaid : Prop := Claim7.holds Tryd.pinned (.plain (OpenSpec.upto fnNumberTextSpec)) fnNumberTextUptoCard

/-- THE SECOND FORM's CARD OF 'laws.FnNumberTexts'. -/
def fnNumberTextsUptoCard : Claim7 := { stood := { row := fnNumberTextsUptoRow, standIns := [], harness := (true, "12d56b3f9834cf57954a7a771890df23421b777f600ea4bf03c4a31529f2bdf0"), looks := false }, kinds := [], alts := [], laidByText := true, laidKinds := [.data, .data, .data], laidTests := true, laidLooks := .later }
def FnNumberTextsUptoCardSaid : Prop := Claim7.holds Tryd.pinned (.plain (OpenSpec.upto fnNumberTextsSpec)) fnNumberTextsUptoCard
end Rows
end Go.Proofs.YtiahmmecekfjhaaDoor
