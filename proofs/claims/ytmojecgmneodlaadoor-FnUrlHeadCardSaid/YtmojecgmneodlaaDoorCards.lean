/-
  DERIVED. GIVEN WITH THE SEED: THE CARDS: each row of YtmojecgmneodlaaDoorRows.lean that lists a variable, with what it lists TIED to the program's text (the seventh form; the later family's looks); each row that meets fmt, with fmt's text TOLD by the authors' own Lean function (tested against real Go, not proved from fmt's source: count such statements apart). THE CARD IS WHAT COUNTS. Prove the row's statement (the work); the ties are given (YtmojecgmneodlaaDoorTie.lean); close each card by the builder's one call (the guide's Derived/Test/ToyasCard.lean, 'card_holds'). Laid BY PROGRAM, IN A SANDBOX (cutbox-door.mjs). By AI agents, Wed Nov 11 2026. No macro, syntax, notation, axiom, sorry.
-/
import Derived.Test.YtmojecgmneodlaaDoorRows
import GoSem.ClaimSeven
namespace Go.Proofs.YtmojecgmneodlaaDoor
namespace Rows

/-- THE TIED CARD OF 'laws.FnServedTwice'. -/
def fnServedTwiceCard : Claim7 := { stood := { row := fnServedTwiceRow, standIns := [], harness := (true, "1fb1965208499ba26c4d34d305cb94683f2a7124cd815b4026d952a95bad362a"), looks := true }, kinds := [], alts := [], laidByText := true, laidKinds := [.data, .data, .data, .pinned, .pinned], laidTests := true, laidLooks := .later }
def FnServedTwiceCardSaid : Prop := Claim7.holds Tryd.pinned (.plain (OpenSpec.ofChange fnServedTwiceSpec)) fnServedTwiceCard

/-- THE TIED CARD OF 'laws.FnServedReset'. -/
def fnServedResetCard : Claim7 := { stood := { row := fnServedResetRow, standIns := [], harness := (true, "1fb1965208499ba26c4d34d305cb94683f2a7124cd815b4026d952a95bad362a"), looks := true }, kinds := [], alts := [], laidByText := true, laidKinds := [.data, .data, .data, .pinned, .pinned], laidTests := true, laidLooks := .later }
def FnServedResetCardSaid : Prop := Claim7.holds Tryd.pinned (.plain (OpenSpec.ofChange fnServedResetSpec)) fnServedResetCard

/-- THE TIED CARD OF 'laws.FnNetworkApart'. -/
def fnNetworkApartCard : Claim7 := { stood := { row := fnNetworkApartRow, standIns := [], harness := (true, "1fb1965208499ba26c4d34d305cb94683f2a7124cd815b4026d952a95bad362a"), looks := true }, kinds := [], alts := [], laidByText := true, laidKinds := [.data, .data, .data, .data, .pinned, .pinned], laidTests := true, laidLooks := .later }
def FnNetworkApartCardSaid : Prop := Claim7.holds Tryd.pinned (.plain (OpenSpec.ofChange fnNetworkApartSpec)) fnNetworkApartCard

/-- THE TIED CARD OF 'laws.FnServerChain'. -/
def fnServerChainCard : Claim7 := { stood := { row := fnServerChainRow, standIns := [], harness := (true, "1fb1965208499ba26c4d34d305cb94683f2a7124cd815b4026d952a95bad362a"), looks := true }, kinds := [], alts := [], laidByText := true, laidKinds := [.data, .data, .data, .data, .data, .data, .pinned, .pinned], laidTests := true, laidLooks := .later }
def FnServerChainCardSaid : Prop := Claim7.holds Tryd.pinned (.plain (OpenSpec.ofChange fnServerChainSpec)) fnServerChainCard

/-- THE TIED CARD OF 'laws.FnUrlHead'. -/
def fnUrlHeadCard : Claim7 := { stood := { row := fnUrlHeadRow, standIns := [], harness := (true, "1fb1965208499ba26c4d34d305cb94683f2a7124cd815b4026d952a95bad362a"), looks := true }, kinds := [], alts := [], laidByText := true, laidKinds := [.data, .data, .data, .data, .listed, .data, .data, .pinned, .pinned], laidTests := true, laidLooks := .later }
def FnUrlHeadCardSaid : Prop := Claim7.holds Tryd.pinned (.plain (OpenSpec.ofChange fnUrlHeadSpec)) fnUrlHeadCard

/-- THE TIED CARD OF 'laws.FnUrlJdbc'. -/
def fnUrlJdbcCard : Claim7 := { stood := { row := fnUrlJdbcRow, standIns := [], harness := (true, "1fb1965208499ba26c4d34d305cb94683f2a7124cd815b4026d952a95bad362a"), looks := true }, kinds := [], alts := [], laidByText := true, laidKinds := [.data, .data, .data, .data, .listed, .data, .data, .pinned, .pinned], laidTests := true, laidLooks := .later }
def FnUrlJdbcCardSaid : Prop := Claim7.holds Tryd.pinned (.plain (OpenSpec.ofChange fnUrlJdbcSpec)) fnUrlJdbcCard

/-- THE TIED CARD OF 'laws.FnUrlValue'. -/
def fnUrlValueCard : Claim7 := { stood := { row := fnUrlValueRow, standIns := [], harness := (true, "1fb1965208499ba26c4d34d305cb94683f2a7124cd815b4026d952a95bad362a"), looks := true }, kinds := [], alts := [], laidByText := true, laidKinds := [.data, .data, .data, .data, .sentinel, .sentinel, .listed, .data, .data, .pinned, .pinned], laidTests := true, laidLooks := .later }
def FnUrlValueCardSaid : Prop := Claim7.holds Tryd.pinned (.plain (OpenSpec.ofChange fnUrlValueSpec)) fnUrlValueCard

/-- THE SECOND FORM's CARD OF 'laws.FnServedTwice'. -/
def fnServedTwiceUptoCard : Claim7 := { stood := { row := fnServedTwiceUptoRow, standIns := [], harness := (true, "1fb1965208499ba26c4d34d305cb94683f2a7124cd815b4026d952a95bad362a"), looks := true }, kinds := [], alts := [], laidByText := true, laidKinds := [.data, .data, .data, .pinned, .pinned], laidTests := true, laidLooks := .later }
def FnServedTwiceUptoCardSaid : Prop := Claim7.holds Tryd.pinned (.plain (OpenSpec.upto fnServedTwiceSpec)) fnServedTwiceUptoCard

/-- THE SECOND FORM's CARD OF 'laws.FnServedReset'. -/
def fnServedResetUptoCard : Claim7 := { stood := { row := fnServedResetUptoRow, standIns := [], harness := (true, "1fb1965208499ba26c4d34d305cb94683f2a7124cd815b4026d952a95bad362a"), looks := true }, kinds := [], alts := [], laidByText := true, laidKinds := [.data, .data, .data, .pinned, .pinned], laidTests := true, laidLooks := .later }
def FnServedResetUptoCardSaid : Prop := Claim7.holds Tryd.pinned (.plain (OpenSpec.upto fnServedResetSpec)) fnServedResetUptoCard

/-- THE SECOND FORM's CARD OF 'laws.FnNetworkApart'. -/
def fnNetworkApartUptoCard : Claim7 := { stood := { row := fnNetworkApartUptoRow, standIns := [], harness := (true, "1fb1965208499ba26c4d34d305cb94683f2a7124cd815b4026d952a95bad362a"), looks := true }, kinds := [], alts := [], laidByText := true, laidKinds := [.data, .data, .data, .data, .pinned, .pinned], laidTests := true, laidLooks := .later }
def FnNetworkApartUptoCardSaid : Prop := Claim7.holds Tryd.pinned (.plain (OpenSpec.upto fnNetworkApartSpec)) fnNetworkApartUptoCard

/-- THE SECOND FORM's CARD OF 'laws.FnServerChain'. -/
def fnServerChainUptoCard : Claim7 := { stood := { row := fnServerChainUptoRow, standIns := [], harness := (true, "1fb1965208499ba26c4d34d305cb94683f2a7124cd815b4026d952a95bad362a"), looks := true }, kinds := [], alts := [], laidByText := true, laidKinds := [.data, .data, .data, .data, .data, .data, .pinned, .pinned], laidTests := true, laidLooks := .later }
def FnServerChainUptoCardSaid : Prop := Claim7.holds Tryd.pinned (.plain (OpenSpec.upto fnServerChainSpec)) fnServerChainUptoCard

/-- THE SECOND FORM's CARD OF 'laws.FnUrlHead'. -/
def fnUrlHeadUptoCard : Claim7 := { stood := { row := fnUrlHeadUptoRow, standIns := [], harness := (true, "1fb1965208499ba26c4d34d305cb94683f2a7124cd815b4026d952a95bad362a"), looks := true }, kinds := [], alts := [], laidByText := true, laidKinds := [.data, .data, .data, .data, .listed, .data, .data, .pinned, .pinned], laidTests := true, laidLooks := .later }
def FnUrlHeadUptoCardSaid : Prop := Claim7.holds Tryd.pinned (.plain (OpenSpec.upto fnUrlHeadSpec)) fnUrlHeadUptoCard

/-- THE SECOND FORM's CARD OF 'laws.FnUrlJdbc'. -/
def fnUrlJdbcUptoCard : Claim7 := { stood := { row := fnUrlJdbcUptoRow, standIns := [], harness := (true, "1fb1965208499ba26c4d34d305cb94683f2a7124cd815b4026d952a95bad362a"), looks := true }, kinds := [], alts := [], laidByText := true, laidKinds := [.data, .data, .data, .data, .listed, .data, .data, .pinned, .pinned], laidTests := true, laidLooks := .later }
def FnUrlJdbcUptoCardSaid : Prop := Claim7.holds Tryd.pinned (.plain (OpenSpec.upto fnUrlJdbcSpec)) fnUrlJdbcUptoCard

/-- THE SECOND FORM's CARD OF 'laws.FnUrlValue'. -/
def fnUrlValueUptoCard : Claim7 := { stood := { row := fnUrlValueUptoRow, standIns := [], harness := (true, "1fb1965208499ba26c4d34d305cb94683f2a7124cd815b4026d952a95bad362a"), looks := true }, kinds := [], alts := [], laidByText := true, laidKinds := [.data, .data, .data, .data, .sentinel, .sentinel, .listed, .data, .data, .pinned, .pinned], laidTests := true, laidLooks := .later }
def FnUrlValueUptoCardSaid : Prop := Claim7.holds Tryd.pinned (.plain (OpenSpec.upto fnUrlValueSpec)) fnUrlValueUptoCard
end Rows
end Go.Proofs.YtmojecgmneodlaaDoor
