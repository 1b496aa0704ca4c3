/-
  DERIVED. GIVEN WITH THE SEED: THE PROGRAM's TIES (one call each: nine closed facts by the kernel) AND EACH ROW's TIE, after the 31st guide's Derived/Test/Toyas{Tie, Card}.lean. No idea stands in it: it is a product of the set-up. Laid BY PROGRAM, IN A SANDBOX (cutbox-door.mjs). By AI agents, Wed Nov 11 2026. No macro, syntax, notation, axiom, sorry.
-/
import Derived.Test.YtacmnibhdmeidaaDoorRows
import Derived.LaidByTextLater
import Derived.SevenTiedAt
import Derived.LaidSub
import Derived.LaidOnce
namespace Go.Proofs.YtacmnibhdmeidaaDoor
open Go
set_option maxRecDepth 100000
theorem seatTie1 : Tryd.prog.laidByTextLater [("bytes.ErrTooLarge", Rows.laid_bytes_ErrTooLarge), ("pub-dodona/pub/goora/network.errEnd", Rows.laid_pub_dodona_pub_goora_network_errEnd)] [.sentinel, .sentinel] true :=
  Program.laidByTextLater_by_one 47 8 2 (by kernel_rfl) (by kernel_rfl) (by kernel_rfl) (by kernel_rfl) (by kernel_rfl) (by kernel_rfl) (fun _ _ => by kernel_rfl)
theorem noOwnUnsafe : Tryd.pinned.checked.prog.headLifts.contains "ownunsafe" = false := by kernel_rfl
theorem tie : Tryd.prog.laidByTextLater [("bytes.ErrTooLarge", Rows.laid_bytes_ErrTooLarge)] [.sentinel] true :=
  Program.laidByTextLater.sub seatTie1 ["bytes.ErrTooLarge"] (by kernel_rfl) (by kernel_rfl)
theorem fnPacketAcceptTorn_row_tie : Rows.fnPacketAcceptTornRow.laidByTextAt .later Tryd.pinned [.sentinel] true :=
  OpenClaim.laidByTextAt_later rfl rfl tie noOwnUnsafe
theorem tie2 : Tryd.prog.laidByTextLater [("bytes.ErrTooLarge", Rows.laid_bytes_ErrTooLarge), ("pub-dodona/pub/goora/network.errEnd", Rows.laid_pub_dodona_pub_goora_network_errEnd)] [.sentinel, .sentinel] true :=
  Program.laidByTextLater.sub seatTie1 ["bytes.ErrTooLarge", "pub-dodona/pub/goora/network.errEnd"] (by kernel_rfl) (by kernel_rfl)
theorem fnSessionGetApart_row_tie : Rows.fnSessionGetApartRow.laidByTextAt .later Tryd.pinned [.sentinel, .sentinel] true :=
  OpenClaim.laidByTextAt_later rfl rfl tie2 noOwnUnsafe
theorem fnPacketAcceptTornUpto_row_tie : Rows.fnPacketAcceptTornUptoRow.laidByTextAt .later Tryd.pinned [.sentinel] true :=
  OpenClaim.laidByTextAt_later rfl rfl tie noOwnUnsafe
theorem fnSessionGetApartUpto_row_tie : Rows.fnSessionGetApartUptoRow.laidByTextAt .later Tryd.pinned [.sentinel, .sentinel] true :=
  OpenClaim.laidByTextAt_later rfl rfl tie2 noOwnUnsafe
end Go.Proofs.YtacmnibhdmeidaaDoor
