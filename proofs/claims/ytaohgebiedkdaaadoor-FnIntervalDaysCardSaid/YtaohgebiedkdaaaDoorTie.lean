/-
  DERIVED. GIVEN WITH THE SEED: THE PROGRAM's TIES (one call each: nine closed facts by the kernel) AND EACH ROW's TIE, after the 31st guide's Derived/Test/Toyas{Tie, Card}.lean. No idea stands in it: it is a product of the set-up. Laid BY PROGRAM, IN A SANDBOX (cutbox-door.mjs). By AI agents, Wed Nov 11 2026. No macro, syntax, notation, axiom, sorry.
-/
import Derived.Test.YtaohgebiedkdaaaDoorRows
import Derived.LaidByTextLater
import Derived.SevenTiedAt
import Derived.LaidSub
import Derived.LaidOnce
namespace Go.Proofs.YtaohgebiedkdaaaDoor
open Go
set_option maxRecDepth 100000
theorem seatTie1 : Tryd.prog.laidByTextLater [("math/bits.deBruijn32tab", Rows.laid_math_bits_deBruijn32tab), ("math/bits.deBruijn64tab", Rows.laid_math_bits_deBruijn64tab), ("internal/strconv.uint64pow10", Rows.laid_internal_strconv_uint64pow10), ("bytes.ErrTooLarge", Rows.laid_bytes_ErrTooLarge)] [.data, .data, .data, .sentinel] true :=
  Program.laidByTextLater_by_one 43 8 65 (by kernel_rfl) (by kernel_rfl) (by kernel_rfl) (by kernel_rfl) (by kernel_rfl) (by kernel_rfl) (fun _ _ => by kernel_rfl)
theorem noOwnUnsafe : Tryd.pinned.checked.prog.headLifts.contains "ownunsafe" = false := by kernel_rfl
theorem tie : Tryd.prog.laidByTextLater [("bytes.ErrTooLarge", Rows.laid_bytes_ErrTooLarge)] [.sentinel] true :=
  Program.laidByTextLater.sub seatTie1 ["bytes.ErrTooLarge"] (by kernel_rfl) (by kernel_rfl)
theorem fnPacketRedirect_row_tie : Rows.fnPacketRedirectRow.laidByTextAt .later Tryd.pinned [.sentinel] true :=
  OpenClaim.laidByTextAt_later rfl rfl tie noOwnUnsafe
theorem fnPacketHeads_row_tie : Rows.fnPacketHeadsRow.laidByTextAt .later Tryd.pinned [.sentinel] true :=
  OpenClaim.laidByTextAt_later rfl rfl tie noOwnUnsafe
theorem fnPacketData_row_tie : Rows.fnPacketDataRow.laidByTextAt .later Tryd.pinned [.sentinel] true :=
  OpenClaim.laidByTextAt_later rfl rfl tie noOwnUnsafe
theorem fnPacketLength_row_tie : Rows.fnPacketLengthRow.laidByTextAt .later Tryd.pinned [.sentinel] true :=
  OpenClaim.laidByTextAt_later rfl rfl tie noOwnUnsafe
theorem fnPacketConnect_row_tie : Rows.fnPacketConnectRow.laidByTextAt .later Tryd.pinned [.sentinel] true :=
  OpenClaim.laidByTextAt_later rfl rfl tie noOwnUnsafe
theorem fnPacketAcceptTorn_row_tie : Rows.fnPacketAcceptTornRow.laidByTextAt .later Tryd.pinned [.sentinel] true :=
  OpenClaim.laidByTextAt_later rfl rfl tie noOwnUnsafe
theorem fnJoinAnswers_row_tie : Rows.fnJoinAnswersRow.laidByTextAt .later Tryd.pinned [.sentinel] true :=
  OpenClaim.laidByTextAt_later rfl rfl tie noOwnUnsafe
theorem fnPacketApart_row_tie : Rows.fnPacketApartRow.laidByTextAt .later Tryd.pinned [.sentinel] true :=
  OpenClaim.laidByTextAt_later rfl rfl tie noOwnUnsafe
theorem tie2 : Tryd.prog.laidByTextLater [("math/bits.deBruijn32tab", Rows.laid_math_bits_deBruijn32tab), ("math/bits.deBruijn64tab", Rows.laid_math_bits_deBruijn64tab), ("internal/strconv.uint64pow10", Rows.laid_internal_strconv_uint64pow10)] [.data, .data, .data] true :=
  Program.laidByTextLater.sub seatTie1 ["math/bits.deBruijn32tab", "math/bits.deBruijn64tab", "internal/strconv.uint64pow10"] (by kernel_rfl) (by kernel_rfl)
theorem fnIntervalDays_row_tie : Rows.fnIntervalDaysRow.laidByTextAt .later Tryd.pinned [.data, .data, .data] true :=
  OpenClaim.laidByTextAt_later rfl rfl tie2 noOwnUnsafe
theorem fnPacketRedirectUpto_row_tie : Rows.fnPacketRedirectUptoRow.laidByTextAt .later Tryd.pinned [.sentinel] true :=
  OpenClaim.laidByTextAt_later rfl rfl tie noOwnUnsafe
theorem fnPacketHeadsUpto_row_tie : Rows.fnPacketHeadsUptoRow.laidByTextAt .later Tryd.pinned [.sentinel] true :=
  OpenClaim.laidByTextAt_later rfl rfl tie noOwnUnsafe
theorem fnPacketDataUpto_row_tie : Rows.fnPacketDataUptoRow.laidByTextAt .later Tryd.pinned [.sentinel] true :=
  OpenClaim.laidByTextAt_later rfl rfl tie noOwnUnsafe
theorem fnPacketLengthUpto_row_tie : Rows.fnPacketLengthUptoRow.laidByTextAt .later Tryd.pinned [.sentinel] true :=
  OpenClaim.laidByTextAt_later rfl rfl tie noOwnUnsafe
theorem fnPacketConnectUpto_row_tie : Rows.fnPacketConnectUptoRow.laidByTextAt .later Tryd.pinned [.sentinel] true :=
  OpenClaim.laidByTextAt_later rfl rfl tie noOwnUnsafe
theorem fnPacketAcceptTornUpto_row_tie : Rows.fnPacketAcceptTornUptoRow.laidByTextAt .later Tryd.pinned [.sentinel] true :=
  OpenClaim.laidByTextAt_later rfl rfl tie noOwnUnsafe
theorem fnIntervalDaysUpto_row_tie : Rows.fnIntervalDaysUptoRow.laidByTextAt .later Tryd.pinned [.data, .data, .data] true :=
  OpenClaim.laidByTextAt_later rfl rfl tie2 noOwnUnsafe
theorem fnJoinAnswersUpto_row_tie : Rows.fnJoinAnswersUptoRow.laidByTextAt .later Tryd.pinned [.sentinel] true :=
  OpenClaim.laidByTextAt_later rfl rfl tie noOwnUnsafe
theorem fnPacketApartUpto_row_tie : Rows.fnPacketApartUptoRow.laidByTextAt .later Tryd.pinned [.sentinel] true :=
  OpenClaim.laidByTextAt_later rfl rfl tie noOwnUnsafe
end Go.Proofs.YtaohgebiedkdaaaDoor
