/-
  DERIVED. GIVEN WITH THE SEED: THE PROGRAM's TIES (one call each: nine closed facts by the kernel) AND EACH ROW's TIE, after the 31st guide's Derived/Test/Toyas{Tie, Card}.lean. No idea stands in it: it is a product of the set-up. Laid BY PROGRAM, IN A SANDBOX (cutbox-door.mjs). By AI agents, Wed Nov 11 2026. No macro, syntax, notation, axiom, sorry.
-/
import Derived.Test.Qxb6604339aFmtRows
import Derived.LaidByTextLater
import Derived.SevenTiedAt
import Derived.LaidSub
import Derived.LaidOnce
namespace Go.Proofs.Qxb6604339aFmt
open Go
set_option maxRecDepth 100000
theorem seatTie1 : Tryf.prog.laidByTextLater [("example.com/scoutwire/scoutwire/internal/rlp.ErrTruncated", Rows.laid_example_com_scoutwire_scoutwire_internal_rlp_ErrTruncated), ("example.com/scoutwire/scoutwire/internal/rlp.ErrNonCanonical", Rows.laid_example_com_scoutwire_scoutwire_internal_rlp_ErrNonCanonical), ("example.com/scoutwire/scoutwire/internal/rlp.ErrNotString", Rows.laid_example_com_scoutwire_scoutwire_internal_rlp_ErrNotString), ("example.com/scoutwire/scoutwire/internal/rlp.ErrUintOverflow", Rows.laid_example_com_scoutwire_scoutwire_internal_rlp_ErrUintOverflow)] [.sentinel, .sentinel, .sentinel, .sentinel] true :=
  Program.laidByTextLater_by_one 85 8 2 (by kernel_rfl) (by kernel_rfl) (by kernel_rfl) (by kernel_rfl) (by kernel_rfl) (by kernel_rfl) (fun _ _ => by kernel_rfl)
theorem noOwnUnsafe : Tryf.pinned.checked.prog.headLifts.contains "ownunsafe" = false := by kernel_rfl
theorem tie : Tryf.prog.laidByTextLater [("example.com/scoutwire/scoutwire/internal/rlp.ErrTruncated", Rows.laid_example_com_scoutwire_scoutwire_internal_rlp_ErrTruncated), ("example.com/scoutwire/scoutwire/internal/rlp.ErrNonCanonical", Rows.laid_example_com_scoutwire_scoutwire_internal_rlp_ErrNonCanonical), ("example.com/scoutwire/scoutwire/internal/rlp.ErrNotString", Rows.laid_example_com_scoutwire_scoutwire_internal_rlp_ErrNotString)] [.sentinel, .sentinel, .sentinel] true :=
  Program.laidByTextLater.sub seatTie1 ["example.com/scoutwire/scoutwire/internal/rlp.ErrTruncated", "example.com/scoutwire/scoutwire/internal/rlp.ErrNonCanonical", "example.com/scoutwire/scoutwire/internal/rlp.ErrNotString"] (by kernel_rfl) (by kernel_rfl)
theorem fnBytesRoundTrip_row_tie : Rows.fnBytesRoundTripRow.laidByTextAt .later Tryf.pinned [.sentinel, .sentinel, .sentinel] true :=
  OpenClaim.laidByTextAt_later rfl rfl tie noOwnUnsafe
theorem fnErrTellsWhetherAllAreStrings_row_tie : Rows.fnErrTellsWhetherAllAreStringsRow.laidByTextAt .later Tryf.pinned [.sentinel, .sentinel, .sentinel] true :=
  OpenClaim.laidByTextAt_later rfl rfl tie noOwnUnsafe
theorem fnFailStopsTheScript_row_tie : Rows.fnFailStopsTheScriptRow.laidByTextAt .later Tryf.pinned [.sentinel, .sentinel, .sentinel] true :=
  OpenClaim.laidByTextAt_later rfl rfl tie noOwnUnsafe
theorem tie2 : Tryf.prog.laidByTextLater [("example.com/scoutwire/scoutwire/internal/rlp.ErrTruncated", Rows.laid_example_com_scoutwire_scoutwire_internal_rlp_ErrTruncated), ("example.com/scoutwire/scoutwire/internal/rlp.ErrNonCanonical", Rows.laid_example_com_scoutwire_scoutwire_internal_rlp_ErrNonCanonical), ("example.com/scoutwire/scoutwire/internal/rlp.ErrNotString", Rows.laid_example_com_scoutwire_scoutwire_internal_rlp_ErrNotString), ("example.com/scoutwire/scoutwire/internal/rlp.ErrUintOverflow", Rows.laid_example_com_scoutwire_scoutwire_internal_rlp_ErrUintOverflow)] [.sentinel, .sentinel, .sentinel, .sentinel] true :=
  Program.laidByTextLater.sub seatTie1 ["example.com/scoutwire/scoutwire/internal/rlp.ErrTruncated", "example.com/scoutwire/scoutwire/internal/rlp.ErrNonCanonical", "example.com/scoutwire/scoutwire/internal/rlp.ErrNotString", "example.com/scoutwire/scoutwire/internal/rlp.ErrUintOverflow"] (by kernel_rfl) (by kernel_rfl)
theorem fnUintRoundTrip_row_tie : Rows.fnUintRoundTripRow.laidByTextAt .later Tryf.pinned [.sentinel, .sentinel, .sentinel, .sentinel] true :=
  OpenClaim.laidByTextAt_later rfl rfl tie2 noOwnUnsafe
theorem fnErrMixedScript_row_tie : Rows.fnErrMixedScriptRow.laidByTextAt .later Tryf.pinned [.sentinel, .sentinel, .sentinel, .sentinel] true :=
  OpenClaim.laidByTextAt_later rfl rfl tie2 noOwnUnsafe
theorem fnFailFreezesAFreshReader_row_tie : Rows.fnFailFreezesAFreshReaderRow.laidByTextAt .later Tryf.pinned [.sentinel, .sentinel, .sentinel, .sentinel] true :=
  OpenClaim.laidByTextAt_later rfl rfl tie2 noOwnUnsafe
end Go.Proofs.Qxb6604339aFmt
