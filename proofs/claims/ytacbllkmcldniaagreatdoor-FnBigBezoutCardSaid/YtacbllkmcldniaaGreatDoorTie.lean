/-
  DERIVED. GIVEN WITH THE SEED: THE PROGRAM's TIES (one call each: nine closed facts by the kernel) AND EACH ROW's TIE, after the 31st guide's Derived/Test/Toyas{Tie, Card}.lean. No idea stands in it: it is a product of the set-up. Laid BY PROGRAM, IN A SANDBOX (cutbox-door.mjs). By AI agents, Wed Nov 11 2026. No macro, syntax, notation, axiom, sorry.
-/
import Derived.Test.YtacbllkmcldniaaGreatDoorRows
import Derived.LaidByTextLater
import Derived.SevenTiedAt
import Derived.LaidSub
import Derived.LaidOnce
namespace Go.Proofs.YtacbllkmcldniaaGreatDoor
open Go
set_option maxRecDepth 100000
theorem seatTie1 : Tryz.prog.laidByTextLater [("math/bits.deBruijn32tab", Rows.laid_math_bits_deBruijn32tab), ("math/bits.deBruijn64tab", Rows.laid_math_bits_deBruijn64tab), ("io.EOF", Rows.laid_io_EOF), ("pub-gyrfalcon/pub/bigall.errNoDigits", Rows.laid_pub_gyrfalcon_pub_bigall_errNoDigits), ("pub-gyrfalcon/pub/bigall.errInvalSep", Rows.laid_pub_gyrfalcon_pub_bigall_errInvalSep), ("pub-gyrfalcon/pub/bigall.leafSize", Rows.laid_pub_gyrfalcon_pub_bigall_leafSize), ("pub-gyrfalcon/pub/bigall.divRecursiveThreshold", Rows.laid_pub_gyrfalcon_pub_bigall_divRecursiveThreshold), ("pub-gyrfalcon/pub/bigall.karatsubaThreshold", Rows.laid_pub_gyrfalcon_pub_bigall_karatsubaThreshold), ("pub-gyrfalcon/pub/bigall.basicSqrThreshold", Rows.laid_pub_gyrfalcon_pub_bigall_basicSqrThreshold), ("pub-gyrfalcon/pub/bigall.karatsubaSqrThreshold", Rows.laid_pub_gyrfalcon_pub_bigall_karatsubaSqrThreshold)] [.data, .data, .sentinel, .sentinel, .sentinel, .data, .data, .data, .data, .data] true :=
  Program.laidByTextLater_by_one 96 8 65 (by kernel_rfl) (by kernel_rfl) (by kernel_rfl) (by kernel_rfl) (by kernel_rfl) (by kernel_rfl) (fun _ _ => by kernel_rfl)
theorem noOwnUnsafe : Tryz.pinned.checked.prog.headLifts.contains "ownunsafe" = false := by kernel_rfl
theorem tie : Tryz.prog.laidByTextLater [("math/bits.deBruijn32tab", Rows.laid_math_bits_deBruijn32tab), ("math/bits.deBruijn64tab", Rows.laid_math_bits_deBruijn64tab), ("io.EOF", Rows.laid_io_EOF), ("pub-gyrfalcon/pub/bigall.errNoDigits", Rows.laid_pub_gyrfalcon_pub_bigall_errNoDigits), ("pub-gyrfalcon/pub/bigall.errInvalSep", Rows.laid_pub_gyrfalcon_pub_bigall_errInvalSep), ("pub-gyrfalcon/pub/bigall.leafSize", Rows.laid_pub_gyrfalcon_pub_bigall_leafSize), ("pub-gyrfalcon/pub/bigall.divRecursiveThreshold", Rows.laid_pub_gyrfalcon_pub_bigall_divRecursiveThreshold), ("pub-gyrfalcon/pub/bigall.karatsubaThreshold", Rows.laid_pub_gyrfalcon_pub_bigall_karatsubaThreshold), ("pub-gyrfalcon/pub/bigall.basicSqrThreshold", Rows.laid_pub_gyrfalcon_pub_bigall_basicSqrThreshold), ("pub-gyrfalcon/pub/bigall.karatsubaSqrThreshold", Rows.laid_pub_gyrfalcon_pub_bigall_karatsubaSqrThreshold)] [.data, .data, .sentinel, .sentinel, .sentinel, .data, .data, .data, .data, .data] true :=
  Program.laidByTextLater.sub seatTie1 ["math/bits.deBruijn32tab", "math/bits.deBruijn64tab", "io.EOF", "pub-gyrfalcon/pub/bigall.errNoDigits", "pub-gyrfalcon/pub/bigall.errInvalSep", "pub-gyrfalcon/pub/bigall.leafSize", "pub-gyrfalcon/pub/bigall.divRecursiveThreshold", "pub-gyrfalcon/pub/bigall.karatsubaThreshold", "pub-gyrfalcon/pub/bigall.basicSqrThreshold", "pub-gyrfalcon/pub/bigall.karatsubaSqrThreshold"] (by kernel_rfl) (by kernel_rfl)
theorem fnBigDo_row_tie : Rows.fnBigDoRow.laidByTextAt .later Tryz.pinned [.data, .data, .sentinel, .sentinel, .sentinel, .data, .data, .data, .data, .data] true :=
  OpenClaim.laidByTextAt_later rfl rfl tie noOwnUnsafe
theorem fnBigBezout_row_tie : Rows.fnBigBezoutRow.laidByTextAt .later Tryz.pinned [.data, .data, .sentinel, .sentinel, .sentinel, .data, .data, .data, .data, .data] true :=
  OpenClaim.laidByTextAt_later rfl rfl tie noOwnUnsafe
theorem fnBigCompare_row_tie : Rows.fnBigCompareRow.laidByTextAt .later Tryz.pinned [.data, .data, .sentinel, .sentinel, .sentinel, .data, .data, .data, .data, .data] true :=
  OpenClaim.laidByTextAt_later rfl rfl tie noOwnUnsafe
theorem fnBigKept_row_tie : Rows.fnBigKeptRow.laidByTextAt .later Tryz.pinned [.data, .data, .sentinel, .sentinel, .sentinel, .data, .data, .data, .data, .data] true :=
  OpenClaim.laidByTextAt_later rfl rfl tie noOwnUnsafe
theorem fnBigInverse_row_tie : Rows.fnBigInverseRow.laidByTextAt .later Tryz.pinned [.data, .data, .sentinel, .sentinel, .sentinel, .data, .data, .data, .data, .data] true :=
  OpenClaim.laidByTextAt_later rfl rfl tie noOwnUnsafe
theorem fnBigMade_row_tie : Rows.fnBigMadeRow.laidByTextAt .later Tryz.pinned [.data, .data, .sentinel, .sentinel, .sentinel, .data, .data, .data, .data, .data] true :=
  OpenClaim.laidByTextAt_later rfl rfl tie noOwnUnsafe
theorem fnBigBoth_row_tie : Rows.fnBigBothRow.laidByTextAt .later Tryz.pinned [.data, .data, .sentinel, .sentinel, .sentinel, .data, .data, .data, .data, .data] true :=
  OpenClaim.laidByTextAt_later rfl rfl tie noOwnUnsafe
theorem fnBigShift_row_tie : Rows.fnBigShiftRow.laidByTextAt .later Tryz.pinned [.data, .data, .sentinel, .sentinel, .sentinel, .data, .data, .data, .data, .data] true :=
  OpenClaim.laidByTextAt_later rfl rfl tie noOwnUnsafe
theorem fnBigText_row_tie : Rows.fnBigTextRow.laidByTextAt .later Tryz.pinned [.data, .data, .sentinel, .sentinel, .sentinel, .data, .data, .data, .data, .data] true :=
  OpenClaim.laidByTextAt_later rfl rfl tie noOwnUnsafe
theorem fnBigPower_row_tie : Rows.fnBigPowerRow.laidByTextAt .later Tryz.pinned [.data, .data, .sentinel, .sentinel, .sentinel, .data, .data, .data, .data, .data] true :=
  OpenClaim.laidByTextAt_later rfl rfl tie noOwnUnsafe
theorem fnBigBit_row_tie : Rows.fnBigBitRow.laidByTextAt .later Tryz.pinned [.data, .data, .sentinel, .sentinel, .sentinel, .data, .data, .data, .data, .data] true :=
  OpenClaim.laidByTextAt_later rfl rfl tie noOwnUnsafe
theorem fnBigBytes_row_tie : Rows.fnBigBytesRow.laidByTextAt .later Tryz.pinned [.data, .data, .sentinel, .sentinel, .sentinel, .data, .data, .data, .data, .data] true :=
  OpenClaim.laidByTextAt_later rfl rfl tie noOwnUnsafe
theorem fnBigRange_row_tie : Rows.fnBigRangeRow.laidByTextAt .later Tryz.pinned [.data, .data, .sentinel, .sentinel, .sentinel, .data, .data, .data, .data, .data] true :=
  OpenClaim.laidByTextAt_later rfl rfl tie noOwnUnsafe
theorem fnBigOne_row_tie : Rows.fnBigOneRow.laidByTextAt .later Tryz.pinned [.data, .data, .sentinel, .sentinel, .sentinel, .data, .data, .data, .data, .data] true :=
  OpenClaim.laidByTextAt_later rfl rfl tie noOwnUnsafe
theorem fnBigTell_row_tie : Rows.fnBigTellRow.laidByTextAt .later Tryz.pinned [.data, .data, .sentinel, .sentinel, .sentinel, .data, .data, .data, .data, .data] true :=
  OpenClaim.laidByTextAt_later rfl rfl tie noOwnUnsafe
theorem fnBigDoUpto_row_tie : Rows.fnBigDoUptoRow.laidByTextAt .later Tryz.pinned [.data, .data, .sentinel, .sentinel, .sentinel, .data, .data, .data, .data, .data] true :=
  OpenClaim.laidByTextAt_later rfl rfl tie noOwnUnsafe
theorem fnBigBezoutUpto_row_tie : Rows.fnBigBezoutUptoRow.laidByTextAt .later Tryz.pinned [.data, .data, .sentinel, .sentinel, .sentinel, .data, .data, .data, .data, .data] true :=
  OpenClaim.laidByTextAt_later rfl rfl tie noOwnUnsafe
theorem fnBigCompareUpto_row_tie : Rows.fnBigCompareUptoRow.laidByTextAt .later Tryz.pinned [.data, .data, .sentinel, .sentinel, .sentinel, .data, .data, .data, .data, .data] true :=
  OpenClaim.laidByTextAt_later rfl rfl tie noOwnUnsafe
theorem fnBigKeptUpto_row_tie : Rows.fnBigKeptUptoRow.laidByTextAt .later Tryz.pinned [.data, .data, .sentinel, .sentinel, .sentinel, .data, .data, .data, .data, .data] true :=
  OpenClaim.laidByTextAt_later rfl rfl tie noOwnUnsafe
theorem fnBigInverseUpto_row_tie : Rows.fnBigInverseUptoRow.laidByTextAt .later Tryz.pinned [.data, .data, .sentinel, .sentinel, .sentinel, .data, .data, .data, .data, .data] true :=
  OpenClaim.laidByTextAt_later rfl rfl tie noOwnUnsafe
theorem fnBigMadeUpto_row_tie : Rows.fnBigMadeUptoRow.laidByTextAt .later Tryz.pinned [.data, .data, .sentinel, .sentinel, .sentinel, .data, .data, .data, .data, .data] true :=
  OpenClaim.laidByTextAt_later rfl rfl tie noOwnUnsafe
theorem fnBigBothUpto_row_tie : Rows.fnBigBothUptoRow.laidByTextAt .later Tryz.pinned [.data, .data, .sentinel, .sentinel, .sentinel, .data, .data, .data, .data, .data] true :=
  OpenClaim.laidByTextAt_later rfl rfl tie noOwnUnsafe
theorem fnBigShiftUpto_row_tie : Rows.fnBigShiftUptoRow.laidByTextAt .later Tryz.pinned [.data, .data, .sentinel, .sentinel, .sentinel, .data, .data, .data, .data, .data] true :=
  OpenClaim.laidByTextAt_later rfl rfl tie noOwnUnsafe
theorem fnBigTextUpto_row_tie : Rows.fnBigTextUptoRow.laidByTextAt .later Tryz.pinned [.data, .data, .sentinel, .sentinel, .sentinel, .data, .data, .data, .data, .data] true :=
  OpenClaim.laidByTextAt_later rfl rfl tie noOwnUnsafe
theorem fnBigPowerUpto_row_tie : Rows.fnBigPowerUptoRow.laidByTextAt .later Tryz.pinned [.data, .data, .sentinel, .sentinel, .sentinel, .data, .data, .data, .data, .data] true :=
  OpenClaim.laidByTextAt_later rfl rfl tie noOwnUnsafe
theorem fnBigBitUpto_row_tie : Rows.fnBigBitUptoRow.laidByTextAt .later Tryz.pinned [.data, .data, .sentinel, .sentinel, .sentinel, .data, .data, .data, .data, .data] true :=
  OpenClaim.laidByTextAt_later rfl rfl tie noOwnUnsafe
theorem fnBigBytesUpto_row_tie : Rows.fnBigBytesUptoRow.laidByTextAt .later Tryz.pinned [.data, .data, .sentinel, .sentinel, .sentinel, .data, .data, .data, .data, .data] true :=
  OpenClaim.laidByTextAt_later rfl rfl tie noOwnUnsafe
theorem fnBigRangeUpto_row_tie : Rows.fnBigRangeUptoRow.laidByTextAt .later Tryz.pinned [.data, .data, .sentinel, .sentinel, .sentinel, .data, .data, .data, .data, .data] true :=
  OpenClaim.laidByTextAt_later rfl rfl tie noOwnUnsafe
theorem fnBigOneUpto_row_tie : Rows.fnBigOneUptoRow.laidByTextAt .later Tryz.pinned [.data, .data, .sentinel, .sentinel, .sentinel, .data, .data, .data, .data, .data] true :=
  OpenClaim.laidByTextAt_later rfl rfl tie noOwnUnsafe
theorem fnBigTellUpto_row_tie : Rows.fnBigTellUptoRow.laidByTextAt .later Tryz.pinned [.data, .data, .sentinel, .sentinel, .sentinel, .data, .data, .data, .data, .data] true :=
  OpenClaim.laidByTextAt_later rfl rfl tie noOwnUnsafe
end Go.Proofs.YtacbllkmcldniaaGreatDoor
