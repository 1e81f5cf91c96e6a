/-
  DERIVED. GIVEN WITH THE SEED: THE PROGRAM's TIES (one call each: nine closed facts by the kernel) AND EACH ROW's TIE, after the 31st guide's Derived/Test/Toyas{Tie, Card}.lean. No idea stands in it: it is a product of the set-up. Laid BY PROGRAM, IN A SANDBOX (cutbox-door.mjs). By AI agents, Wed Nov 11 2026. No macro, syntax, notation, axiom, sorry.
-/
import Derived.Test.YtgnkjjgbdlkidaaGreatDoorRows
import Derived.LaidByTextLater
import Derived.SevenTiedAt
import Derived.LaidSub
import Derived.LaidOnce
namespace Go.Proofs.YtgnkjjgbdlkidaaGreatDoor
open Go
set_option maxRecDepth 100000
theorem seatTie1 : Tryz.prog.laidByTextLater [("math/bits.deBruijn32tab", Rows.laid_math_bits_deBruijn32tab), ("math/bits.deBruijn64tab", Rows.laid_math_bits_deBruijn64tab), ("io.EOF", Rows.laid_io_EOF), ("pub-seniority/pub/bigall.errNoDigits", Rows.laid_pub_seniority_pub_bigall_errNoDigits), ("pub-seniority/pub/bigall.errInvalSep", Rows.laid_pub_seniority_pub_bigall_errInvalSep), ("pub-seniority/pub/bigall.leafSize", Rows.laid_pub_seniority_pub_bigall_leafSize), ("pub-seniority/pub/bigall.divRecursiveThreshold", Rows.laid_pub_seniority_pub_bigall_divRecursiveThreshold), ("pub-seniority/pub/bigall.karatsubaThreshold", Rows.laid_pub_seniority_pub_bigall_karatsubaThreshold), ("pub-seniority/pub/bigall.basicSqrThreshold", Rows.laid_pub_seniority_pub_bigall_basicSqrThreshold), ("pub-seniority/pub/bigall.karatsubaSqrThreshold", Rows.laid_pub_seniority_pub_bigall_karatsubaSqrThreshold), ("pub-seniority/pub/scalibr/semantic.ErrInvalidVersion", Rows.laid_pub_seniority_pub_scalibr_semantic_ErrInvalidVersion)] [.data, .data, .sentinel, .sentinel, .sentinel, .data, .data, .data, .data, .data, .sentinel] true :=
  Program.laidByTextLater_by_one 115 8 65 (by kernel_rfl) (by kernel_rfl) (by kernel_rfl) (by kernel_rfl) (by kernel_rfl) (by kernel_rfl) (fun _ _ => by kernel_rfl)
theorem noOwnUnsafe : Tryz.pinned.checked.prog.headLifts.contains "ownunsafe" = false := by kernel_rfl
theorem tie : Tryz.prog.laidByTextLater [("math/bits.deBruijn32tab", Rows.laid_math_bits_deBruijn32tab), ("math/bits.deBruijn64tab", Rows.laid_math_bits_deBruijn64tab), ("io.EOF", Rows.laid_io_EOF), ("pub-seniority/pub/bigall.errNoDigits", Rows.laid_pub_seniority_pub_bigall_errNoDigits), ("pub-seniority/pub/bigall.errInvalSep", Rows.laid_pub_seniority_pub_bigall_errInvalSep), ("pub-seniority/pub/bigall.leafSize", Rows.laid_pub_seniority_pub_bigall_leafSize), ("pub-seniority/pub/bigall.divRecursiveThreshold", Rows.laid_pub_seniority_pub_bigall_divRecursiveThreshold), ("pub-seniority/pub/bigall.karatsubaThreshold", Rows.laid_pub_seniority_pub_bigall_karatsubaThreshold), ("pub-seniority/pub/bigall.basicSqrThreshold", Rows.laid_pub_seniority_pub_bigall_basicSqrThreshold), ("pub-seniority/pub/bigall.karatsubaSqrThreshold", Rows.laid_pub_seniority_pub_bigall_karatsubaSqrThreshold), ("pub-seniority/pub/scalibr/semantic.ErrInvalidVersion", Rows.laid_pub_seniority_pub_scalibr_semantic_ErrInvalidVersion)] [.data, .data, .sentinel, .sentinel, .sentinel, .data, .data, .data, .data, .data, .sentinel] true :=
  Program.laidByTextLater.sub seatTie1 ["math/bits.deBruijn32tab", "math/bits.deBruijn64tab", "io.EOF", "pub-seniority/pub/bigall.errNoDigits", "pub-seniority/pub/bigall.errInvalSep", "pub-seniority/pub/bigall.leafSize", "pub-seniority/pub/bigall.divRecursiveThreshold", "pub-seniority/pub/bigall.karatsubaThreshold", "pub-seniority/pub/bigall.basicSqrThreshold", "pub-seniority/pub/bigall.karatsubaSqrThreshold", "pub-seniority/pub/scalibr/semantic.ErrInvalidVersion"] (by kernel_rfl) (by kernel_rfl)
theorem fnSemverMeaning_row_tie : Rows.fnSemverMeaningRow.laidByTextAt .later Tryz.pinned [.data, .data, .sentinel, .sentinel, .sentinel, .data, .data, .data, .data, .data, .sentinel] true :=
  OpenClaim.laidByTextAt_later rfl rfl tie noOwnUnsafe
theorem fnSemverMeaningUpto_row_tie : Rows.fnSemverMeaningUptoRow.laidByTextAt .later Tryz.pinned [.data, .data, .sentinel, .sentinel, .sentinel, .data, .data, .data, .data, .data, .sentinel] true :=
  OpenClaim.laidByTextAt_later rfl rfl tie noOwnUnsafe
end Go.Proofs.YtgnkjjgbdlkidaaGreatDoor
