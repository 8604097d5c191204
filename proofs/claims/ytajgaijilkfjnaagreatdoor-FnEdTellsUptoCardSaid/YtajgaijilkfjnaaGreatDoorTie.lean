/-
  DERIVED. GIVEN WITH THE SEED: THE PROGRAM's TIES (one call each: nine closed facts by the kernel) AND EACH ROW's TIE, after the 31st guide's Derived/Test/Toyas{Tie, Card}.lean. No idea stands in it: it is a product of the set-up. Laid BY PROGRAM, IN A SANDBOX (cutbox-door.mjs). By AI agents, Wed Nov 11 2026. No macro, syntax, notation, axiom, sorry.
-/
import Derived.Test.YtajgaijilkfjnaaGreatDoorRows
import Derived.LaidByTextLater
import Derived.SevenTiedAt
import Derived.LaidSub
import Derived.LaidOnce
namespace Go.Proofs.YtajgaijilkfjnaaGreatDoor
open Go
set_option maxRecDepth 100000
theorem seatTie1 : Tryz.prog.laidByTextLater [("math/bits.deBruijn32tab", Rows.laid_math_bits_deBruijn32tab), ("math/bits.deBruijn64tab", Rows.laid_math_bits_deBruijn64tab), ("io.EOF", Rows.laid_io_EOF), ("pub-foxglove/pub/bigall.errNoDigits", Rows.laid_pub_foxglove_pub_bigall_errNoDigits), ("pub-foxglove/pub/bigall.errInvalSep", Rows.laid_pub_foxglove_pub_bigall_errInvalSep), ("pub-foxglove/pub/bigall.leafSize", Rows.laid_pub_foxglove_pub_bigall_leafSize), ("pub-foxglove/pub/bigall.divRecursiveThreshold", Rows.laid_pub_foxglove_pub_bigall_divRecursiveThreshold), ("pub-foxglove/pub/bigall.karatsubaThreshold", Rows.laid_pub_foxglove_pub_bigall_karatsubaThreshold), ("pub-foxglove/pub/bigall.basicSqrThreshold", Rows.laid_pub_foxglove_pub_bigall_basicSqrThreshold), ("pub-foxglove/pub/bigall.karatsubaSqrThreshold", Rows.laid_pub_foxglove_pub_bigall_karatsubaSqrThreshold), ("pub-foxglove/pub/gnarkcrypto/ecc/bn254/fr.rSquare", Rows.laid_pub_foxglove_pub_gnarkcrypto_ecc_bn254_fr_rSquare)] [.data, .data, .sentinel, .sentinel, .sentinel, .data, .data, .data, .data, .data, .widerDeep] true :=
  Program.laidByTextLater_by_one 101 8 65 (by kernel_rfl) (by kernel_rfl) (by kernel_rfl) (by kernel_rfl) (by kernel_rfl) (by kernel_rfl) (fun _ _ => by kernel_rfl)
theorem noOwnUnsafe : Tryz.pinned.checked.prog.headLifts.contains "ownunsafe" = false := by kernel_rfl
theorem tie : Tryz.prog.laidByTextLater [("math/bits.deBruijn32tab", Rows.laid_math_bits_deBruijn32tab), ("math/bits.deBruijn64tab", Rows.laid_math_bits_deBruijn64tab), ("io.EOF", Rows.laid_io_EOF), ("pub-foxglove/pub/bigall.errNoDigits", Rows.laid_pub_foxglove_pub_bigall_errNoDigits), ("pub-foxglove/pub/bigall.errInvalSep", Rows.laid_pub_foxglove_pub_bigall_errInvalSep), ("pub-foxglove/pub/bigall.leafSize", Rows.laid_pub_foxglove_pub_bigall_leafSize), ("pub-foxglove/pub/bigall.divRecursiveThreshold", Rows.laid_pub_foxglove_pub_bigall_divRecursiveThreshold), ("pub-foxglove/pub/bigall.karatsubaThreshold", Rows.laid_pub_foxglove_pub_bigall_karatsubaThreshold), ("pub-foxglove/pub/bigall.basicSqrThreshold", Rows.laid_pub_foxglove_pub_bigall_basicSqrThreshold), ("pub-foxglove/pub/bigall.karatsubaSqrThreshold", Rows.laid_pub_foxglove_pub_bigall_karatsubaSqrThreshold), ("pub-foxglove/pub/gnarkcrypto/ecc/bn254/fr.rSquare", Rows.laid_pub_foxglove_pub_gnarkcrypto_ecc_bn254_fr_rSquare)] [.data, .data, .sentinel, .sentinel, .sentinel, .data, .data, .data, .data, .data, .widerDeep] true :=
  Program.laidByTextLater.sub seatTie1 ["math/bits.deBruijn32tab", "math/bits.deBruijn64tab", "io.EOF", "pub-foxglove/pub/bigall.errNoDigits", "pub-foxglove/pub/bigall.errInvalSep", "pub-foxglove/pub/bigall.leafSize", "pub-foxglove/pub/bigall.divRecursiveThreshold", "pub-foxglove/pub/bigall.karatsubaThreshold", "pub-foxglove/pub/bigall.basicSqrThreshold", "pub-foxglove/pub/bigall.karatsubaSqrThreshold", "pub-foxglove/pub/gnarkcrypto/ecc/bn254/fr.rSquare"] (by kernel_rfl) (by kernel_rfl)
theorem fnEdTells_row_tie : Rows.fnEdTellsRow.laidByTextAt .later Tryz.pinned [.data, .data, .sentinel, .sentinel, .sentinel, .data, .data, .data, .data, .data, .widerDeep] true :=
  OpenClaim.laidByTextAt_later rfl rfl tie noOwnUnsafe
theorem fnEdTellsUpto_row_tie : Rows.fnEdTellsUptoRow.laidByTextAt .later Tryz.pinned [.data, .data, .sentinel, .sentinel, .sentinel, .data, .data, .data, .data, .data, .widerDeep] true :=
  OpenClaim.laidByTextAt_later rfl rfl tie noOwnUnsafe
end Go.Proofs.YtajgaijilkfjnaaGreatDoor
