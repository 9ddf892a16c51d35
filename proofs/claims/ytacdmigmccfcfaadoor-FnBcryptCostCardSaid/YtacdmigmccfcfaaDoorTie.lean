/-
  DERIVED. GIVEN WITH THE SEED: THE PROGRAM's TIES (one call each: nine closed facts by the kernel) AND EACH ROW's TIE, after the 31st guide's Derived/Test/Toyas{Tie, Card}.lean. No idea stands in it: it is a product of the set-up. Laid BY PROGRAM, IN A SANDBOX (cutbox-door.mjs). By AI agents, Wed Nov 11 2026. No macro, syntax, notation, axiom, sorry.
-/
import Derived.Test.YtacdmigmccfcfaaDoorRows
import Derived.LaidByTextLater
import Derived.SevenTiedAt
import Derived.LaidSub
import Derived.LaidOnce
namespace Go.Proofs.YtacdmigmccfcfaaDoor
open Go
set_option maxRecDepth 100000
theorem seatTie1 : Tryd.prog.laidByTextLater [("math/bits.deBruijn32tab", Rows.laid_math_bits_deBruijn32tab), ("math/bits.deBruijn64tab", Rows.laid_math_bits_deBruijn64tab), ("internal/strconv.uint64pow10", Rows.laid_internal_strconv_uint64pow10), ("errors.errorType", Rows.laid_errors_errorType), ("strconv.ErrRange", Rows.laid_strconv_ErrRange), ("strconv.ErrSyntax", Rows.laid_strconv_ErrSyntax), ("pub-wardkeep/pub/crypto/bcrypt.ErrMismatchedHashAndPassword", Rows.laid_pub_wardkeep_pub_crypto_bcrypt_ErrMismatchedHashAndPassword), ("pub-wardkeep/pub/crypto/bcrypt.ErrHashTooShort", Rows.laid_pub_wardkeep_pub_crypto_bcrypt_ErrHashTooShort)] [.data, .data, .data, .handle, .sentinel, .sentinel, .sentinel, .sentinel] true :=
  Program.laidByTextLater_by_one 107 8 65 (by kernel_rfl) (by kernel_rfl) (by kernel_rfl) (by kernel_rfl) (by kernel_rfl) (by kernel_rfl) (fun _ _ => by kernel_rfl)
theorem noOwnUnsafe : Tryd.pinned.checked.prog.headLifts.contains "ownunsafe" = false := by kernel_rfl
theorem tie : Tryd.prog.laidByTextLater [("math/bits.deBruijn32tab", Rows.laid_math_bits_deBruijn32tab), ("math/bits.deBruijn64tab", Rows.laid_math_bits_deBruijn64tab), ("internal/strconv.uint64pow10", Rows.laid_internal_strconv_uint64pow10), ("errors.errorType", Rows.laid_errors_errorType), ("strconv.ErrRange", Rows.laid_strconv_ErrRange), ("strconv.ErrSyntax", Rows.laid_strconv_ErrSyntax), ("pub-wardkeep/pub/crypto/bcrypt.ErrMismatchedHashAndPassword", Rows.laid_pub_wardkeep_pub_crypto_bcrypt_ErrMismatchedHashAndPassword), ("pub-wardkeep/pub/crypto/bcrypt.ErrHashTooShort", Rows.laid_pub_wardkeep_pub_crypto_bcrypt_ErrHashTooShort)] [.data, .data, .data, .handle, .sentinel, .sentinel, .sentinel, .sentinel] true :=
  Program.laidByTextLater.sub seatTie1 ["math/bits.deBruijn32tab", "math/bits.deBruijn64tab", "internal/strconv.uint64pow10", "errors.errorType", "strconv.ErrRange", "strconv.ErrSyntax", "pub-wardkeep/pub/crypto/bcrypt.ErrMismatchedHashAndPassword", "pub-wardkeep/pub/crypto/bcrypt.ErrHashTooShort"] (by kernel_rfl) (by kernel_rfl)
theorem fnBcryptCost_row_tie : Rows.fnBcryptCostRow.laidByTextAt .later Tryd.pinned [.data, .data, .data, .handle, .sentinel, .sentinel, .sentinel, .sentinel] true :=
  OpenClaim.laidByTextAt_later rfl rfl tie noOwnUnsafe
theorem fnBcryptCostUpto_row_tie : Rows.fnBcryptCostUptoRow.laidByTextAt .later Tryd.pinned [.data, .data, .data, .handle, .sentinel, .sentinel, .sentinel, .sentinel] true :=
  OpenClaim.laidByTextAt_later rfl rfl tie noOwnUnsafe
end Go.Proofs.YtacdmigmccfcfaaDoor
