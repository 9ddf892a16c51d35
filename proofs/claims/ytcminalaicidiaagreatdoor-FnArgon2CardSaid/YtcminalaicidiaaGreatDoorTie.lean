/-
  DERIVED. GIVEN WITH THE SEED: THE PROGRAM's TIES (one call each: nine closed facts by the kernel) AND EACH ROW's TIE, after the 31st guide's Derived/Test/Toyas{Tie, Card}.lean. No idea stands in it: it is a product of the set-up. Laid BY PROGRAM, IN A SANDBOX (cutbox-door.mjs). By AI agents, Wed Nov 11 2026. No macro, syntax, notation, axiom, sorry.
-/
import Derived.Test.YtcminalaicidiaaGreatDoorRows
import Derived.LaidByTextLater
import Derived.SevenTiedAt
import Derived.LaidSub
import Derived.LaidOnce
namespace Go.Proofs.YtcminalaicidiaaGreatDoor
open Go
set_option maxRecDepth 100000
theorem seatTie1 : Tryz.prog.laidByTextLater [("pub-wardkeep/pub/crypto/blake2b.errKeySize", Rows.laid_pub_wardkeep_pub_crypto_blake2b_errKeySize), ("pub-wardkeep/pub/crypto/blake2b.errHashSize", Rows.laid_pub_wardkeep_pub_crypto_blake2b_errHashSize), ("pub-wardkeep/pub/crypto/blake2b.iv", Rows.laid_pub_wardkeep_pub_crypto_blake2b_iv), ("pub-wardkeep/pub/crypto/blake2b.precomputed", Rows.laid_pub_wardkeep_pub_crypto_blake2b_precomputed)] [.sentinel, .sentinel, .data, .data] true :=
  Program.laidByTextLater_by_one 69 8 193 (by kernel_rfl) (by kernel_rfl) (by kernel_rfl) (by kernel_rfl) (by kernel_rfl) (by kernel_rfl) (fun _ _ => by kernel_rfl)
theorem noOwnUnsafe : Tryz.pinned.checked.prog.headLifts.contains "ownunsafe" = false := by kernel_rfl
theorem tie : Tryz.prog.laidByTextLater [("pub-wardkeep/pub/crypto/blake2b.errKeySize", Rows.laid_pub_wardkeep_pub_crypto_blake2b_errKeySize), ("pub-wardkeep/pub/crypto/blake2b.errHashSize", Rows.laid_pub_wardkeep_pub_crypto_blake2b_errHashSize), ("pub-wardkeep/pub/crypto/blake2b.iv", Rows.laid_pub_wardkeep_pub_crypto_blake2b_iv), ("pub-wardkeep/pub/crypto/blake2b.precomputed", Rows.laid_pub_wardkeep_pub_crypto_blake2b_precomputed)] [.sentinel, .sentinel, .data, .data] true :=
  Program.laidByTextLater.sub seatTie1 ["pub-wardkeep/pub/crypto/blake2b.errKeySize", "pub-wardkeep/pub/crypto/blake2b.errHashSize", "pub-wardkeep/pub/crypto/blake2b.iv", "pub-wardkeep/pub/crypto/blake2b.precomputed"] (by kernel_rfl) (by kernel_rfl)
theorem fnArgon2Derive_row_tie : Rows.fnArgon2DeriveRow.laidByTextAt .later Tryz.pinned [.sentinel, .sentinel, .data, .data] true :=
  OpenClaim.laidByTextAt_later rfl rfl tie noOwnUnsafe
theorem fnArgon2_row_tie : Rows.fnArgon2Row.laidByTextAt .later Tryz.pinned [.sentinel, .sentinel, .data, .data] true :=
  OpenClaim.laidByTextAt_later rfl rfl tie noOwnUnsafe
theorem fnArgon2DeriveUpto_row_tie : Rows.fnArgon2DeriveUptoRow.laidByTextAt .later Tryz.pinned [.sentinel, .sentinel, .data, .data] true :=
  OpenClaim.laidByTextAt_later rfl rfl tie noOwnUnsafe
theorem fnArgon2Upto_row_tie : Rows.fnArgon2UptoRow.laidByTextAt .later Tryz.pinned [.sentinel, .sentinel, .data, .data] true :=
  OpenClaim.laidByTextAt_later rfl rfl tie noOwnUnsafe
end Go.Proofs.YtcminalaicidiaaGreatDoor
