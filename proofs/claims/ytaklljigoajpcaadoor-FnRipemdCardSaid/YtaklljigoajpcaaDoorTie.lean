/-
  DERIVED. GIVEN WITH THE SEED: THE PROGRAM's TIES (one call each: nine closed facts by the kernel) AND EACH ROW's TIE, after the 31st guide's Derived/Test/Toyas{Tie, Card}.lean. No idea stands in it: it is a product of the set-up. Laid BY PROGRAM, IN A SANDBOX (cutbox-door.mjs). By AI agents, Wed Nov 11 2026. No macro, syntax, notation, axiom, sorry.
-/
import Derived.Test.YtaklljigoajpcaaDoorRows
import Derived.LaidByTextLater
import Derived.SevenTiedAt
import Derived.LaidSub
import Derived.LaidOnce
namespace Go.Proofs.YtaklljigoajpcaaDoor
open Go
set_option maxRecDepth 100000
theorem seatTie1 : Tryd.prog.laidByTextLater [("pub-wardkeep/pub/crypto/ripemd160._n", Rows.laid_pub_wardkeep_pub_crypto_ripemd160_n), ("pub-wardkeep/pub/crypto/ripemd160._r", Rows.laid_pub_wardkeep_pub_crypto_ripemd160_r), ("pub-wardkeep/pub/crypto/ripemd160.n_", Rows.laid_pub_wardkeep_pub_crypto_ripemd160_n_), ("pub-wardkeep/pub/crypto/ripemd160.r_", Rows.laid_pub_wardkeep_pub_crypto_ripemd160_r_)] [.data, .data, .data, .data] true :=
  Program.laidByTextLater_by_one 54 8 81 (by kernel_rfl) (by kernel_rfl) (by kernel_rfl) (by kernel_rfl) (by kernel_rfl) (by kernel_rfl) (fun _ _ => by kernel_rfl)
theorem seatTie2 : Tryd.prog.laidByTextLater [("pub-wardkeep/pub/crypto/md4.shift1", Rows.laid_pub_wardkeep_pub_crypto_md4_shift1), ("pub-wardkeep/pub/crypto/md4.shift2", Rows.laid_pub_wardkeep_pub_crypto_md4_shift2), ("pub-wardkeep/pub/crypto/md4.shift3", Rows.laid_pub_wardkeep_pub_crypto_md4_shift3), ("pub-wardkeep/pub/crypto/md4.xIndex2", Rows.laid_pub_wardkeep_pub_crypto_md4_xIndex2), ("pub-wardkeep/pub/crypto/md4.xIndex3", Rows.laid_pub_wardkeep_pub_crypto_md4_xIndex3)] [.data, .data, .data, .data, .data] true :=
  Program.laidByTextLater_by_one 54 8 81 (by kernel_rfl) (by kernel_rfl) (by kernel_rfl) (by kernel_rfl) (by kernel_rfl) (by kernel_rfl) (fun _ _ => by kernel_rfl)
theorem seatTie3 : Tryd.prog.laidByTextLater [("pub-wardkeep/pub/crypto/md4.shift1", Rows.laid_pub_wardkeep_pub_crypto_md4_shift1), ("pub-wardkeep/pub/crypto/md4.shift2", Rows.laid_pub_wardkeep_pub_crypto_md4_shift2), ("pub-wardkeep/pub/crypto/md4.shift3", Rows.laid_pub_wardkeep_pub_crypto_md4_shift3), ("pub-wardkeep/pub/crypto/md4.xIndex2", Rows.laid_pub_wardkeep_pub_crypto_md4_xIndex2), ("pub-wardkeep/pub/crypto/md4.xIndex3", Rows.laid_pub_wardkeep_pub_crypto_md4_xIndex3), ("pub-wardkeep/pub/crypto/ripemd160._n", Rows.laid_pub_wardkeep_pub_crypto_ripemd160_n), ("pub-wardkeep/pub/crypto/ripemd160._r", Rows.laid_pub_wardkeep_pub_crypto_ripemd160_r), ("pub-wardkeep/pub/crypto/ripemd160.n_", Rows.laid_pub_wardkeep_pub_crypto_ripemd160_n_), ("pub-wardkeep/pub/crypto/ripemd160.r_", Rows.laid_pub_wardkeep_pub_crypto_ripemd160_r_)] [.data, .data, .data, .data, .data, .data, .data, .data, .data] true :=
  Program.laidByTextLater_by_one 54 8 81 (by kernel_rfl) (by kernel_rfl) (by kernel_rfl) (by kernel_rfl) (by kernel_rfl) (by kernel_rfl) (fun _ _ => by kernel_rfl)
theorem noOwnUnsafe : Tryd.pinned.checked.prog.headLifts.contains "ownunsafe" = false := by kernel_rfl
theorem tie : Tryd.prog.laidByTextLater [("pub-wardkeep/pub/crypto/ripemd160._n", Rows.laid_pub_wardkeep_pub_crypto_ripemd160_n), ("pub-wardkeep/pub/crypto/ripemd160._r", Rows.laid_pub_wardkeep_pub_crypto_ripemd160_r), ("pub-wardkeep/pub/crypto/ripemd160.n_", Rows.laid_pub_wardkeep_pub_crypto_ripemd160_n_), ("pub-wardkeep/pub/crypto/ripemd160.r_", Rows.laid_pub_wardkeep_pub_crypto_ripemd160_r_)] [.data, .data, .data, .data] true :=
  Program.laidByTextLater.sub seatTie1 ["pub-wardkeep/pub/crypto/ripemd160._n", "pub-wardkeep/pub/crypto/ripemd160._r", "pub-wardkeep/pub/crypto/ripemd160.n_", "pub-wardkeep/pub/crypto/ripemd160.r_"] (by kernel_rfl) (by kernel_rfl)
theorem fnRipemd_row_tie : Rows.fnRipemdRow.laidByTextAt .later Tryd.pinned [.data, .data, .data, .data] true :=
  OpenClaim.laidByTextAt_later rfl rfl tie noOwnUnsafe
theorem fnRipemdBlocks_row_tie : Rows.fnRipemdBlocksRow.laidByTextAt .later Tryd.pinned [.data, .data, .data, .data] true :=
  OpenClaim.laidByTextAt_later rfl rfl tie noOwnUnsafe
theorem tie2 : Tryd.prog.laidByTextLater [("pub-wardkeep/pub/crypto/md4.shift1", Rows.laid_pub_wardkeep_pub_crypto_md4_shift1), ("pub-wardkeep/pub/crypto/md4.shift2", Rows.laid_pub_wardkeep_pub_crypto_md4_shift2), ("pub-wardkeep/pub/crypto/md4.shift3", Rows.laid_pub_wardkeep_pub_crypto_md4_shift3), ("pub-wardkeep/pub/crypto/md4.xIndex2", Rows.laid_pub_wardkeep_pub_crypto_md4_xIndex2), ("pub-wardkeep/pub/crypto/md4.xIndex3", Rows.laid_pub_wardkeep_pub_crypto_md4_xIndex3)] [.data, .data, .data, .data, .data] true :=
  Program.laidByTextLater.sub seatTie2 ["pub-wardkeep/pub/crypto/md4.shift1", "pub-wardkeep/pub/crypto/md4.shift2", "pub-wardkeep/pub/crypto/md4.shift3", "pub-wardkeep/pub/crypto/md4.xIndex2", "pub-wardkeep/pub/crypto/md4.xIndex3"] (by kernel_rfl) (by kernel_rfl)
theorem fnMd4Blocks_row_tie : Rows.fnMd4BlocksRow.laidByTextAt .later Tryd.pinned [.data, .data, .data, .data, .data] true :=
  OpenClaim.laidByTextAt_later rfl rfl tie2 noOwnUnsafe
theorem tie3 : Tryd.prog.laidByTextLater [("pub-wardkeep/pub/crypto/md4.shift1", Rows.laid_pub_wardkeep_pub_crypto_md4_shift1), ("pub-wardkeep/pub/crypto/md4.shift2", Rows.laid_pub_wardkeep_pub_crypto_md4_shift2), ("pub-wardkeep/pub/crypto/md4.shift3", Rows.laid_pub_wardkeep_pub_crypto_md4_shift3), ("pub-wardkeep/pub/crypto/md4.xIndex2", Rows.laid_pub_wardkeep_pub_crypto_md4_xIndex2), ("pub-wardkeep/pub/crypto/md4.xIndex3", Rows.laid_pub_wardkeep_pub_crypto_md4_xIndex3), ("pub-wardkeep/pub/crypto/ripemd160._n", Rows.laid_pub_wardkeep_pub_crypto_ripemd160_n), ("pub-wardkeep/pub/crypto/ripemd160._r", Rows.laid_pub_wardkeep_pub_crypto_ripemd160_r), ("pub-wardkeep/pub/crypto/ripemd160.n_", Rows.laid_pub_wardkeep_pub_crypto_ripemd160_n_), ("pub-wardkeep/pub/crypto/ripemd160.r_", Rows.laid_pub_wardkeep_pub_crypto_ripemd160_r_)] [.data, .data, .data, .data, .data, .data, .data, .data, .data] true :=
  Program.laidByTextLater.sub seatTie3 ["pub-wardkeep/pub/crypto/md4.shift1", "pub-wardkeep/pub/crypto/md4.shift2", "pub-wardkeep/pub/crypto/md4.shift3", "pub-wardkeep/pub/crypto/md4.xIndex2", "pub-wardkeep/pub/crypto/md4.xIndex3", "pub-wardkeep/pub/crypto/ripemd160._n", "pub-wardkeep/pub/crypto/ripemd160._r", "pub-wardkeep/pub/crypto/ripemd160.n_", "pub-wardkeep/pub/crypto/ripemd160.r_"] (by kernel_rfl) (by kernel_rfl)
theorem fnBlocksJoin_row_tie : Rows.fnBlocksJoinRow.laidByTextAt .later Tryd.pinned [.data, .data, .data, .data, .data, .data, .data, .data, .data] true :=
  OpenClaim.laidByTextAt_later rfl rfl tie3 noOwnUnsafe
theorem fnDigestsPadded_row_tie : Rows.fnDigestsPaddedRow.laidByTextAt .later Tryd.pinned [.data, .data, .data, .data, .data, .data, .data, .data, .data] true :=
  OpenClaim.laidByTextAt_later rfl rfl tie3 noOwnUnsafe
theorem fnRipemdUpto_row_tie : Rows.fnRipemdUptoRow.laidByTextAt .later Tryd.pinned [.data, .data, .data, .data] true :=
  OpenClaim.laidByTextAt_later rfl rfl tie noOwnUnsafe
theorem fnMd4BlocksUpto_row_tie : Rows.fnMd4BlocksUptoRow.laidByTextAt .later Tryd.pinned [.data, .data, .data, .data, .data] true :=
  OpenClaim.laidByTextAt_later rfl rfl tie2 noOwnUnsafe
theorem fnRipemdBlocksUpto_row_tie : Rows.fnRipemdBlocksUptoRow.laidByTextAt .later Tryd.pinned [.data, .data, .data, .data] true :=
  OpenClaim.laidByTextAt_later rfl rfl tie noOwnUnsafe
theorem fnBlocksJoinUpto_row_tie : Rows.fnBlocksJoinUptoRow.laidByTextAt .later Tryd.pinned [.data, .data, .data, .data, .data, .data, .data, .data, .data] true :=
  OpenClaim.laidByTextAt_later rfl rfl tie3 noOwnUnsafe
theorem fnDigestsPaddedUpto_row_tie : Rows.fnDigestsPaddedUptoRow.laidByTextAt .later Tryd.pinned [.data, .data, .data, .data, .data, .data, .data, .data, .data] true :=
  OpenClaim.laidByTextAt_later rfl rfl tie3 noOwnUnsafe
end Go.Proofs.YtaklljigoajpcaaDoor
