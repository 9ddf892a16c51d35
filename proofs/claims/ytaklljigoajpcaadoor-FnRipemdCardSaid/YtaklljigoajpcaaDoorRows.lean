/-
  NARROWER THAN 'FOR EVERY INPUT', by the rows' own cells (each row's printed sentence says how): FnRipemd: laid · FnMd4Blocks: laid · FnRipemdBlocks: laid · FnBlocksJoin: laid · FnDigestsPadded: laid.
  DERIVED. THE GIVEN ROWS OF THIS SEAT. 5 by the template 'for every input the law returns true; each argument reads behind the call as it read before'; 0 by the template 'total and deterministic' (their statements: YtaklljigoajpcaaDoorTotals.lean).
  GIVEN WITH THE SEED: the statements are not yours to turn. If you find one false, say at which input.
  Laid BY PROGRAM, IN A SANDBOX (cutbox-rows.mjs): the forced cells as the released guide's own fill.sh prints them over the translation c5bf4811fd052e6b… (all of the seat's roots in one cut). By AI agents, Wed Nov 11 2026. No macro, syntax, notation, axiom, sorry.
-/
import Derived.Test.YtaklljigoajpcaaDoorChecked
import GoSem.Claim
import GoSem.ClaimJoined
import GoSem.ClaimMapViews
import Derived.JoinedTies
import Derived.KernelRfl
namespace Go.Proofs.YtaklljigoajpcaaDoor
/- THE CELL 'sum', in the pinned program and in every row, IS THE sha256 OF THE DUMP (.gsa) THAT YtaklljigoajpcaaDoorProg.lean LOADS. Nothing in Lean hashes anything: it is a label: what it is worth is what the hold of that sum in a sandbox is worth. -/
noncomputable def Tryd.pinned : Pinned := { name := "ytaklljigoajpcaadoor", sum := "c5bf4811fd052e6bfb4f7f8d3a7586e4d9f22529a41c6c3451fe8d0e62f19ec8", checked := Tryd.checked }
namespace Rows
def none {H : Type} : Left H := { results := [], args := [] }

/- WHAT THE LISTED PACKAGE-LEVEL VARIABLES READ AS WHEN THE CALL BEGINS. Each datum BY PROGRAM (the guide's laid-datum.mjs) off the statement by which the dump's own 'gosem.cut.vars' lays the variable. In a bare row this is a premise. The card (YtaklljigoajpcaaDoorCards.lean) ties it to the program's text. -/
def laid_pub_wardkeep_pub_crypto_ripemd160_n {H : Type} : DataW H := .agg [.lit (.int .u64 0), .lit (.int .u64 1), .lit (.int .u64 2), .lit (.int .u64 3), .lit (.int .u64 4), .lit (.int .u64 5), .lit (.int .u64 6), .lit (.int .u64 7), .lit (.int .u64 8), .lit (.int .u64 9), .lit (.int .u64 10), .lit (.int .u64 11), .lit (.int .u64 12), .lit (.int .u64 13), .lit (.int .u64 14), .lit (.int .u64 15), .lit (.int .u64 7), .lit (.int .u64 4), .lit (.int .u64 13), .lit (.int .u64 1), .lit (.int .u64 10), .lit (.int .u64 6), .lit (.int .u64 15), .lit (.int .u64 3), .lit (.int .u64 12), .lit (.int .u64 0), .lit (.int .u64 9), .lit (.int .u64 5), .lit (.int .u64 2), .lit (.int .u64 14), .lit (.int .u64 11), .lit (.int .u64 8), .lit (.int .u64 3), .lit (.int .u64 10), .lit (.int .u64 14), .lit (.int .u64 4), .lit (.int .u64 9), .lit (.int .u64 15), .lit (.int .u64 8), .lit (.int .u64 1), .lit (.int .u64 2), .lit (.int .u64 7), .lit (.int .u64 0), .lit (.int .u64 6), .lit (.int .u64 13), .lit (.int .u64 11), .lit (.int .u64 5), .lit (.int .u64 12), .lit (.int .u64 1), .lit (.int .u64 9), .lit (.int .u64 11), .lit (.int .u64 10), .lit (.int .u64 0), .lit (.int .u64 8), .lit (.int .u64 12), .lit (.int .u64 4), .lit (.int .u64 13), .lit (.int .u64 3), .lit (.int .u64 7), .lit (.int .u64 15), .lit (.int .u64 14), .lit (.int .u64 5), .lit (.int .u64 6), .lit (.int .u64 2), .lit (.int .u64 4), .lit (.int .u64 0), .lit (.int .u64 5), .lit (.int .u64 9), .lit (.int .u64 7), .lit (.int .u64 12), .lit (.int .u64 2), .lit (.int .u64 10), .lit (.int .u64 14), .lit (.int .u64 1), .lit (.int .u64 3), .lit (.int .u64 8), .lit (.int .u64 11), .lit (.int .u64 6), .lit (.int .u64 15), .lit (.int .u64 13)]
def laid_pub_wardkeep_pub_crypto_ripemd160_r {H : Type} : DataW H := .agg [.lit (.int .u64 11), .lit (.int .u64 14), .lit (.int .u64 15), .lit (.int .u64 12), .lit (.int .u64 5), .lit (.int .u64 8), .lit (.int .u64 7), .lit (.int .u64 9), .lit (.int .u64 11), .lit (.int .u64 13), .lit (.int .u64 14), .lit (.int .u64 15), .lit (.int .u64 6), .lit (.int .u64 7), .lit (.int .u64 9), .lit (.int .u64 8), .lit (.int .u64 7), .lit (.int .u64 6), .lit (.int .u64 8), .lit (.int .u64 13), .lit (.int .u64 11), .lit (.int .u64 9), .lit (.int .u64 7), .lit (.int .u64 15), .lit (.int .u64 7), .lit (.int .u64 12), .lit (.int .u64 15), .lit (.int .u64 9), .lit (.int .u64 11), .lit (.int .u64 7), .lit (.int .u64 13), .lit (.int .u64 12), .lit (.int .u64 11), .lit (.int .u64 13), .lit (.int .u64 6), .lit (.int .u64 7), .lit (.int .u64 14), .lit (.int .u64 9), .lit (.int .u64 13), .lit (.int .u64 15), .lit (.int .u64 14), .lit (.int .u64 8), .lit (.int .u64 13), .lit (.int .u64 6), .lit (.int .u64 5), .lit (.int .u64 12), .lit (.int .u64 7), .lit (.int .u64 5), .lit (.int .u64 11), .lit (.int .u64 12), .lit (.int .u64 14), .lit (.int .u64 15), .lit (.int .u64 14), .lit (.int .u64 15), .lit (.int .u64 9), .lit (.int .u64 8), .lit (.int .u64 9), .lit (.int .u64 14), .lit (.int .u64 5), .lit (.int .u64 6), .lit (.int .u64 8), .lit (.int .u64 6), .lit (.int .u64 5), .lit (.int .u64 12), .lit (.int .u64 9), .lit (.int .u64 15), .lit (.int .u64 5), .lit (.int .u64 11), .lit (.int .u64 6), .lit (.int .u64 8), .lit (.int .u64 13), .lit (.int .u64 12), .lit (.int .u64 5), .lit (.int .u64 12), .lit (.int .u64 13), .lit (.int .u64 14), .lit (.int .u64 11), .lit (.int .u64 8), .lit (.int .u64 5), .lit (.int .u64 6)]
def laid_pub_wardkeep_pub_crypto_ripemd160_n_ {H : Type} : DataW H := .agg [.lit (.int .u64 5), .lit (.int .u64 14), .lit (.int .u64 7), .lit (.int .u64 0), .lit (.int .u64 9), .lit (.int .u64 2), .lit (.int .u64 11), .lit (.int .u64 4), .lit (.int .u64 13), .lit (.int .u64 6), .lit (.int .u64 15), .lit (.int .u64 8), .lit (.int .u64 1), .lit (.int .u64 10), .lit (.int .u64 3), .lit (.int .u64 12), .lit (.int .u64 6), .lit (.int .u64 11), .lit (.int .u64 3), .lit (.int .u64 7), .lit (.int .u64 0), .lit (.int .u64 13), .lit (.int .u64 5), .lit (.int .u64 10), .lit (.int .u64 14), .lit (.int .u64 15), .lit (.int .u64 8), .lit (.int .u64 12), .lit (.int .u64 4), .lit (.int .u64 9), .lit (.int .u64 1), .lit (.int .u64 2), .lit (.int .u64 15), .lit (.int .u64 5), .lit (.int .u64 1), .lit (.int .u64 3), .lit (.int .u64 7), .lit (.int .u64 14), .lit (.int .u64 6), .lit (.int .u64 9), .lit (.int .u64 11), .lit (.int .u64 8), .lit (.int .u64 12), .lit (.int .u64 2), .lit (.int .u64 10), .lit (.int .u64 0), .lit (.int .u64 4), .lit (.int .u64 13), .lit (.int .u64 8), .lit (.int .u64 6), .lit (.int .u64 4), .lit (.int .u64 1), .lit (.int .u64 3), .lit (.int .u64 11), .lit (.int .u64 15), .lit (.int .u64 0), .lit (.int .u64 5), .lit (.int .u64 12), .lit (.int .u64 2), .lit (.int .u64 13), .lit (.int .u64 9), .lit (.int .u64 7), .lit (.int .u64 10), .lit (.int .u64 14), .lit (.int .u64 12), .lit (.int .u64 15), .lit (.int .u64 10), .lit (.int .u64 4), .lit (.int .u64 1), .lit (.int .u64 5), .lit (.int .u64 8), .lit (.int .u64 7), .lit (.int .u64 6), .lit (.int .u64 2), .lit (.int .u64 13), .lit (.int .u64 14), .lit (.int .u64 0), .lit (.int .u64 3), .lit (.int .u64 9), .lit (.int .u64 11)]
def laid_pub_wardkeep_pub_crypto_ripemd160_r_ {H : Type} : DataW H := .agg [.lit (.int .u64 8), .lit (.int .u64 9), .lit (.int .u64 9), .lit (.int .u64 11), .lit (.int .u64 13), .lit (.int .u64 15), .lit (.int .u64 15), .lit (.int .u64 5), .lit (.int .u64 7), .lit (.int .u64 7), .lit (.int .u64 8), .lit (.int .u64 11), .lit (.int .u64 14), .lit (.int .u64 14), .lit (.int .u64 12), .lit (.int .u64 6), .lit (.int .u64 9), .lit (.int .u64 13), .lit (.int .u64 15), .lit (.int .u64 7), .lit (.int .u64 12), .lit (.int .u64 8), .lit (.int .u64 9), .lit (.int .u64 11), .lit (.int .u64 7), .lit (.int .u64 7), .lit (.int .u64 12), .lit (.int .u64 7), .lit (.int .u64 6), .lit (.int .u64 15), .lit (.int .u64 13), .lit (.int .u64 11), .lit (.int .u64 9), .lit (.int .u64 7), .lit (.int .u64 15), .lit (.int .u64 11), .lit (.int .u64 8), .lit (.int .u64 6), .lit (.int .u64 6), .lit (.int .u64 14), .lit (.int .u64 12), .lit (.int .u64 13), .lit (.int .u64 5), .lit (.int .u64 14), .lit (.int .u64 13), .lit (.int .u64 13), .lit (.int .u64 7), .lit (.int .u64 5), .lit (.int .u64 15), .lit (.int .u64 5), .lit (.int .u64 8), .lit (.int .u64 11), .lit (.int .u64 14), .lit (.int .u64 14), .lit (.int .u64 6), .lit (.int .u64 14), .lit (.int .u64 6), .lit (.int .u64 9), .lit (.int .u64 12), .lit (.int .u64 9), .lit (.int .u64 12), .lit (.int .u64 5), .lit (.int .u64 15), .lit (.int .u64 8), .lit (.int .u64 8), .lit (.int .u64 5), .lit (.int .u64 12), .lit (.int .u64 9), .lit (.int .u64 12), .lit (.int .u64 5), .lit (.int .u64 14), .lit (.int .u64 6), .lit (.int .u64 8), .lit (.int .u64 13), .lit (.int .u64 6), .lit (.int .u64 5), .lit (.int .u64 15), .lit (.int .u64 13), .lit (.int .u64 11), .lit (.int .u64 11)]
def laid_pub_wardkeep_pub_crypto_md4_shift1 {H : Type} : DataW H := .slice [.lit (.int .i64 3), .lit (.int .i64 7), .lit (.int .i64 11), .lit (.int .i64 19)] []
def laid_pub_wardkeep_pub_crypto_md4_shift2 {H : Type} : DataW H := .slice [.lit (.int .i64 3), .lit (.int .i64 5), .lit (.int .i64 9), .lit (.int .i64 13)] []
def laid_pub_wardkeep_pub_crypto_md4_shift3 {H : Type} : DataW H := .slice [.lit (.int .i64 3), .lit (.int .i64 9), .lit (.int .i64 11), .lit (.int .i64 15)] []
def laid_pub_wardkeep_pub_crypto_md4_xIndex2 {H : Type} : DataW H := .slice [.lit (.int .u64 0), .lit (.int .u64 4), .lit (.int .u64 8), .lit (.int .u64 12), .lit (.int .u64 1), .lit (.int .u64 5), .lit (.int .u64 9), .lit (.int .u64 13), .lit (.int .u64 2), .lit (.int .u64 6), .lit (.int .u64 10), .lit (.int .u64 14), .lit (.int .u64 3), .lit (.int .u64 7), .lit (.int .u64 11), .lit (.int .u64 15)] []
def laid_pub_wardkeep_pub_crypto_md4_xIndex3 {H : Type} : DataW H := .slice [.lit (.int .u64 0), .lit (.int .u64 8), .lit (.int .u64 4), .lit (.int .u64 12), .lit (.int .u64 2), .lit (.int .u64 10), .lit (.int .u64 6), .lit (.int .u64 14), .lit (.int .u64 1), .lit (.int .u64 9), .lit (.int .u64 5), .lit (.int .u64 13), .lit (.int .u64 3), .lit (.int .u64 11), .lit (.int .u64 7), .lit (.int .u64 15)] []

/-- 'laws.FnRipemd': WHATEVER THE INPUT: true; the input reads as it did. -/
def fnRipemdSpec : ChangeSpec := { name := "fnRipemd", fn := fun _ => fun
  | [d] => { results := [.lit (.bool true)], args := [d] }
  | _ => none }
def fnRipemdRow : OpenClaim := { program := "ytaklljigoajpcaadoor", sum := "c5bf4811fd052e6bfb4f7f8d3a7586e4d9f22529a41c6c3451fe8d0e62f19ec8", func := "pub-wardkeep/laws.FnRipemd", spec := "fnRipemd", unfollowed := true, recurses := true, named := ["pub-wardkeep/pub/crypto/ripemd160._n", "pub-wardkeep/pub/crypto/ripemd160.n_", "pub-wardkeep/pub/crypto/ripemd160._r", "pub-wardkeep/pub/crypto/ripemd160.r_"], apart := false, laid := [("pub-wardkeep/pub/crypto/ripemd160._n", laid_pub_wardkeep_pub_crypto_ripemd160_n), ("pub-wardkeep/pub/crypto/ripemd160._r", laid_pub_wardkeep_pub_crypto_ripemd160_r), ("pub-wardkeep/pub/crypto/ripemd160.n_", laid_pub_wardkeep_pub_crypto_ripemd160_n_), ("pub-wardkeep/pub/crypto/ripemd160.r_", laid_pub_wardkeep_pub_crypto_ripemd160_r_)] }
def FnRipemdSaid : Prop := fnRipemdRow.holds Tryd.pinned (OpenSpec.ofChange fnRipemdSpec)

/-- ITS FALSE NEIGHBOUR: 'it returns false'. Refute it at one input. -/
def fnRipemdWrong : ChangeSpec := { name := "fnRipemd", fn := fun _ => fun
  | [d] => { results := [.lit (.bool false)], args := [d] }
  | _ => none }
def FnRipemdWrongFalsely : Prop := fnRipemdRow.holds Tryd.pinned (OpenSpec.ofChange fnRipemdWrong)

/-- 'laws.FnMd4Blocks': WHATEVER THE INPUT: true; the input reads as it did. -/
def fnMd4BlocksSpec : ChangeSpec := { name := "fnMd4Blocks", fn := fun _ => fun
  | [d1, d2] => { results := [.lit (.bool true)], args := [d1, d2] }
  | _ => none }
def fnMd4BlocksRow : OpenClaim := { program := "ytaklljigoajpcaadoor", sum := "c5bf4811fd052e6bfb4f7f8d3a7586e4d9f22529a41c6c3451fe8d0e62f19ec8", func := "pub-wardkeep/laws.FnMd4Blocks", spec := "fnMd4Blocks", unfollowed := true, recurses := true, named := ["pub-wardkeep/pub/crypto/md4.shift1", "pub-wardkeep/pub/crypto/md4.xIndex2", "pub-wardkeep/pub/crypto/md4.shift2", "pub-wardkeep/pub/crypto/md4.xIndex3", "pub-wardkeep/pub/crypto/md4.shift3"], apart := false, laid := [("pub-wardkeep/pub/crypto/md4.shift1", laid_pub_wardkeep_pub_crypto_md4_shift1), ("pub-wardkeep/pub/crypto/md4.shift2", laid_pub_wardkeep_pub_crypto_md4_shift2), ("pub-wardkeep/pub/crypto/md4.shift3", laid_pub_wardkeep_pub_crypto_md4_shift3), ("pub-wardkeep/pub/crypto/md4.xIndex2", laid_pub_wardkeep_pub_crypto_md4_xIndex2), ("pub-wardkeep/pub/crypto/md4.xIndex3", laid_pub_wardkeep_pub_crypto_md4_xIndex3)] }
def FnMd4BlocksSaid : Prop := fnMd4BlocksRow.holds Tryd.pinned (OpenSpec.ofChange fnMd4BlocksSpec)

/-- ITS FALSE NEIGHBOUR: 'it returns false'. Refute it at one input. -/
def fnMd4BlocksWrong : ChangeSpec := { name := "fnMd4Blocks", fn := fun _ => fun
  | [d1, d2] => { results := [.lit (.bool false)], args := [d1, d2] }
  | _ => none }
def FnMd4BlocksWrongFalsely : Prop := fnMd4BlocksRow.holds Tryd.pinned (OpenSpec.ofChange fnMd4BlocksWrong)

/-- 'laws.FnRipemdBlocks': WHATEVER THE INPUT: true; the input reads as it did. -/
def fnRipemdBlocksSpec : ChangeSpec := { name := "fnRipemdBlocks", fn := fun _ => fun
  | [d1, d2] => { results := [.lit (.bool true)], args := [d1, d2] }
  | _ => none }
def fnRipemdBlocksRow : OpenClaim := { program := "ytaklljigoajpcaadoor", sum := "c5bf4811fd052e6bfb4f7f8d3a7586e4d9f22529a41c6c3451fe8d0e62f19ec8", func := "pub-wardkeep/laws.FnRipemdBlocks", spec := "fnRipemdBlocks", unfollowed := true, recurses := true, named := ["pub-wardkeep/pub/crypto/ripemd160._n", "pub-wardkeep/pub/crypto/ripemd160._r", "pub-wardkeep/pub/crypto/ripemd160.n_", "pub-wardkeep/pub/crypto/ripemd160.r_"], apart := false, laid := [("pub-wardkeep/pub/crypto/ripemd160._n", laid_pub_wardkeep_pub_crypto_ripemd160_n), ("pub-wardkeep/pub/crypto/ripemd160._r", laid_pub_wardkeep_pub_crypto_ripemd160_r), ("pub-wardkeep/pub/crypto/ripemd160.n_", laid_pub_wardkeep_pub_crypto_ripemd160_n_), ("pub-wardkeep/pub/crypto/ripemd160.r_", laid_pub_wardkeep_pub_crypto_ripemd160_r_)] }
def FnRipemdBlocksSaid : Prop := fnRipemdBlocksRow.holds Tryd.pinned (OpenSpec.ofChange fnRipemdBlocksSpec)

/-- ITS FALSE NEIGHBOUR: 'it returns false'. Refute it at one input. -/
def fnRipemdBlocksWrong : ChangeSpec := { name := "fnRipemdBlocks", fn := fun _ => fun
  | [d1, d2] => { results := [.lit (.bool false)], args := [d1, d2] }
  | _ => none }
def FnRipemdBlocksWrongFalsely : Prop := fnRipemdBlocksRow.holds Tryd.pinned (OpenSpec.ofChange fnRipemdBlocksWrong)

/-- 'laws.FnBlocksJoin': WHATEVER THE INPUT: true; the input reads as it did. -/
def fnBlocksJoinSpec : ChangeSpec := { name := "fnBlocksJoin", fn := fun _ => fun
  | [d1, d2, d3] => { results := [.lit (.bool true)], args := [d1, d2, d3] }
  | _ => none }
def fnBlocksJoinRow : OpenClaim := { program := "ytaklljigoajpcaadoor", sum := "c5bf4811fd052e6bfb4f7f8d3a7586e4d9f22529a41c6c3451fe8d0e62f19ec8", func := "pub-wardkeep/laws.FnBlocksJoin", spec := "fnBlocksJoin", unfollowed := true, recurses := true, named := ["pub-wardkeep/pub/crypto/md4.shift1", "pub-wardkeep/pub/crypto/md4.xIndex2", "pub-wardkeep/pub/crypto/md4.shift2", "pub-wardkeep/pub/crypto/md4.xIndex3", "pub-wardkeep/pub/crypto/md4.shift3", "pub-wardkeep/pub/crypto/ripemd160._n", "pub-wardkeep/pub/crypto/ripemd160._r", "pub-wardkeep/pub/crypto/ripemd160.n_", "pub-wardkeep/pub/crypto/ripemd160.r_"], apart := false, laid := [("pub-wardkeep/pub/crypto/md4.shift1", laid_pub_wardkeep_pub_crypto_md4_shift1), ("pub-wardkeep/pub/crypto/md4.shift2", laid_pub_wardkeep_pub_crypto_md4_shift2), ("pub-wardkeep/pub/crypto/md4.shift3", laid_pub_wardkeep_pub_crypto_md4_shift3), ("pub-wardkeep/pub/crypto/md4.xIndex2", laid_pub_wardkeep_pub_crypto_md4_xIndex2), ("pub-wardkeep/pub/crypto/md4.xIndex3", laid_pub_wardkeep_pub_crypto_md4_xIndex3), ("pub-wardkeep/pub/crypto/ripemd160._n", laid_pub_wardkeep_pub_crypto_ripemd160_n), ("pub-wardkeep/pub/crypto/ripemd160._r", laid_pub_wardkeep_pub_crypto_ripemd160_r), ("pub-wardkeep/pub/crypto/ripemd160.n_", laid_pub_wardkeep_pub_crypto_ripemd160_n_), ("pub-wardkeep/pub/crypto/ripemd160.r_", laid_pub_wardkeep_pub_crypto_ripemd160_r_)] }
def FnBlocksJoinSaid : Prop := fnBlocksJoinRow.holds Tryd.pinned (OpenSpec.ofChange fnBlocksJoinSpec)

/-- ITS FALSE NEIGHBOUR: 'it returns false'. Refute it at one input. -/
def fnBlocksJoinWrong : ChangeSpec := { name := "fnBlocksJoin", fn := fun _ => fun
  | [d1, d2, d3] => { results := [.lit (.bool false)], args := [d1, d2, d3] }
  | _ => none }
def FnBlocksJoinWrongFalsely : Prop := fnBlocksJoinRow.holds Tryd.pinned (OpenSpec.ofChange fnBlocksJoinWrong)

/-- 'laws.FnDigestsPadded': WHATEVER THE INPUT: true; the input reads as it did. -/
def fnDigestsPaddedSpec : ChangeSpec := { name := "fnDigestsPadded", fn := fun _ => fun
  | [d] => { results := [.lit (.bool true)], args := [d] }
  | _ => none }
def fnDigestsPaddedRow : OpenClaim := { program := "ytaklljigoajpcaadoor", sum := "c5bf4811fd052e6bfb4f7f8d3a7586e4d9f22529a41c6c3451fe8d0e62f19ec8", func := "pub-wardkeep/laws.FnDigestsPadded", spec := "fnDigestsPadded", unfollowed := true, recurses := true, named := ["pub-wardkeep/pub/crypto/md4.shift1", "pub-wardkeep/pub/crypto/md4.xIndex2", "pub-wardkeep/pub/crypto/md4.shift2", "pub-wardkeep/pub/crypto/md4.xIndex3", "pub-wardkeep/pub/crypto/md4.shift3", "pub-wardkeep/pub/crypto/ripemd160._n", "pub-wardkeep/pub/crypto/ripemd160._r", "pub-wardkeep/pub/crypto/ripemd160.n_", "pub-wardkeep/pub/crypto/ripemd160.r_"], apart := false, laid := [("pub-wardkeep/pub/crypto/md4.shift1", laid_pub_wardkeep_pub_crypto_md4_shift1), ("pub-wardkeep/pub/crypto/md4.shift2", laid_pub_wardkeep_pub_crypto_md4_shift2), ("pub-wardkeep/pub/crypto/md4.shift3", laid_pub_wardkeep_pub_crypto_md4_shift3), ("pub-wardkeep/pub/crypto/md4.xIndex2", laid_pub_wardkeep_pub_crypto_md4_xIndex2), ("pub-wardkeep/pub/crypto/md4.xIndex3", laid_pub_wardkeep_pub_crypto_md4_xIndex3), ("pub-wardkeep/pub/crypto/ripemd160._n", laid_pub_wardkeep_pub_crypto_ripemd160_n), ("pub-wardkeep/pub/crypto/ripemd160._r", laid_pub_wardkeep_pub_crypto_ripemd160_r), ("pub-wardkeep/pub/crypto/ripemd160.n_", laid_pub_wardkeep_pub_crypto_ripemd160_n_), ("pub-wardkeep/pub/crypto/ripemd160.r_", laid_pub_wardkeep_pub_crypto_ripemd160_r_)] }
def FnDigestsPaddedSaid : Prop := fnDigestsPaddedRow.holds Tryd.pinned (OpenSpec.ofChange fnDigestsPaddedSpec)

/-- ITS FALSE NEIGHBOUR: 'it returns false'. Refute it at one input. -/
def fnDigestsPaddedWrong : ChangeSpec := { name := "fnDigestsPadded", fn := fun _ => fun
  | [d] => { results := [.lit (.bool false)], args := [d] }
  | _ => none }
def FnDigestsPaddedWrongFalsely : Prop := fnDigestsPaddedRow.holds Tryd.pinned (OpenSpec.ofChange fnDigestsPaddedWrong)

/- THE SECOND FORM. 'bulk': how many values and letters a reading holds, each counted each time it is reached (what is shared counts as often as it is met; a slice's spare places count too). A statement '..UptoSaid' is the law's where the arguments, and the package variables that the reading takes, are together of bulk at most 1048576: NARROWER than '..Said'. Prove '..Said' where nothing that the law and all that it calls make is longer than what came in: it says more and counts as full. Else prove '..UptoSaid'. A law counts once. -/
mutual
def uptoBulk {H : Type} : DataW H → Nat
  | .lit (.string bytes) => bytes.length + 1
  | .lit _ => 1
  | .nil => 1
  | .ptr d => uptoBulk d + 1
  | .slice elems spare => uptoBulkAll elems + uptoBulkAll spare + 1
  | .agg parts => uptoBulkAll parts + 1
  | .iface _ d => uptoBulk d + 1
  | .map entries => uptoBulkEntries entries + 1
  | .held _ => 1
def uptoBulkAll {H : Type} : List (DataW H) → Nat
  | [] => 0
  | d :: r => uptoBulk d + uptoBulkAll r
def uptoBulkEntries {H : Type} : List (Lit × DataW H) → Nat
  | [] => 0
  | x :: r => uptoBulkEntry x + uptoBulkEntries r
def uptoBulkEntry {H : Type} : Lit × DataW H → Nat
  | (.string bytes, d) => bytes.length + uptoBulk d + 1
  | (_, d) => uptoBulk d + 1
 end
def uptoSmall : (H : Type) → List (DataW H) → Bool := fun _ ds => decide (uptoBulkAll ds ≤ 1048576)
def OpenSpec.upto (s : _root_.Go.ChangeSpec) : _root_.Go.OpenSpec := { _root_.Go.OpenSpec.ofChange s with cond := some uptoSmall }

/-- 'laws.FnRipemd', WHERE WHAT IT READS IS OF BULK AT MOST 1048576: true; the input reads as it did. -/
def fnRipemdUptoRow : OpenClaim := { program := "ytaklljigoajpcaadoor", sum := "c5bf4811fd052e6bfb4f7f8d3a7586e4d9f22529a41c6c3451fe8d0e62f19ec8", func := "pub-wardkeep/laws.FnRipemd", spec := "fnRipemd", unfollowed := true, recurses := true, named := ["pub-wardkeep/pub/crypto/ripemd160._n", "pub-wardkeep/pub/crypto/ripemd160.n_", "pub-wardkeep/pub/crypto/ripemd160._r", "pub-wardkeep/pub/crypto/ripemd160.r_"], apart := false, laid := [("pub-wardkeep/pub/crypto/ripemd160._n", laid_pub_wardkeep_pub_crypto_ripemd160_n), ("pub-wardkeep/pub/crypto/ripemd160._r", laid_pub_wardkeep_pub_crypto_ripemd160_r), ("pub-wardkeep/pub/crypto/ripemd160.n_", laid_pub_wardkeep_pub_crypto_ripemd160_n_), ("pub-wardkeep/pub/crypto/ripemd160.r_", laid_pub_wardkeep_pub_crypto_ripemd160_r_)], narrowed := true }
def FnRipemdUptoSaid : Prop := fnRipemdUptoRow.holds Tryd.pinned (OpenSpec.upto fnRipemdSpec)

/-- 'laws.FnMd4Blocks', WHERE WHAT IT READS IS OF BULK AT MOST 1048576: true; the input reads as it did. -/
def fnMd4BlocksUptoRow : OpenClaim := { program := "ytaklljigoajpcaadoor", sum := "c5bf4811fd052e6bfb4f7f8d3a7586e4d9f22529a41c6c3451fe8d0e62f19ec8", func := "pub-wardkeep/laws.FnMd4Blocks", spec := "fnMd4Blocks", unfollowed := true, recurses := true, named := ["pub-wardkeep/pub/crypto/md4.shift1", "pub-wardkeep/pub/crypto/md4.xIndex2", "pub-wardkeep/pub/crypto/md4.shift2", "pub-wardkeep/pub/crypto/md4.xIndex3", "pub-wardkeep/pub/crypto/md4.shift3"], apart := false, laid := [("pub-wardkeep/pub/crypto/md4.shift1", laid_pub_wardkeep_pub_crypto_md4_shift1), ("pub-wardkeep/pub/crypto/md4.shift2", laid_pub_wardkeep_pub_crypto_md4_shift2), ("pub-wardkeep/pub/crypto/md4.shift3", laid_pub_wardkeep_pub_crypto_md4_shift3), ("pub-wardkeep/pub/crypto/md4.xIndex2", laid_pub_wardkeep_pub_crypto_md4_xIndex2), ("pub-wardkeep/pub/crypto/md4.xIndex3", laid_pub_wardkeep_pub_crypto_md4_xIndex3)], narrowed := true }
def FnMd4BlocksUptoSaid : Prop := fnMd4BlocksUptoRow.holds Tryd.pinned (OpenSpec.upto fnMd4BlocksSpec)

/-- 'laws.FnRipemdBlocks', WHERE WHAT IT READS IS OF BULK AT MOST 1048576: true; the input reads as it did. -/
def fnRipemdBlocksUptoRow : OpenClaim := { program := "ytaklljigoajpcaadoor", sum := "c5bf4811fd052e6bfb4f7f8d3a7586e4d9f22529a41c6c3451fe8d0e62f19ec8", func := "pub-wardkeep/laws.FnRipemdBlocks", spec := "fnRipemdBlocks", unfollowed := true, recurses := true, named := ["pub-wardkeep/pub/crypto/ripemd160._n", "pub-wardkeep/pub/crypto/ripemd160._r", "pub-wardkeep/pub/crypto/ripemd160.n_", "pub-wardkeep/pub/crypto/ripemd160.r_"], apart := false, laid := [("pub-wardkeep/pub/crypto/ripemd160._n", laid_pub_wardkeep_pub_crypto_ripemd160_n), ("pub-wardkeep/pub/crypto/ripemd160._r", laid_pub_wardkeep_pub_crypto_ripemd160_r), ("pub-wardkeep/pub/crypto/ripemd160.n_", laid_pub_wardkeep_pub_crypto_ripemd160_n_), ("pub-wardkeep/pub/crypto/ripemd160.r_", laid_pub_wardkeep_pub_crypto_ripemd160_r_)], narrowed := true }
def FnRipemdBlocksUptoSaid : Prop := fnRipemdBlocksUptoRow.holds Tryd.pinned (OpenSpec.upto fnRipemdBlocksSpec)

/-- 'laws.FnBlocksJoin', WHERE WHAT IT READS IS OF BULK AT MOST 1048576: true; the input reads as it did. -/
def fnBlocksJoinUptoRow : OpenClaim := { program := "ytaklljigoajpcaadoor", sum := "c5bf4811fd052e6bfb4f7f8d3a7586e4d9f22529a41c6c3451fe8d0e62f19ec8", func := "pub-wardkeep/laws.FnBlocksJoin", spec := "fnBlocksJoin", unfollowed := true, recurses := true, named := ["pub-wardkeep/pub/crypto/md4.shift1", "pub-wardkeep/pub/crypto/md4.xIndex2", "pub-wardkeep/pub/crypto/md4.shift2", "pub-wardkeep/pub/crypto/md4.xIndex3", "pub-wardkeep/pub/crypto/md4.shift3", "pub-wardkeep/pub/crypto/ripemd160._n", "pub-wardkeep/pub/crypto/ripemd160._r", "pub-wardkeep/pub/crypto/ripemd160.n_", "pub-wardkeep/pub/crypto/ripemd160.r_"], apart := false, laid := [("pub-wardkeep/pub/crypto/md4.shift1", laid_pub_wardkeep_pub_crypto_md4_shift1), ("pub-wardkeep/pub/crypto/md4.shift2", laid_pub_wardkeep_pub_crypto_md4_shift2), ("pub-wardkeep/pub/crypto/md4.shift3", laid_pub_wardkeep_pub_crypto_md4_shift3), ("pub-wardkeep/pub/crypto/md4.xIndex2", laid_pub_wardkeep_pub_crypto_md4_xIndex2), ("pub-wardkeep/pub/crypto/md4.xIndex3", laid_pub_wardkeep_pub_crypto_md4_xIndex3), ("pub-wardkeep/pub/crypto/ripemd160._n", laid_pub_wardkeep_pub_crypto_ripemd160_n), ("pub-wardkeep/pub/crypto/ripemd160._r", laid_pub_wardkeep_pub_crypto_ripemd160_r), ("pub-wardkeep/pub/crypto/ripemd160.n_", laid_pub_wardkeep_pub_crypto_ripemd160_n_), ("pub-wardkeep/pub/crypto/ripemd160.r_", laid_pub_wardkeep_pub_crypto_ripemd160_r_)], narrowed := true }
def FnBlocksJoinUptoSaid : Prop := fnBlocksJoinUptoRow.holds Tryd.pinned (OpenSpec.upto fnBlocksJoinSpec)

/-- 'laws.FnDigestsPadded', WHERE WHAT IT READS IS OF BULK AT MOST 1048576: true; the input reads as it did. -/
def fnDigestsPaddedUptoRow : OpenClaim := { program := "ytaklljigoajpcaadoor", sum := "c5bf4811fd052e6bfb4f7f8d3a7586e4d9f22529a41c6c3451fe8d0e62f19ec8", func := "pub-wardkeep/laws.FnDigestsPadded", spec := "fnDigestsPadded", unfollowed := true, recurses := true, named := ["pub-wardkeep/pub/crypto/md4.shift1", "pub-wardkeep/pub/crypto/md4.xIndex2", "pub-wardkeep/pub/crypto/md4.shift2", "pub-wardkeep/pub/crypto/md4.xIndex3", "pub-wardkeep/pub/crypto/md4.shift3", "pub-wardkeep/pub/crypto/ripemd160._n", "pub-wardkeep/pub/crypto/ripemd160._r", "pub-wardkeep/pub/crypto/ripemd160.n_", "pub-wardkeep/pub/crypto/ripemd160.r_"], apart := false, laid := [("pub-wardkeep/pub/crypto/md4.shift1", laid_pub_wardkeep_pub_crypto_md4_shift1), ("pub-wardkeep/pub/crypto/md4.shift2", laid_pub_wardkeep_pub_crypto_md4_shift2), ("pub-wardkeep/pub/crypto/md4.shift3", laid_pub_wardkeep_pub_crypto_md4_shift3), ("pub-wardkeep/pub/crypto/md4.xIndex2", laid_pub_wardkeep_pub_crypto_md4_xIndex2), ("pub-wardkeep/pub/crypto/md4.xIndex3", laid_pub_wardkeep_pub_crypto_md4_xIndex3), ("pub-wardkeep/pub/crypto/ripemd160._n", laid_pub_wardkeep_pub_crypto_ripemd160_n), ("pub-wardkeep/pub/crypto/ripemd160._r", laid_pub_wardkeep_pub_crypto_ripemd160_r), ("pub-wardkeep/pub/crypto/ripemd160.n_", laid_pub_wardkeep_pub_crypto_ripemd160_n_), ("pub-wardkeep/pub/crypto/ripemd160.r_", laid_pub_wardkeep_pub_crypto_ripemd160_r_)], narrowed := true }
def FnDigestsPaddedUptoSaid : Prop := fnDigestsPaddedUptoRow.holds Tryd.pinned (OpenSpec.upto fnDigestsPaddedSpec)

end Rows
end Go.Proofs.YtaklljigoajpcaaDoor
