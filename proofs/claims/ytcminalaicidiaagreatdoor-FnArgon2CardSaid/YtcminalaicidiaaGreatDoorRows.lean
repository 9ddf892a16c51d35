/-
  NARROWER THAN 'FOR EVERY INPUT', by the rows' own cells (each row's printed sentence says how): FnArgon2Derive: laid · FnArgon2: laid.
  DERIVED. THE GIVEN ROWS OF THIS SEAT. 2 by the template 'for every input the law returns true; each argument reads behind the call as it read before'; 0 by the template 'total and deterministic' (their statements: YtcminalaicidiaaGreatDoorTotals.lean).
  GIVEN WITH THE SEED: the statements are not yours to turn. If you find one false, say at which input.
  Laid BY PROGRAM, IN A SANDBOX (cutbox-rows.mjs): the forced cells as the released guide's own fill.sh prints them over the translation 96e9c22d008c259a… (all of the seat's roots in one cut). By AI agents, Wed Nov 11 2026. No macro, syntax, notation, axiom, sorry.
-/
import Derived.Test.YtcminalaicidiaaGreatDoorChecked
import GoSem.Claim
import GoSem.ClaimJoined
import GoSem.ClaimMapViews
import Derived.JoinedTies
import Derived.KernelRfl
namespace Go.Proofs.YtcminalaicidiaaGreatDoor
/- THE CELL 'sum', in the pinned program and in every row, IS THE sha256 OF THE DUMP (.gsa) THAT YtcminalaicidiaaGreatDoorProg.lean LOADS. Nothing in Lean hashes anything: it is a label: what it is worth is what the hold of that sum in a sandbox is worth. -/
noncomputable def Tryz.pinned : Pinned := { name := "ytcminalaicidiaagreatdoor", sum := "96e9c22d008c259ad3b3c06b51b4a508d1d5b83c753fd2738a88b458e245fb46", checked := Tryz.checked }
namespace Rows
def none {H : Type} : Left H := { results := [], args := [] }

/- WHAT THE LISTED PACKAGE-LEVEL VARIABLES READ AS WHEN THE CALL BEGINS. Each datum BY PROGRAM (the guide's laid-datum.mjs) off the statement by which the dump's own 'gosem.cut.vars' lays the variable. In a bare row this is a premise. The card (YtcminalaicidiaaGreatDoorCards.lean) ties it to the program's text. -/
def laid_pub_wardkeep_pub_crypto_blake2b_errKeySize {H : Type} : DataW H := .iface "*errors.errorString" (.ptr (.agg [.lit (.string [98, 108, 97, 107, 101, 50, 98, 58, 32, 105, 110, 118, 97, 108, 105, 100, 32, 107, 101, 121, 32, 115, 105, 122, 101])]))
def laid_pub_wardkeep_pub_crypto_blake2b_errHashSize {H : Type} : DataW H := .iface "*errors.errorString" (.ptr (.agg [.lit (.string [98, 108, 97, 107, 101, 50, 98, 58, 32, 105, 110, 118, 97, 108, 105, 100, 32, 104, 97, 115, 104, 32, 115, 105, 122, 101])]))
def laid_pub_wardkeep_pub_crypto_blake2b_iv {H : Type} : DataW H := .agg [.lit (.int .u64 7640891576956012808), .lit (.int .u64 13503953896175478587), .lit (.int .u64 4354685564936845355), .lit (.int .u64 11912009170470909681), .lit (.int .u64 5840696475078001361), .lit (.int .u64 11170449401992604703), .lit (.int .u64 2270897969802886507), .lit (.int .u64 6620516959819538809)]
def laid_pub_wardkeep_pub_crypto_blake2b_precomputed {H : Type} : DataW H := .agg [.agg [.lit (.int .u8 0), .lit (.int .u8 2), .lit (.int .u8 4), .lit (.int .u8 6), .lit (.int .u8 1), .lit (.int .u8 3), .lit (.int .u8 5), .lit (.int .u8 7), .lit (.int .u8 8), .lit (.int .u8 10), .lit (.int .u8 12), .lit (.int .u8 14), .lit (.int .u8 9), .lit (.int .u8 11), .lit (.int .u8 13), .lit (.int .u8 15)], .agg [.lit (.int .u8 14), .lit (.int .u8 4), .lit (.int .u8 9), .lit (.int .u8 13), .lit (.int .u8 10), .lit (.int .u8 8), .lit (.int .u8 15), .lit (.int .u8 6), .lit (.int .u8 1), .lit (.int .u8 0), .lit (.int .u8 11), .lit (.int .u8 5), .lit (.int .u8 12), .lit (.int .u8 2), .lit (.int .u8 7), .lit (.int .u8 3)], .agg [.lit (.int .u8 11), .lit (.int .u8 12), .lit (.int .u8 5), .lit (.int .u8 15), .lit (.int .u8 8), .lit (.int .u8 0), .lit (.int .u8 2), .lit (.int .u8 13), .lit (.int .u8 10), .lit (.int .u8 3), .lit (.int .u8 7), .lit (.int .u8 9), .lit (.int .u8 14), .lit (.int .u8 6), .lit (.int .u8 1), .lit (.int .u8 4)], .agg [.lit (.int .u8 7), .lit (.int .u8 3), .lit (.int .u8 13), .lit (.int .u8 11), .lit (.int .u8 9), .lit (.int .u8 1), .lit (.int .u8 12), .lit (.int .u8 14), .lit (.int .u8 2), .lit (.int .u8 5), .lit (.int .u8 4), .lit (.int .u8 15), .lit (.int .u8 6), .lit (.int .u8 10), .lit (.int .u8 0), .lit (.int .u8 8)], .agg [.lit (.int .u8 9), .lit (.int .u8 5), .lit (.int .u8 2), .lit (.int .u8 10), .lit (.int .u8 0), .lit (.int .u8 7), .lit (.int .u8 4), .lit (.int .u8 15), .lit (.int .u8 14), .lit (.int .u8 11), .lit (.int .u8 6), .lit (.int .u8 3), .lit (.int .u8 1), .lit (.int .u8 12), .lit (.int .u8 8), .lit (.int .u8 13)], .agg [.lit (.int .u8 2), .lit (.int .u8 6), .lit (.int .u8 0), .lit (.int .u8 8), .lit (.int .u8 12), .lit (.int .u8 10), .lit (.int .u8 11), .lit (.int .u8 3), .lit (.int .u8 4), .lit (.int .u8 7), .lit (.int .u8 15), .lit (.int .u8 1), .lit (.int .u8 13), .lit (.int .u8 5), .lit (.int .u8 14), .lit (.int .u8 9)], .agg [.lit (.int .u8 12), .lit (.int .u8 1), .lit (.int .u8 14), .lit (.int .u8 4), .lit (.int .u8 5), .lit (.int .u8 15), .lit (.int .u8 13), .lit (.int .u8 10), .lit (.int .u8 0), .lit (.int .u8 6), .lit (.int .u8 9), .lit (.int .u8 8), .lit (.int .u8 7), .lit (.int .u8 3), .lit (.int .u8 2), .lit (.int .u8 11)], .agg [.lit (.int .u8 13), .lit (.int .u8 7), .lit (.int .u8 12), .lit (.int .u8 3), .lit (.int .u8 11), .lit (.int .u8 14), .lit (.int .u8 1), .lit (.int .u8 9), .lit (.int .u8 5), .lit (.int .u8 15), .lit (.int .u8 8), .lit (.int .u8 2), .lit (.int .u8 0), .lit (.int .u8 4), .lit (.int .u8 6), .lit (.int .u8 10)], .agg [.lit (.int .u8 6), .lit (.int .u8 14), .lit (.int .u8 11), .lit (.int .u8 0), .lit (.int .u8 15), .lit (.int .u8 9), .lit (.int .u8 3), .lit (.int .u8 8), .lit (.int .u8 12), .lit (.int .u8 13), .lit (.int .u8 1), .lit (.int .u8 10), .lit (.int .u8 2), .lit (.int .u8 7), .lit (.int .u8 4), .lit (.int .u8 5)], .agg [.lit (.int .u8 10), .lit (.int .u8 8), .lit (.int .u8 7), .lit (.int .u8 1), .lit (.int .u8 2), .lit (.int .u8 4), .lit (.int .u8 6), .lit (.int .u8 5), .lit (.int .u8 15), .lit (.int .u8 9), .lit (.int .u8 3), .lit (.int .u8 13), .lit (.int .u8 11), .lit (.int .u8 14), .lit (.int .u8 12), .lit (.int .u8 0)], .agg [.lit (.int .u8 0), .lit (.int .u8 2), .lit (.int .u8 4), .lit (.int .u8 6), .lit (.int .u8 1), .lit (.int .u8 3), .lit (.int .u8 5), .lit (.int .u8 7), .lit (.int .u8 8), .lit (.int .u8 10), .lit (.int .u8 12), .lit (.int .u8 14), .lit (.int .u8 9), .lit (.int .u8 11), .lit (.int .u8 13), .lit (.int .u8 15)], .agg [.lit (.int .u8 14), .lit (.int .u8 4), .lit (.int .u8 9), .lit (.int .u8 13), .lit (.int .u8 10), .lit (.int .u8 8), .lit (.int .u8 15), .lit (.int .u8 6), .lit (.int .u8 1), .lit (.int .u8 0), .lit (.int .u8 11), .lit (.int .u8 5), .lit (.int .u8 12), .lit (.int .u8 2), .lit (.int .u8 7), .lit (.int .u8 3)]]

/-- 'laws.FnArgon2Derive': WHATEVER THE INPUT: true; the input reads as it did. -/
def fnArgon2DeriveSpec : ChangeSpec := { name := "fnArgon2Derive", fn := fun _ => fun
  | [d1, d2, d3] => { results := [.lit (.bool true)], args := [d1, d2, d3] }
  | _ => none }
def fnArgon2DeriveRow : OpenClaim := { program := "ytcminalaicidiaagreatdoor", sum := "96e9c22d008c259ad3b3c06b51b4a508d1d5b83c753fd2738a88b458e245fb46", func := "pub-wardkeep/laws.FnArgon2Derive", spec := "fnArgon2Derive", inPlace := ["(*sync.WaitGroup).Done", "(*sync.WaitGroup).Add", "internal/race.ReleaseMerge", "internal/race.Disable", "internal/race.Enable", "internal/synctest.IsInBubble", "internal/synctest.Associate[sync.WaitGroup]", "sync.fatal", "sync/atomic.OrUint64", "sync/atomic.AddUint64", "internal/race.Read", "sync/atomic.LoadUint64", "sync/atomic.StoreUint64", "internal/synctest.Disassociate[sync.WaitGroup]", "sync.runtime_Semrelease", "(*sync.WaitGroup).Wait", "internal/race.Acquire", "internal/synctest.IsAssociated[sync.WaitGroup]", "sync/atomic.CompareAndSwapUint64", "internal/race.Write", "sync.runtime_SemacquireWaitGroup", "math/bits.Add64"], unfollowed := true, recurses := true, named := ["encoding/binary.LittleEndian", "pub-wardkeep/pub/crypto/blake2b.errHashSize", "pub-wardkeep/pub/crypto/blake2b.errKeySize", "pub-wardkeep/pub/crypto/blake2b.iv", "pub-wardkeep/pub/crypto/blake2b.precomputed"], leaving := true, apart := false, laid := [("pub-wardkeep/pub/crypto/blake2b.errKeySize", laid_pub_wardkeep_pub_crypto_blake2b_errKeySize), ("pub-wardkeep/pub/crypto/blake2b.errHashSize", laid_pub_wardkeep_pub_crypto_blake2b_errHashSize), ("pub-wardkeep/pub/crypto/blake2b.iv", laid_pub_wardkeep_pub_crypto_blake2b_iv), ("pub-wardkeep/pub/crypto/blake2b.precomputed", laid_pub_wardkeep_pub_crypto_blake2b_precomputed)] }
def FnArgon2DeriveSaid : Prop := fnArgon2DeriveRow.holds Tryz.pinned (OpenSpec.ofChange fnArgon2DeriveSpec)

/-- ITS FALSE NEIGHBOUR: 'it returns false'. Refute it at one input. -/
def fnArgon2DeriveWrong : ChangeSpec := { name := "fnArgon2Derive", fn := fun _ => fun
  | [d1, d2, d3] => { results := [.lit (.bool false)], args := [d1, d2, d3] }
  | _ => none }
def FnArgon2DeriveWrongFalsely : Prop := fnArgon2DeriveRow.holds Tryz.pinned (OpenSpec.ofChange fnArgon2DeriveWrong)

/-- 'laws.FnArgon2': WHATEVER THE INPUT: true; the input reads as it did. -/
def fnArgon2Spec : ChangeSpec := { name := "fnArgon2", fn := fun _ => fun
  | [d1, d2, d3, d4] => { results := [.lit (.bool true)], args := [d1, d2, d3, d4] }
  | _ => none }
def fnArgon2Row : OpenClaim := { program := "ytcminalaicidiaagreatdoor", sum := "96e9c22d008c259ad3b3c06b51b4a508d1d5b83c753fd2738a88b458e245fb46", func := "pub-wardkeep/laws.FnArgon2", spec := "fnArgon2", inPlace := ["(*sync.WaitGroup).Done", "(*sync.WaitGroup).Add", "internal/race.ReleaseMerge", "internal/race.Disable", "internal/race.Enable", "internal/synctest.IsInBubble", "internal/synctest.Associate[sync.WaitGroup]", "sync.fatal", "sync/atomic.OrUint64", "sync/atomic.AddUint64", "internal/race.Read", "sync/atomic.LoadUint64", "sync/atomic.StoreUint64", "internal/synctest.Disassociate[sync.WaitGroup]", "sync.runtime_Semrelease", "(*sync.WaitGroup).Wait", "internal/race.Acquire", "internal/synctest.IsAssociated[sync.WaitGroup]", "sync/atomic.CompareAndSwapUint64", "internal/race.Write", "sync.runtime_SemacquireWaitGroup", "math/bits.Add64"], unfollowed := true, recurses := true, named := ["encoding/binary.LittleEndian", "pub-wardkeep/pub/crypto/blake2b.errHashSize", "pub-wardkeep/pub/crypto/blake2b.errKeySize", "pub-wardkeep/pub/crypto/blake2b.iv", "pub-wardkeep/pub/crypto/blake2b.precomputed"], leaving := true, apart := false, laid := [("pub-wardkeep/pub/crypto/blake2b.errKeySize", laid_pub_wardkeep_pub_crypto_blake2b_errKeySize), ("pub-wardkeep/pub/crypto/blake2b.errHashSize", laid_pub_wardkeep_pub_crypto_blake2b_errHashSize), ("pub-wardkeep/pub/crypto/blake2b.iv", laid_pub_wardkeep_pub_crypto_blake2b_iv), ("pub-wardkeep/pub/crypto/blake2b.precomputed", laid_pub_wardkeep_pub_crypto_blake2b_precomputed)] }
def FnArgon2Said : Prop := fnArgon2Row.holds Tryz.pinned (OpenSpec.ofChange fnArgon2Spec)

/-- ITS FALSE NEIGHBOUR: 'it returns false'. Refute it at one input. -/
def fnArgon2Wrong : ChangeSpec := { name := "fnArgon2", fn := fun _ => fun
  | [d1, d2, d3, d4] => { results := [.lit (.bool false)], args := [d1, d2, d3, d4] }
  | _ => none }
def FnArgon2WrongFalsely : Prop := fnArgon2Row.holds Tryz.pinned (OpenSpec.ofChange fnArgon2Wrong)

/- THE SECOND FORM. 'bulk': how many values and letters a reading holds, each counted each time it is reached (what is shared counts as often as it is met; a slice's spare places count too). A statement '..UptoSaid' is the law's where the arguments, and the package variables that the reading takes, are together of bulk at most 1048576: NARROWER than '..Said'. Prove '..Said' where nothing that the law and all that it calls make is longer than what came in: it says more and counts as full. Else prove '..UptoSaid'. A law counts once. -/
mutual
def uptoBulk {H : Type} : DataW H → Nat
  | .lit (.string bytes) => bytes.length + 1
  | .lit _ => 1
  | .nil => 1
  | .ptr d => uptoBulk d + 1
  | .slice elems spare => uptoBulkAll elems + uptoBulkAll spare + 1
  | .agg parts => uptoBulkAll parts + 1
  | .iface _ d => uptoBulk d + 1
  | .map entries => uptoBulkEntries entries + 1
  | .held _ => 1
def uptoBulkAll {H : Type} : List (DataW H) → Nat
  | [] => 0
  | d :: r => uptoBulk d + uptoBulkAll r
def uptoBulkEntries {H : Type} : List (Lit × DataW H) → Nat
  | [] => 0
  | x :: r => uptoBulkEntry x + uptoBulkEntries r
def uptoBulkEntry {H : Type} : Lit × DataW H → Nat
  | (.string bytes, d) => bytes.length + uptoBulk d + 1
  | (_, d) => uptoBulk d + 1
 end
def uptoSmall : (H : Type) → List (DataW H) → Bool := fun _ ds => decide (uptoBulkAll ds ≤ 1048576)
def OpenSpec.upto (s : _root_.Go.ChangeSpec) : _root_.Go.OpenSpec := { _root_.Go.OpenSpec.ofChange s with cond := some uptoSmall }

/-- 'laws.FnArgon2Derive', WHERE WHAT IT READS IS OF BULK AT MOST 1048576: true; the input reads as it did. -/
def fnArgon2DeriveUptoRow : OpenClaim := { program := "ytcminalaicidiaagreatdoor", sum := "96e9c22d008c259ad3b3c06b51b4a508d1d5b83c753fd2738a88b458e245fb46", func := "pub-wardkeep/laws.FnArgon2Derive", spec := "fnArgon2Derive", inPlace := ["(*sync.WaitGroup).Done", "(*sync.WaitGroup).Add", "internal/race.ReleaseMerge", "internal/race.Disable", "internal/race.Enable", "internal/synctest.IsInBubble", "internal/synctest.Associate[sync.WaitGroup]", "sync.fatal", "sync/atomic.OrUint64", "sync/atomic.AddUint64", "internal/race.Read", "sync/atomic.LoadUint64", "sync/atomic.StoreUint64", "internal/synctest.Disassociate[sync.WaitGroup]", "sync.runtime_Semrelease", "(*sync.WaitGroup).Wait", "internal/race.Acquire", "internal/synctest.IsAssociated[sync.WaitGroup]", "sync/atomic.CompareAndSwapUint64", "internal/race.Write", "sync.runtime_SemacquireWaitGroup", "math/bits.Add64"], unfollowed := true, recurses := true, named := ["encoding/binary.LittleEndian", "pub-wardkeep/pub/crypto/blake2b.errHashSize", "pub-wardkeep/pub/crypto/blake2b.errKeySize", "pub-wardkeep/pub/crypto/blake2b.iv", "pub-wardkeep/pub/crypto/blake2b.precomputed"], leaving := true, apart := false, laid := [("pub-wardkeep/pub/crypto/blake2b.errKeySize", laid_pub_wardkeep_pub_crypto_blake2b_errKeySize), ("pub-wardkeep/pub/crypto/blake2b.errHashSize", laid_pub_wardkeep_pub_crypto_blake2b_errHashSize), ("pub-wardkeep/pub/crypto/blake2b.iv", laid_pub_wardkeep_pub_crypto_blake2b_iv), ("pub-wardkeep/pub/crypto/blake2b.precomputed", laid_pub_wardkeep_pub_crypto_blake2b_precomputed)], narrowed := true }
def FnArgon2DeriveUptoSaid : Prop := fnArgon2DeriveUptoRow.holds Tryz.pinned (OpenSpec.upto fnArgon2DeriveSpec)

/-- 'laws.FnArgon2', WHERE WHAT IT READS IS OF BULK AT MOST 1048576: true; the input reads as it did. -/
def fnArgon2UptoRow : OpenClaim := { program := "ytcminalaicidiaagreatdoor", sum := "96e9c22d008c259ad3b3c06b51b4a508d1d5b83c753fd2738a88b458e245fb46", func := "pub-wardkeep/laws.FnArgon2", spec := "fnArgon2", inPlace := ["(*sync.WaitGroup).Done", "(*sync.WaitGroup).Add", "internal/race.ReleaseMerge", "internal/race.Disable", "internal/race.Enable", "internal/synctest.IsInBubble", "internal/synctest.Associate[sync.WaitGroup]", "sync.fatal", "sync/atomic.OrUint64", "sync/atomic.AddUint64", "internal/race.Read", "sync/atomic.LoadUint64", "sync/atomic.StoreUint64", "internal/synctest.Disassociate[sync.WaitGroup]", "sync.runtime_Semrelease", "(*sync.WaitGroup).Wait", "internal/race.Acquire", "internal/synctest.IsAssociated[sync.WaitGroup]", "sync/atomic.CompareAndSwapUint64", "internal/race.Write", "sync.runtime_SemacquireWaitGroup", "math/bits.Add64"], unfollowed := true, recurses := true, named := ["encoding/binary.LittleEndian", "pub-wardkeep/pub/crypto/blake2b.errHashSize", "pub-wardkeep/pub/crypto/blake2b.errKeySize", "pub-wardkeep/pub/crypto/blake2b.iv", "pub-wardkeep/pub/crypto/blake2b.precomputed"], leaving := true, apart := false, laid := [("pub-wardkeep/pub/crypto/blake2b.errKeySize", laid_pub_wardkeep_pub_crypto_blake2b_errKeySize), ("pub-wardkeep/pub/crypto/blake2b.errHashSize", laid_pub_wardkeep_pub_crypto_blake2b_errHashSize), ("pub-wardkeep/pub/crypto/blake2b.iv", laid_pub_wardkeep_pub_crypto_blake2b_iv), ("pub-wardkeep/pub/crypto/blake2b.precomputed", laid_pub_wardkeep_pub_crypto_blake2b_precomputed)], narrowed := true }
def FnArgon2UptoSaid : Prop := fnArgon2UptoRow.holds Tryz.pinned (OpenSpec.upto fnArgon2Spec)

end Rows
end Go.Proofs.YtcminalaicidiaaGreatDoor
