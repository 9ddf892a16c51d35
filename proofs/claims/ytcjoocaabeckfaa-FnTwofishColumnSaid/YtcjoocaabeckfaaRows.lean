/-
  No cell of these rows narrows 'for every input' (looked for: loops, veiled, ifaces, maps, wideKeys, modest, calm, conditions, laid).
  DERIVED. THE GIVEN ROWS OF THIS SEAT. 10 by the template 'for every input the law returns true; each argument reads behind the call as it read before'; 0 by the template 'total and deterministic' (their statements: YtcjoocaabeckfaaTotals.lean).
  GIVEN WITH THE SEED: the statements are not yours to turn. If you find one false, say at which input.
  Laid BY PROGRAM, IN A SANDBOX (cutbox-rows.mjs): the forced cells as the released guide's own fill.sh prints them over the translation f81d6586ab5cd39c… (all of the seat's roots in one cut). By AI agents, Wed Nov 11 2026. No macro, syntax, notation, axiom, sorry.
-/
import Derived.Test.YtcjoocaabeckfaaChecked
import GoSem.Claim
import GoSem.ClaimJoined
import GoSem.ClaimMapViews
import Derived.JoinedTies
import Derived.KernelRfl
namespace Go.Proofs.Ytcjoocaabeckfaa
/- THE CELL 'sum', in the pinned program and in every row, IS THE sha256 OF THE DUMP (.gsa) THAT YtcjoocaabeckfaaProg.lean LOADS. Nothing in Lean hashes anything: it is a label: what it is worth is what the hold of that sum in a sandbox is worth. -/
noncomputable def Try.pinned : Pinned := { name := "ytcjoocaabeckfaa", sum := "f81d6586ab5cd39ca2086c7947bc7578adb24e76885682adcc099a93ba48e504", checked := Try.checked }
namespace Rows
def none {H : Type} : Left H := { results := [], args := [] }

/-- 'laws.FnBcryptEncode': WHATEVER THE INPUT: true; the input reads as it did. -/
def fnBcryptEncodeSpec : ChangeSpec := { name := "fnBcryptEncode", fn := fun _ => fun
  | [d] => { results := [.lit (.bool true)], args := [d] }
  | _ => none }
def fnBcryptEncodeRow : OpenClaim := { program := "ytcjoocaabeckfaa", sum := "f81d6586ab5cd39ca2086c7947bc7578adb24e76885682adcc099a93ba48e504", func := "pub-wardkeep/laws.FnBcryptEncode", spec := "fnBcryptEncode", apart := false }
def FnBcryptEncodeSaid : Prop := fnBcryptEncodeRow.holds Try.pinned (OpenSpec.ofChange fnBcryptEncodeSpec)

/-- ITS FALSE NEIGHBOUR: 'it returns false'. Refute it at one input. -/
def fnBcryptEncodeWrong : ChangeSpec := { name := "fnBcryptEncode", fn := fun _ => fun
  | [d] => { results := [.lit (.bool false)], args := [d] }
  | _ => none }
def FnBcryptEncodeWrongFalsely : Prop := fnBcryptEncodeRow.holds Try.pinned (OpenSpec.ofChange fnBcryptEncodeWrong)

/-- 'laws.FnXtea': WHATEVER THE INPUT: true; the input reads as it did. -/
def fnXteaSpec : ChangeSpec := { name := "fnXtea", fn := fun _ => fun
  | [d1, d2, d3] => { results := [.lit (.bool true)], args := [d1, d2, d3] }
  | _ => none }
def fnXteaRow : OpenClaim := { program := "ytcjoocaabeckfaa", sum := "f81d6586ab5cd39ca2086c7947bc7578adb24e76885682adcc099a93ba48e504", func := "pub-wardkeep/laws.FnXtea", spec := "fnXtea", unfollowed := true, recurses := true, apart := false }
def FnXteaSaid : Prop := fnXteaRow.holds Try.pinned (OpenSpec.ofChange fnXteaSpec)

/-- ITS FALSE NEIGHBOUR: 'it returns false'. Refute it at one input. -/
def fnXteaWrong : ChangeSpec := { name := "fnXtea", fn := fun _ => fun
  | [d1, d2, d3] => { results := [.lit (.bool false)], args := [d1, d2, d3] }
  | _ => none }
def FnXteaWrongFalsely : Prop := fnXteaRow.holds Try.pinned (OpenSpec.ofChange fnXteaWrong)

/-- 'laws.FnXteaBack': WHATEVER THE INPUT: true; the input reads as it did. -/
def fnXteaBackSpec : ChangeSpec := { name := "fnXteaBack", fn := fun _ => fun
  | [d1, d2, d3] => { results := [.lit (.bool true)], args := [d1, d2, d3] }
  | _ => none }
def fnXteaBackRow : OpenClaim := { program := "ytcjoocaabeckfaa", sum := "f81d6586ab5cd39ca2086c7947bc7578adb24e76885682adcc099a93ba48e504", func := "pub-wardkeep/laws.FnXteaBack", spec := "fnXteaBack", unfollowed := true, recurses := true, apart := false }
def FnXteaBackSaid : Prop := fnXteaBackRow.holds Try.pinned (OpenSpec.ofChange fnXteaBackSpec)

/-- ITS FALSE NEIGHBOUR: 'it returns false'. Refute it at one input. -/
def fnXteaBackWrong : ChangeSpec := { name := "fnXteaBack", fn := fun _ => fun
  | [d1, d2, d3] => { results := [.lit (.bool false)], args := [d1, d2, d3] }
  | _ => none }
def FnXteaBackWrongFalsely : Prop := fnXteaBackRow.holds Try.pinned (OpenSpec.ofChange fnXteaBackWrong)

/-- 'laws.FnXtsDouble': WHATEVER THE INPUT: true; the input reads as it did. -/
def fnXtsDoubleSpec : ChangeSpec := { name := "fnXtsDouble", fn := fun _ => fun
  | [d] => { results := [.lit (.bool true)], args := [d] }
  | _ => none }
def fnXtsDoubleRow : OpenClaim := { program := "ytcjoocaabeckfaa", sum := "f81d6586ab5cd39ca2086c7947bc7578adb24e76885682adcc099a93ba48e504", func := "pub-wardkeep/laws.FnXtsDouble", spec := "fnXtsDouble", unfollowed := true, recurses := true, apart := false }
def FnXtsDoubleSaid : Prop := fnXtsDoubleRow.holds Try.pinned (OpenSpec.ofChange fnXtsDoubleSpec)

/-- ITS FALSE NEIGHBOUR: 'it returns false'. Refute it at one input. -/
def fnXtsDoubleWrong : ChangeSpec := { name := "fnXtsDouble", fn := fun _ => fun
  | [d] => { results := [.lit (.bool false)], args := [d] }
  | _ => none }
def FnXtsDoubleWrongFalsely : Prop := fnXtsDoubleRow.holds Try.pinned (OpenSpec.ofChange fnXtsDoubleWrong)

/-- 'laws.FnXteaTable': WHATEVER THE INPUT: true; the input reads as it did. -/
def fnXteaTableSpec : ChangeSpec := { name := "fnXteaTable", fn := fun _ => fun
  | [d1, d2] => { results := [.lit (.bool true)], args := [d1, d2] }
  | _ => none }
def fnXteaTableRow : OpenClaim := { program := "ytcjoocaabeckfaa", sum := "f81d6586ab5cd39ca2086c7947bc7578adb24e76885682adcc099a93ba48e504", func := "pub-wardkeep/laws.FnXteaTable", spec := "fnXteaTable", unfollowed := true, recurses := true, apart := false }
def FnXteaTableSaid : Prop := fnXteaTableRow.holds Try.pinned (OpenSpec.ofChange fnXteaTableSpec)

/-- ITS FALSE NEIGHBOUR: 'it returns false'. Refute it at one input. -/
def fnXteaTableWrong : ChangeSpec := { name := "fnXteaTable", fn := fun _ => fun
  | [d1, d2] => { results := [.lit (.bool false)], args := [d1, d2] }
  | _ => none }
def FnXteaTableWrongFalsely : Prop := fnXteaTableRow.holds Try.pinned (OpenSpec.ofChange fnXteaTableWrong)

/-- 'laws.FnTwofishMult': WHATEVER THE INPUT: true; the input reads as it did. -/
def fnTwofishMultSpec : ChangeSpec := { name := "fnTwofishMult", fn := fun _ => fun
  | [d1, d2, d3, d4] => { results := [.lit (.bool true)], args := [d1, d2, d3, d4] }
  | _ => none }
def fnTwofishMultRow : OpenClaim := { program := "ytcjoocaabeckfaa", sum := "f81d6586ab5cd39ca2086c7947bc7578adb24e76885682adcc099a93ba48e504", func := "pub-wardkeep/laws.FnTwofishMult", spec := "fnTwofishMult", unfollowed := true, recurses := true, apart := false }
def FnTwofishMultSaid : Prop := fnTwofishMultRow.holds Try.pinned (OpenSpec.ofChange fnTwofishMultSpec)

/-- ITS FALSE NEIGHBOUR: 'it returns false'. Refute it at one input. -/
def fnTwofishMultWrong : ChangeSpec := { name := "fnTwofishMult", fn := fun _ => fun
  | [d1, d2, d3, d4] => { results := [.lit (.bool false)], args := [d1, d2, d3, d4] }
  | _ => none }
def FnTwofishMultWrongFalsely : Prop := fnTwofishMultRow.holds Try.pinned (OpenSpec.ofChange fnTwofishMultWrong)

/-- 'laws.FnTea': WHATEVER THE INPUT: true; the input reads as it did. -/
def fnTeaSpec : ChangeSpec := { name := "fnTea", fn := fun _ => fun
  | [d1, d2, d3, d4] => { results := [.lit (.bool true)], args := [d1, d2, d3, d4] }
  | _ => none }
def fnTeaRow : OpenClaim := { program := "ytcjoocaabeckfaa", sum := "f81d6586ab5cd39ca2086c7947bc7578adb24e76885682adcc099a93ba48e504", func := "pub-wardkeep/laws.FnTea", spec := "fnTea", unfollowed := true, recurses := true, apart := false }
def FnTeaSaid : Prop := fnTeaRow.holds Try.pinned (OpenSpec.ofChange fnTeaSpec)

/-- ITS FALSE NEIGHBOUR: 'it returns false'. Refute it at one input. -/
def fnTeaWrong : ChangeSpec := { name := "fnTea", fn := fun _ => fun
  | [d1, d2, d3, d4] => { results := [.lit (.bool false)], args := [d1, d2, d3, d4] }
  | _ => none }
def FnTeaWrongFalsely : Prop := fnTeaRow.holds Try.pinned (OpenSpec.ofChange fnTeaWrong)

/-- 'laws.FnTeaBack': WHATEVER THE INPUT: true; the input reads as it did. -/
def fnTeaBackSpec : ChangeSpec := { name := "fnTeaBack", fn := fun _ => fun
  | [d1, d2, d3, d4] => { results := [.lit (.bool true)], args := [d1, d2, d3, d4] }
  | _ => none }
def fnTeaBackRow : OpenClaim := { program := "ytcjoocaabeckfaa", sum := "f81d6586ab5cd39ca2086c7947bc7578adb24e76885682adcc099a93ba48e504", func := "pub-wardkeep/laws.FnTeaBack", spec := "fnTeaBack", unfollowed := true, recurses := true, apart := false }
def FnTeaBackSaid : Prop := fnTeaBackRow.holds Try.pinned (OpenSpec.ofChange fnTeaBackSpec)

/-- ITS FALSE NEIGHBOUR: 'it returns false'. Refute it at one input. -/
def fnTeaBackWrong : ChangeSpec := { name := "fnTeaBack", fn := fun _ => fun
  | [d1, d2, d3, d4] => { results := [.lit (.bool false)], args := [d1, d2, d3, d4] }
  | _ => none }
def FnTeaBackWrongFalsely : Prop := fnTeaBackRow.holds Try.pinned (OpenSpec.ofChange fnTeaBackWrong)

/-- 'laws.FnTeaKeys': WHATEVER THE INPUT: true; the input reads as it did. -/
def fnTeaKeysSpec : ChangeSpec := { name := "fnTeaKeys", fn := fun _ => fun
  | [d1, d2, d3, d4] => { results := [.lit (.bool true)], args := [d1, d2, d3, d4] }
  | _ => none }
def fnTeaKeysRow : OpenClaim := { program := "ytcjoocaabeckfaa", sum := "f81d6586ab5cd39ca2086c7947bc7578adb24e76885682adcc099a93ba48e504", func := "pub-wardkeep/laws.FnTeaKeys", spec := "fnTeaKeys", unfollowed := true, recurses := true, apart := false }
def FnTeaKeysSaid : Prop := fnTeaKeysRow.holds Try.pinned (OpenSpec.ofChange fnTeaKeysSpec)

/-- ITS FALSE NEIGHBOUR: 'it returns false'. Refute it at one input. -/
def fnTeaKeysWrong : ChangeSpec := { name := "fnTeaKeys", fn := fun _ => fun
  | [d1, d2, d3, d4] => { results := [.lit (.bool false)], args := [d1, d2, d3, d4] }
  | _ => none }
def FnTeaKeysWrongFalsely : Prop := fnTeaKeysRow.holds Try.pinned (OpenSpec.ofChange fnTeaKeysWrong)

/-- 'laws.FnTwofishColumn': WHATEVER THE INPUT: true; the input reads as it did. -/
def fnTwofishColumnSpec : ChangeSpec := { name := "fnTwofishColumn", fn := fun _ => fun
  | [d1, d2] => { results := [.lit (.bool true)], args := [d1, d2] }
  | _ => none }
def fnTwofishColumnRow : OpenClaim := { program := "ytcjoocaabeckfaa", sum := "f81d6586ab5cd39ca2086c7947bc7578adb24e76885682adcc099a93ba48e504", func := "pub-wardkeep/laws.FnTwofishColumn", spec := "fnTwofishColumn", unfollowed := true, recurses := true, apart := false }
def FnTwofishColumnSaid : Prop := fnTwofishColumnRow.holds Try.pinned (OpenSpec.ofChange fnTwofishColumnSpec)

/-- ITS FALSE NEIGHBOUR: 'it returns false'. Refute it at one input. -/
def fnTwofishColumnWrong : ChangeSpec := { name := "fnTwofishColumn", fn := fun _ => fun
  | [d1, d2] => { results := [.lit (.bool false)], args := [d1, d2] }
  | _ => none }
def FnTwofishColumnWrongFalsely : Prop := fnTwofishColumnRow.holds Try.pinned (OpenSpec.ofChange fnTwofishColumnWrong)

/- THE SECOND FORM. 'bulk': how many values and letters a reading holds, each counted each time it is reached (what is shared counts as often as it is met; a slice's spare places count too). A statement '..UptoSaid' is the law's where the arguments, and the package variables that the reading takes, are together of bulk at most 1048576: NARROWER than '..Said'. Prove '..Said' where nothing that the law and all that it calls make is longer than what came in: it says more and counts as full. Else prove '..UptoSaid'. A law counts once. -/
mutual
def uptoBulk {H : Type} : DataW H → Nat
  | .lit (.string bytes) => bytes.length + 1
  | .lit _ => 1
  | .nil => 1
  | .ptr d => uptoBulk d + 1
  | .slice elems spare => uptoBulkAll elems + uptoBulkAll spare + 1
  | .agg parts => uptoBulkAll parts + 1
  | .iface _ d => uptoBulk d + 1
  | .map entries => uptoBulkEntries entries + 1
  | .held _ => 1
def uptoBulkAll {H : Type} : List (DataW H) → Nat
  | [] => 0
  | d :: r => uptoBulk d + uptoBulkAll r
def uptoBulkEntries {H : Type} : List (Lit × DataW H) → Nat
  | [] => 0
  | x :: r => uptoBulkEntry x + uptoBulkEntries r
def uptoBulkEntry {H : Type} : Lit × DataW H → Nat
  | (.string bytes, d) => bytes.length + uptoBulk d + 1
  | (_, d) => uptoBulk d + 1
 end
def uptoSmall : (H : Type) → List (DataW H) → Bool := fun _ ds => decide (uptoBulkAll ds ≤ 1048576)
def OpenSpec.upto (s : _root_.Go.ChangeSpec) : _root_.Go.OpenSpec := { _root_.Go.OpenSpec.ofChange s with cond := some uptoSmall }

/-- 'laws.FnBcryptEncode', WHERE WHAT IT READS IS OF BULK AT MOST 1048576: true; the input reads as it did. -/
def fnBcryptEncodeUptoRow : OpenClaim := { program := "ytcjoocaabeckfaa", sum := "f81d6586ab5cd39ca2086c7947bc7578adb24e76885682adcc099a93ba48e504", func := "pub-wardkeep/laws.FnBcryptEncode", spec := "fnBcryptEncode", apart := false, narrowed := true }
def FnBcryptEncodeUptoSaid : Prop := fnBcryptEncodeUptoRow.holds Try.pinned (OpenSpec.upto fnBcryptEncodeSpec)

/-- 'laws.FnXtea', WHERE WHAT IT READS IS OF BULK AT MOST 1048576: true; the input reads as it did. -/
def fnXteaUptoRow : OpenClaim := { program := "ytcjoocaabeckfaa", sum := "f81d6586ab5cd39ca2086c7947bc7578adb24e76885682adcc099a93ba48e504", func := "pub-wardkeep/laws.FnXtea", spec := "fnXtea", unfollowed := true, recurses := true, apart := false, narrowed := true }
def FnXteaUptoSaid : Prop := fnXteaUptoRow.holds Try.pinned (OpenSpec.upto fnXteaSpec)

/-- 'laws.FnXteaBack', WHERE WHAT IT READS IS OF BULK AT MOST 1048576: true; the input reads as it did. -/
def fnXteaBackUptoRow : OpenClaim := { program := "ytcjoocaabeckfaa", sum := "f81d6586ab5cd39ca2086c7947bc7578adb24e76885682adcc099a93ba48e504", func := "pub-wardkeep/laws.FnXteaBack", spec := "fnXteaBack", unfollowed := true, recurses := true, apart := false, narrowed := true }
def FnXteaBackUptoSaid : Prop := fnXteaBackUptoRow.holds Try.pinned (OpenSpec.upto fnXteaBackSpec)

/-- 'laws.FnXtsDouble', WHERE WHAT IT READS IS OF BULK AT MOST 1048576: true; the input reads as it did. -/
def fnXtsDoubleUptoRow : OpenClaim := { program := "ytcjoocaabeckfaa", sum := "f81d6586ab5cd39ca2086c7947bc7578adb24e76885682adcc099a93ba48e504", func := "pub-wardkeep/laws.FnXtsDouble", spec := "fnXtsDouble", unfollowed := true, recurses := true, apart := false, narrowed := true }
def FnXtsDoubleUptoSaid : Prop := fnXtsDoubleUptoRow.holds Try.pinned (OpenSpec.upto fnXtsDoubleSpec)

/-- 'laws.FnXteaTable', WHERE WHAT IT READS IS OF BULK AT MOST 1048576: true; the input reads as it did. -/
def fnXteaTableUptoRow : OpenClaim := { program := "ytcjoocaabeckfaa", sum := "f81d6586ab5cd39ca2086c7947bc7578adb24e76885682adcc099a93ba48e504", func := "pub-wardkeep/laws.FnXteaTable", spec := "fnXteaTable", unfollowed := true, recurses := true, apart := false, narrowed := true }
def FnXteaTableUptoSaid : Prop := fnXteaTableUptoRow.holds Try.pinned (OpenSpec.upto fnXteaTableSpec)

/-- 'laws.FnTwofishMult', WHERE WHAT IT READS IS OF BULK AT MOST 1048576: true; the input reads as it did. -/
def fnTwofishMultUptoRow : OpenClaim := { program := "ytcjoocaabeckfaa", sum := "f81d6586ab5cd39ca2086c7947bc7578adb24e76885682adcc099a93ba48e504", func := "pub-wardkeep/laws.FnTwofishMult", spec := "fnTwofishMult", unfollowed := true, recurses := true, apart := false, narrowed := true }
def FnTwofishMultUptoSaid : Prop := fnTwofishMultUptoRow.holds Try.pinned (OpenSpec.upto fnTwofishMultSpec)

/-- 'laws.FnTea', WHERE WHAT IT READS IS OF BULK AT MOST 1048576: true; the input reads as it did. -/
def fnTeaUptoRow : OpenClaim := { program := "ytcjoocaabeckfaa", sum := "f81d6586ab5cd39ca2086c7947bc7578adb24e76885682adcc099a93ba48e504", func := "pub-wardkeep/laws.FnTea", spec := "fnTea", unfollowed := true, recurses := true, apart := false, narrowed := true }
def FnTeaUptoSaid : Prop := fnTeaUptoRow.holds Try.pinned (OpenSpec.upto fnTeaSpec)

/-- 'laws.FnTeaBack', WHERE WHAT IT READS IS OF BULK AT MOST 1048576: true; the input reads as it did. -/
def fnTeaBackUptoRow : OpenClaim := { program := "ytcjoocaabeckfaa", sum := "f81d6586ab5cd39ca2086c7947bc7578adb24e76885682adcc099a93ba48e504", func := "pub-wardkeep/laws.FnTeaBack", spec := "fnTeaBack", unfollowed := true, recurses := true, apart := false, narrowed := true }
def FnTeaBackUptoSaid : Prop := fnTeaBackUptoRow.holds Try.pinned (OpenSpec.upto fnTeaBackSpec)

/-- 'laws.FnTeaKeys', WHERE WHAT IT READS IS OF BULK AT MOST 1048576: true; the input reads as it did. -/
def fnTeaKeysUptoRow : OpenClaim := { program := "ytcjoocaabeckfaa", sum := "f81d6586ab5cd39ca2086c7947bc7578adb24e76885682adcc099a93ba48e504", func := "pub-wardkeep/laws.FnTeaKeys", spec := "fnTeaKeys", unfollowed := true, recurses := true, apart := false, narrowed := true }
def FnTeaKeysUptoSaid : Prop := fnTeaKeysUptoRow.holds Try.pinned (OpenSpec.upto fnTeaKeysSpec)

/-- 'laws.FnTwofishColumn', WHERE WHAT IT READS IS OF BULK AT MOST 1048576: true; the input reads as it did. -/
def fnTwofishColumnUptoRow : OpenClaim := { program := "ytcjoocaabeckfaa", sum := "f81d6586ab5cd39ca2086c7947bc7578adb24e76885682adcc099a93ba48e504", func := "pub-wardkeep/laws.FnTwofishColumn", spec := "fnTwofishColumn", unfollowed := true, recurses := true, apart := false, narrowed := true }
def FnTwofishColumnUptoSaid : Prop := fnTwofishColumnUptoRow.holds Try.pinned (OpenSpec.upto fnTwofishColumnSpec)

end Rows
end Go.Proofs.Ytcjoocaabeckfaa
