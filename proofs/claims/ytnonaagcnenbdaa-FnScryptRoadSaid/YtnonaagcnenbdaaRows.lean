/-
  No cell of these rows narrows 'for every input' (looked for: loops, veiled, ifaces, maps, wideKeys, modest, calm, conditions, laid).
  DERIVED. THE GIVEN ROWS OF THIS SEAT. 5 by the template 'for every input the law returns true; each argument reads behind the call as it read before'; 0 by the template 'total and deterministic' (their statements: YtnonaagcnenbdaaTotals.lean).
  GIVEN WITH THE SEED: the statements are not yours to turn. If you find one false, say at which input.
  Laid BY PROGRAM, IN A SANDBOX (cutbox-rows.mjs): the forced cells as the released guide's own fill.sh prints them over the translation 05d4d58756f055d1… (all of the seat's roots in one cut). By AI agents, Wed Nov 11 2026. No macro, syntax, notation, axiom, sorry.
-/
import Derived.Test.YtnonaagcnenbdaaChecked
import GoSem.Claim
import GoSem.ClaimJoined
import GoSem.ClaimMapViews
import Derived.JoinedTies
import Derived.KernelRfl
namespace Go.Proofs.Ytnonaagcnenbdaa
/- THE CELL 'sum', in the pinned program and in every row, IS THE sha256 OF THE DUMP (.gsa) THAT YtnonaagcnenbdaaProg.lean LOADS. Nothing in Lean hashes anything: it is a label: what it is worth is what the hold of that sum in a sandbox is worth. -/
noncomputable def Try.pinned : Pinned := { name := "ytnonaagcnenbdaa", sum := "05d4d58756f055d18e8953939dbe08791981fb10ff4c321cc7119954f9119195", checked := Try.checked }
namespace Rows
def none {H : Type} : Left H := { results := [], args := [] }

/-- 'laws.FnScryptMix': WHATEVER THE INPUT: true; the input reads as it did. -/
def fnScryptMixSpec : ChangeSpec := { name := "fnScryptMix", fn := fun _ => fun
  | [d1, d2, d3] => { results := [.lit (.bool true)], args := [d1, d2, d3] }
  | _ => none }
def fnScryptMixRow : OpenClaim := { program := "ytnonaagcnenbdaa", sum := "05d4d58756f055d18e8953939dbe08791981fb10ff4c321cc7119954f9119195", func := "pub-wardkeep/laws.FnScryptMix", spec := "fnScryptMix", named := ["encoding/binary.LittleEndian"], apart := false }
def FnScryptMixSaid : Prop := fnScryptMixRow.holds Try.pinned (OpenSpec.ofChange fnScryptMixSpec)

/-- ITS FALSE NEIGHBOUR: 'it returns false'. Refute it at one input. -/
def fnScryptMixWrong : ChangeSpec := { name := "fnScryptMix", fn := fun _ => fun
  | [d1, d2, d3] => { results := [.lit (.bool false)], args := [d1, d2, d3] }
  | _ => none }
def FnScryptMixWrongFalsely : Prop := fnScryptMixRow.holds Try.pinned (OpenSpec.ofChange fnScryptMixWrong)

/-- 'laws.FnScryptSalsa': WHATEVER THE INPUT: true; the input reads as it did. -/
def fnScryptSalsaSpec : ChangeSpec := { name := "fnScryptSalsa", fn := fun _ => fun
  | [d1, d2] => { results := [.lit (.bool true)], args := [d1, d2] }
  | _ => none }
def fnScryptSalsaRow : OpenClaim := { program := "ytnonaagcnenbdaa", sum := "05d4d58756f055d18e8953939dbe08791981fb10ff4c321cc7119954f9119195", func := "pub-wardkeep/laws.FnScryptSalsa", spec := "fnScryptSalsa", named := ["encoding/binary.LittleEndian"], apart := false }
def FnScryptSalsaSaid : Prop := fnScryptSalsaRow.holds Try.pinned (OpenSpec.ofChange fnScryptSalsaSpec)

/-- ITS FALSE NEIGHBOUR: 'it returns false'. Refute it at one input. -/
def fnScryptSalsaWrong : ChangeSpec := { name := "fnScryptSalsa", fn := fun _ => fun
  | [d1, d2] => { results := [.lit (.bool false)], args := [d1, d2] }
  | _ => none }
def FnScryptSalsaWrongFalsely : Prop := fnScryptSalsaRow.holds Try.pinned (OpenSpec.ofChange fnScryptSalsaWrong)

/-- 'laws.FnScryptBlockMix': WHATEVER THE INPUT: true; the input reads as it did. -/
def fnScryptBlockMixSpec : ChangeSpec := { name := "fnScryptBlockMix", fn := fun _ => fun
  | [d1, d2] => { results := [.lit (.bool true)], args := [d1, d2] }
  | _ => none }
def fnScryptBlockMixRow : OpenClaim := { program := "ytnonaagcnenbdaa", sum := "05d4d58756f055d18e8953939dbe08791981fb10ff4c321cc7119954f9119195", func := "pub-wardkeep/laws.FnScryptBlockMix", spec := "fnScryptBlockMix", named := ["encoding/binary.LittleEndian"], apart := false }
def FnScryptBlockMixSaid : Prop := fnScryptBlockMixRow.holds Try.pinned (OpenSpec.ofChange fnScryptBlockMixSpec)

/-- ITS FALSE NEIGHBOUR: 'it returns false'. Refute it at one input. -/
def fnScryptBlockMixWrong : ChangeSpec := { name := "fnScryptBlockMix", fn := fun _ => fun
  | [d1, d2] => { results := [.lit (.bool false)], args := [d1, d2] }
  | _ => none }
def FnScryptBlockMixWrongFalsely : Prop := fnScryptBlockMixRow.holds Try.pinned (OpenSpec.ofChange fnScryptBlockMixWrong)

/-- 'laws.FnScryptRoad': WHATEVER THE INPUT: true; the input reads as it did. -/
def fnScryptRoadSpec : ChangeSpec := { name := "fnScryptRoad", fn := fun _ => fun
  | [d1, d2, d3] => { results := [.lit (.bool true)], args := [d1, d2, d3] }
  | _ => none }
def fnScryptRoadRow : OpenClaim := { program := "ytnonaagcnenbdaa", sum := "05d4d58756f055d18e8953939dbe08791981fb10ff4c321cc7119954f9119195", func := "pub-wardkeep/laws.FnScryptRoad", spec := "fnScryptRoad", named := ["encoding/binary.LittleEndian"], apart := false }
def FnScryptRoadSaid : Prop := fnScryptRoadRow.holds Try.pinned (OpenSpec.ofChange fnScryptRoadSpec)

/-- ITS FALSE NEIGHBOUR: 'it returns false'. Refute it at one input. -/
def fnScryptRoadWrong : ChangeSpec := { name := "fnScryptRoad", fn := fun _ => fun
  | [d1, d2, d3] => { results := [.lit (.bool false)], args := [d1, d2, d3] }
  | _ => none }
def FnScryptRoadWrongFalsely : Prop := fnScryptRoadRow.holds Try.pinned (OpenSpec.ofChange fnScryptRoadWrong)

/-- 'laws.FnScryptBlockRoad': WHATEVER THE INPUT: true; the input reads as it did. -/
def fnScryptBlockRoadSpec : ChangeSpec := { name := "fnScryptBlockRoad", fn := fun _ => fun
  | [d1, d2] => { results := [.lit (.bool true)], args := [d1, d2] }
  | _ => none }
def fnScryptBlockRoadRow : OpenClaim := { program := "ytnonaagcnenbdaa", sum := "05d4d58756f055d18e8953939dbe08791981fb10ff4c321cc7119954f9119195", func := "pub-wardkeep/laws.FnScryptBlockRoad", spec := "fnScryptBlockRoad", named := ["encoding/binary.LittleEndian"], apart := false }
def FnScryptBlockRoadSaid : Prop := fnScryptBlockRoadRow.holds Try.pinned (OpenSpec.ofChange fnScryptBlockRoadSpec)

/-- ITS FALSE NEIGHBOUR: 'it returns false'. Refute it at one input. -/
def fnScryptBlockRoadWrong : ChangeSpec := { name := "fnScryptBlockRoad", fn := fun _ => fun
  | [d1, d2] => { results := [.lit (.bool false)], args := [d1, d2] }
  | _ => none }
def FnScryptBlockRoadWrongFalsely : Prop := fnScryptBlockRoadRow.holds Try.pinned (OpenSpec.ofChange fnScryptBlockRoadWrong)

/- THE SECOND FORM. 'bulk': how many values and letters a reading holds, each counted each time it is reached (what is shared counts as often as it is met; a slice's spare places count too). A statement '..UptoSaid' is the law's where the arguments, and the package variables that the reading takes, are together of bulk at most 1048576: NARROWER than '..Said'. Prove '..Said' where nothing that the law and all that it calls make is longer than what came in: it says more and counts as full. Else prove '..UptoSaid'. A law counts once. -/
mutual
def uptoBulk {H : Type} : DataW H → Nat
  | .lit (.string bytes) => bytes.length + 1
  | .lit _ => 1
  | .nil => 1
  | .ptr d => uptoBulk d + 1
  | .slice elems spare => uptoBulkAll elems + uptoBulkAll spare + 1
  | .agg parts => uptoBulkAll parts + 1
  | .iface _ d => uptoBulk d + 1
  | .map entries => uptoBulkEntries entries + 1
  | .held _ => 1
def uptoBulkAll {H : Type} : List (DataW H) → Nat
  | [] => 0
  | d :: r => uptoBulk d + uptoBulkAll r
def uptoBulkEntries {H : Type} : List (Lit × DataW H) → Nat
  | [] => 0
  | x :: r => uptoBulkEntry x + uptoBulkEntries r
def uptoBulkEntry {H : Type} : Lit × DataW H → Nat
  | (.string bytes, d) => bytes.length + uptoBulk d + 1
  | (_, d) => uptoBulk d + 1
 end
def uptoSmall : (H : Type) → List (DataW H) → Bool := fun _ ds => decide (uptoBulkAll ds ≤ 1048576)
def OpenSpec.upto (s : _root_.Go.ChangeSpec) : _root_.Go.OpenSpec := { _root_.Go.OpenSpec.ofChange s with cond := some uptoSmall }

/-- 'laws.FnScryptMix', WHERE WHAT IT READS IS OF BULK AT MOST 1048576: true; the input reads as it did. -/
def fnScryptMixUptoRow : OpenClaim := { program := "ytnonaagcnenbdaa", sum := "05d4d58756f055d18e8953939dbe08791981fb10ff4c321cc7119954f9119195", func := "pub-wardkeep/laws.FnScryptMix", spec := "fnScryptMix", named := ["encoding/binary.LittleEndian"], apart := false, narrowed := true }
def FnScryptMixUptoSaid : Prop := fnScryptMixUptoRow.holds Try.pinned (OpenSpec.upto fnScryptMixSpec)

/-- 'laws.FnScryptSalsa', WHERE WHAT IT READS IS OF BULK AT MOST 1048576: true; the input reads as it did. -/
def fnScryptSalsaUptoRow : OpenClaim := { program := "ytnonaagcnenbdaa", sum := "05d4d58756f055d18e8953939dbe08791981fb10ff4c321cc7119954f9119195", func := "pub-wardkeep/laws.FnScryptSalsa", spec := "fnScryptSalsa", named := ["encoding/binary.LittleEndian"], apart := false, narrowed := true }
def FnScryptSalsaUptoSaid : Prop := fnScryptSalsaUptoRow.holds Try.pinned (OpenSpec.upto fnScryptSalsaSpec)

/-- 'laws.FnScryptBlockMix', WHERE WHAT IT READS IS OF BULK AT MOST 1048576: true; the input reads as it did. -/
def fnScryptBlockMixUptoRow : OpenClaim := { program := "ytnonaagcnenbdaa", sum := "05d4d58756f055d18e8953939dbe08791981fb10ff4c321cc7119954f9119195", func := "pub-wardkeep/laws.FnScryptBlockMix", spec := "fnScryptBlockMix", named := ["encoding/binary.LittleEndian"], apart := false, narrowed := true }
def FnScryptBlockMixUptoSaid : Prop := fnScryptBlockMixUptoRow.holds Try.pinned (OpenSpec.upto fnScryptBlockMixSpec)

/-- 'laws.FnScryptRoad', WHERE WHAT IT READS IS OF BULK AT MOST 1048576: true; the input reads as it did. -/
def fnScryptRoadUptoRow : OpenClaim := { program := "ytnonaagcnenbdaa", sum := "05d4d58756f055d18e8953939dbe08791981fb10ff4c321cc7119954f9119195", func := "pub-wardkeep/laws.FnScryptRoad", spec := "fnScryptRoad", named := ["encoding/binary.LittleEndian"], apart := false, narrowed := true }
def FnScryptRoadUptoSaid : Prop := fnScryptRoadUptoRow.holds Try.pinned (OpenSpec.upto fnScryptRoadSpec)

/-- 'laws.FnScryptBlockRoad', WHERE WHAT IT READS IS OF BULK AT MOST 1048576: true; the input reads as it did. -/
def fnScryptBlockRoadUptoRow : OpenClaim := { program := "ytnonaagcnenbdaa", sum := "05d4d58756f055d18e8953939dbe08791981fb10ff4c321cc7119954f9119195", func := "pub-wardkeep/laws.FnScryptBlockRoad", spec := "fnScryptBlockRoad", named := ["encoding/binary.LittleEndian"], apart := false, narrowed := true }
def FnScryptBlockRoadUptoSaid : Prop := fnScryptBlockRoadUptoRow.holds Try.pinned (OpenSpec.upto fnScryptBlockRoadSpec)

end Rows
end Go.Proofs.Ytnonaagcnenbdaa
