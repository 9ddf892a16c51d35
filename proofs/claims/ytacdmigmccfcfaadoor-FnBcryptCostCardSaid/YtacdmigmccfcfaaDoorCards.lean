/-
  DERIVED. GIVEN WITH THE SEED: THE CARDS: each row of YtacdmigmccfcfaaDoorRows.lean that lists a variable, with what it lists TIED to the program's text (the seventh form; the later family's looks); each row that meets fmt, with fmt's text TOLD by the authors' own Lean function (tested against real Go, not proved from fmt's source: count such statements apart). THE CARD IS WHAT COUNTS. Prove the row's statement (the work); the ties are given (YtacdmigmccfcfaaDoorTie.lean); close each card by the builder's one call (the guide's Derived/Test/ToyasCard.lean, 'card_holds'). Laid BY PROGRAM, IN A SANDBOX (cutbox-door.mjs). By AI agents, Wed Nov 11 2026. No macro, syntax, notation, axiom, sorry.
-/
import Derived.Test.YtacdmigmccfcfaaDoorRows
import GoSem.ClaimSeven
namespace Go.Proofs.YtacdmigmccfcfaaDoor
namespace Rows

/-- THE TIED CARD OF 'laws.FnBcryptCost'. -/
def fnBcryptCostCard : Claim7 := { stood := { row := fnBcryptCostRow, standIns := [], harness := (true, "d35cd3f0e61100ce26e95c78209fb4e0551fdea3b2f65d94e10e11f5d08e88c5"), looks := true }, kinds := [], alts := [], laidByText := true, laidKinds := [.data, .data, .data, .handle, .sentinel, .sentinel, .sentinel, .sentinel], laidTests := true, laidLooks := .later }
def FnBcryptCostCardSaid : Prop := Claim7.holds Tryd.pinned (.plain (OpenSpec.ofChange fnBcryptCostSpec)) fnBcryptCostCard

/-- THE SECOND FORM's CARD OF 'laws.FnBcryptCost'. -/
def fnBcryptCostUptoCard : Claim7 := { stood := { row := fnBcryptCostUptoRow, standIns := [], harness := (true, "d35cd3f0e61100ce26e95c78209fb4e0551fdea3b2f65d94e10e11f5d08e88c5"), looks := true }, kinds := [], alts := [], laidByText := true, laidKinds := [.data, .data, .data, .handle, .sentinel, .sentinel, .sentinel, .sentinel], laidTests := true, laidLooks := .later }
def FnBcryptCostUptoCardSaid : Prop := Claim7.holds Tryd.pinned (.plain (OpenSpec.upto fnBcryptCostSpec)) fnBcryptCostUptoCard
end Rows
end Go.Proofs.YtacdmigmccfcfaaDoor
