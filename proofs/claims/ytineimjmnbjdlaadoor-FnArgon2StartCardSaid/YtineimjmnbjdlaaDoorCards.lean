/-
  DERIVED. GIVEN WITH THE SEED: THE CARDS: each row of YtineimjmnbjdlaaDoorRows.lean that lists a variable, with what it lists TIED to the program's text (the seventh form; the later family's looks); each row that meets fmt, with fmt's text TOLD by the authors' own Lean function (tested against real Go, not proved from fmt's source: count such statements apart). THE CARD IS WHAT COUNTS. Prove the row's statement (the work); the ties are given (YtineimjmnbjdlaaDoorTie.lean); close each card by the builder's one call (the guide's Derived/Test/ToyasCard.lean, 'card_holds'). Laid BY PROGRAM, IN A SANDBOX (cutbox-door.mjs). By AI agents, Wed Nov 11 2026. No macro, syntax, notation, axiom, sorry.
-/
import Derived.Test.YtineimjmnbjdlaaDoorRows
import GoSem.ClaimSeven
namespace Go.Proofs.YtineimjmnbjdlaaDoor
namespace Rows

/-- THE TIED CARD OF 'laws.FnArgon2Long'. -/
def fnArgon2LongCard : Claim7 := { stood := { row := fnArgon2LongRow, standIns := [], harness := (true, "a376baf0e985b1e0bc4c86f682516aaffaf348d77de1c1b6d93165364309aef8"), looks := false }, kinds := [], alts := [], goes := true, laidByText := true, laidKinds := [.sentinel, .sentinel, .data, .data], laidTests := true, laidLooks := .later }
def FnArgon2LongCardSaid : Prop := Claim7.holds Tryd.pinned (.plain (OpenSpec.ofChange fnArgon2LongSpec)) fnArgon2LongCard

/-- THE TIED CARD OF 'laws.FnArgon2Start'. -/
def fnArgon2StartCard : Claim7 := { stood := { row := fnArgon2StartRow, standIns := [], harness := (true, "a376baf0e985b1e0bc4c86f682516aaffaf348d77de1c1b6d93165364309aef8"), looks := false }, kinds := [], alts := [], goes := true, laidByText := true, laidKinds := [.sentinel, .sentinel, .data, .data], laidTests := true, laidLooks := .later }
def FnArgon2StartCardSaid : Prop := Claim7.holds Tryd.pinned (.plain (OpenSpec.ofChange fnArgon2StartSpec)) fnArgon2StartCard

/-- THE SECOND FORM's CARD OF 'laws.FnArgon2Long'. -/
def fnArgon2LongUptoCard : Claim7 := { stood := { row := fnArgon2LongUptoRow, standIns := [], harness := (true, "a376baf0e985b1e0bc4c86f682516aaffaf348d77de1c1b6d93165364309aef8"), looks := false }, kinds := [], alts := [], goes := true, laidByText := true, laidKinds := [.sentinel, .sentinel, .data, .data], laidTests := true, laidLooks := .later }
def FnArgon2LongUptoCardSaid : Prop := Claim7.holds Tryd.pinned (.plain (OpenSpec.upto fnArgon2LongSpec)) fnArgon2LongUptoCard

/-- THE SECOND FORM's CARD OF 'laws.FnArgon2Start'. -/
def fnArgon2StartUptoCard : Claim7 := { stood := { row := fnArgon2StartUptoRow, standIns := [], harness := (true, "a376baf0e985b1e0bc4c86f682516aaffaf348d77de1c1b6d93165364309aef8"), looks := false }, kinds := [], alts := [], goes := true, laidByText := true, laidKinds := [.sentinel, .sentinel, .data, .data], laidTests := true, laidLooks := .later }
def FnArgon2StartUptoCardSaid : Prop := Claim7.holds Tryd.pinned (.plain (OpenSpec.upto fnArgon2StartSpec)) fnArgon2StartUptoCard
end Rows
end Go.Proofs.YtineimjmnbjdlaaDoor
