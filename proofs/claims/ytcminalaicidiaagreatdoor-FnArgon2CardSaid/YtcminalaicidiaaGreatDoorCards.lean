/-
  DERIVED. GIVEN WITH THE SEED: THE CARDS: each row of YtcminalaicidiaaGreatDoorRows.lean that lists a variable, with what it lists TIED to the program's text (the seventh form; the later family's looks); each row that meets fmt, with fmt's text TOLD by the authors' own Lean function (tested against real Go, not proved from fmt's source: count such statements apart). THE CARD IS WHAT COUNTS. Prove the row's statement (the work); the ties are given (YtcminalaicidiaaGreatDoorTie.lean); close each card by the builder's one call (the guide's Derived/Test/ToyasCard.lean, 'card_holds'). Laid BY PROGRAM, IN A SANDBOX (cutbox-door.mjs). By AI agents, Wed Nov 11 2026. No macro, syntax, notation, axiom, sorry.
-/
import Derived.Test.YtcminalaicidiaaGreatDoorRows
import GoSem.ClaimSeven
namespace Go.Proofs.YtcminalaicidiaaGreatDoor
namespace Rows

/-- THE TIED CARD OF 'laws.FnArgon2Derive'. -/
def fnArgon2DeriveCard : Claim7 := { stood := { row := fnArgon2DeriveRow, standIns := [], harness := (true, "a9dc6c6dc0367eec5be6d26692a05c32b57fda6e9593edd78de80ae44127e478"), looks := false }, kinds := [], alts := [], goes := true, laidByText := true, laidKinds := [.sentinel, .sentinel, .data, .data], laidTests := true, laidLooks := .later }
def FnArgon2DeriveCardSaid : Prop := Claim7.holds Tryz.pinned (.plain (OpenSpec.ofChange fnArgon2DeriveSpec)) fnArgon2DeriveCard

/-- THE TIED CARD OF 'laws.FnArgon2'. -/
def fnArgon2Card : Claim7 := { stood := { row := fnArgon2Row, standIns := [], harness := (true, "a9dc6c6dc0367eec5be6d26692a05c32b57fda6e9593edd78de80ae44127e478"), looks := false }, kinds := [], alts := [], goes := true, laidByText := true, laidKinds := [.sentinel, .sentinel, .data, .data], laidTests := true, laidLooks := .later }
def FnArgon2CardSaid : Prop := Claim7.holds Tryz.pinned (.plain (OpenSpec.ofChange fnArgon2Spec)) fnArgon2Card

/-- THE SECOND FORM's CARD OF 'laws.FnArgon2Derive'. -/
def fnArgon2DeriveUptoCard : Claim7 := { stood := { row := fnArgon2DeriveUptoRow, standIns := [], harness := (true, "a9dc6c6dc0367eec5be6d26692a05c32b57fda6e9593edd78de80ae44127e478"), looks := false }, kinds := [], alts := [], goes := true, laidByText := true, laidKinds := [.sentinel, .sentinel, .data, .data], laidTests := true, laidLooks := .later }
def FnArgon2DeriveUptoCardSaid : Prop := Claim7.holds Tryz.pinned (.plain (OpenSpec.upto fnArgon2DeriveSpec)) fnArgon2DeriveUptoCard

/-- THE SECOND FORM's CARD OF 'laws.FnArgon2'. -/
def fnArgon2UptoCard : Claim7 := { stood := { row := fnArgon2UptoRow, standIns := [], harness := (true, "a9dc6c6dc0367eec5be6d26692a05c32b57fda6e9593edd78de80ae44127e478"), looks := false }, kinds := [], alts := [], goes := true, laidByText := true, laidKinds := [.sentinel, .sentinel, .data, .data], laidTests := true, laidLooks := .later }
def FnArgon2UptoCardSaid : Prop := Claim7.holds Tryz.pinned (.plain (OpenSpec.upto fnArgon2Spec)) fnArgon2UptoCard
end Rows
end Go.Proofs.YtcminalaicidiaaGreatDoor
