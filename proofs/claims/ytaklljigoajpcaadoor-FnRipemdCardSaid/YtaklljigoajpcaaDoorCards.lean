/-
  DERIVED. GIVEN WITH THE SEED: THE CARDS: each row of YtaklljigoajpcaaDoorRows.lean that lists a variable, with what it lists TIED to the program's text (the seventh form; the later family's looks); each row that meets fmt, with fmt's text TOLD by the authors' own Lean function (tested against real Go, not proved from fmt's source: count such statements apart). THE CARD IS WHAT COUNTS. Prove the row's statement (the work); the ties are given (YtaklljigoajpcaaDoorTie.lean); close each card by the builder's one call (the guide's Derived/Test/ToyasCard.lean, 'card_holds'). Laid BY PROGRAM, IN A SANDBOX (cutbox-door.mjs). By AI agents, Wed Nov 11 2026. No macro, syntax, notation, axiom, sorry.
-/
import Derived.Test.YtaklljigoajpcaaDoorRows
import GoSem.ClaimSeven
namespace Go.Proofs.YtaklljigoajpcaaDoor
namespace Rows

/-- THE TIED CARD OF 'laws.FnRipemd'. -/
def fnRipemdCard : Claim7 := { stood := { row := fnRipemdRow, standIns := [], harness := (true, "29816d1f0eb4f00cb746d9b64e0df4ee5501f78b92cd8e10c20a87834921c875"), looks := false }, kinds := [], alts := [], laidByText := true, laidKinds := [.data, .data, .data, .data], laidTests := true, laidLooks := .later }
def FnRipemdCardSaid : Prop := Claim7.holds Tryd.pinned (.plain (OpenSpec.ofChange fnRipemdSpec)) fnRipemdCard

/-- THE TIED CARD OF 'laws.FnMd4Blocks'. -/
def fnMd4BlocksCard : Claim7 := { stood := { row := fnMd4BlocksRow, standIns := [], harness := (true, "29816d1f0eb4f00cb746d9b64e0df4ee5501f78b92cd8e10c20a87834921c875"), looks := false }, kinds := [], alts := [], laidByText := true, laidKinds := [.data, .data, .data, .data, .data], laidTests := true, laidLooks := .later }
def FnMd4BlocksCardSaid : Prop := Claim7.holds Tryd.pinned (.plain (OpenSpec.ofChange fnMd4BlocksSpec)) fnMd4BlocksCard

/-- THE TIED CARD OF 'laws.FnRipemdBlocks'. -/
def fnRipemdBlocksCard : Claim7 := { stood := { row := fnRipemdBlocksRow, standIns := [], harness := (true, "29816d1f0eb4f00cb746d9b64e0df4ee5501f78b92cd8e10c20a87834921c875"), looks := false }, kinds := [], alts := [], laidByText := true, laidKinds := [.data, .data, .data, .data], laidTests := true, laidLooks := .later }
def FnRipemdBlocksCardSaid : Prop := Claim7.holds Tryd.pinned (.plain (OpenSpec.ofChange fnRipemdBlocksSpec)) fnRipemdBlocksCard

/-- THE TIED CARD OF 'laws.FnBlocksJoin'. -/
def fnBlocksJoinCard : Claim7 := { stood := { row := fnBlocksJoinRow, standIns := [], harness := (true, "29816d1f0eb4f00cb746d9b64e0df4ee5501f78b92cd8e10c20a87834921c875"), looks := false }, kinds := [], alts := [], laidByText := true, laidKinds := [.data, .data, .data, .data, .data, .data, .data, .data, .data], laidTests := true, laidLooks := .later }
def FnBlocksJoinCardSaid : Prop := Claim7.holds Tryd.pinned (.plain (OpenSpec.ofChange fnBlocksJoinSpec)) fnBlocksJoinCard

/-- THE TIED CARD OF 'laws.FnDigestsPadded'. -/
def fnDigestsPaddedCard : Claim7 := { stood := { row := fnDigestsPaddedRow, standIns := [], harness := (true, "29816d1f0eb4f00cb746d9b64e0df4ee5501f78b92cd8e10c20a87834921c875"), looks := false }, kinds := [], alts := [], laidByText := true, laidKinds := [.data, .data, .data, .data, .data, .data, .data, .data, .data], laidTests := true, laidLooks := .later }
def FnDigestsPaddedCardSaid : Prop := Claim7.holds Tryd.pinned (.plain (OpenSpec.ofChange fnDigestsPaddedSpec)) fnDigestsPaddedCard

/-- THE SECOND FORM's CARD OF 'laws.FnRipemd'. -/
def fnRipemdUptoCard : Claim7 := { stood := { row := fnRipemdUptoRow, standIns := [], harness := (true, "29816d1f0eb4f00cb746d9b64e0df4ee5501f78b92cd8e10c20a87834921c875"), looks := false }, kinds := [], alts := [], laidByText := true, laidKinds := [.data, .data, .data, .data], laidTests := true, laidLooks := .later }
def FnRipemdUptoCardSaid : Prop := Claim7.holds Tryd.pinned (.plain (OpenSpec.upto fnRipemdSpec)) fnRipemdUptoCard

/-- THE SECOND FORM's CARD OF 'laws.FnMd4Blocks'. -/
def fnMd4BlocksUptoCard : Claim7 := { stood := { row := fnMd4BlocksUptoRow, standIns := [], harness := (true, "29816d1f0eb4f00cb746d9b64e0df4ee5501f78b92cd8e10c20a87834921c875"), looks := false }, kinds := [], alts := [], laidByText := true, laidKinds := [.data, .data, .data, .data, .data], laidTests := true, laidLooks := .later }
def FnMd4BlocksUptoCardSaid : Prop := Claim7.holds Tryd.pinned (.plain (OpenSpec.upto fnMd4BlocksSpec)) fnMd4BlocksUptoCard

/-- THE SECOND FORM's CARD OF 'laws.FnRipemdBlocks'. -/
def fnRipemdBlocksUptoCard : Claim7 := { stood := { row := fnRipemdBlocksUptoRow, standIns := [], harness := (true, "29816d1f0eb4f00cb746d9b64e0df4ee5501f78b92cd8e10c20a87834921c875"), looks := false }, kinds := [], alts := [], laidByText := true, laidKinds := [.data, .data, .data, .data], laidTests := true, laidLooks := .later }
def FnRipemdBlocksUptoCardSaid : Prop := Claim7.holds Tryd.pinned (.plain (OpenSpec.upto fnRipemdBlocksSpec)) fnRipemdBlocksUptoCard

/-- THE SECOND FORM's CARD OF 'laws.FnBlocksJoin'. -/
def fnBlocksJoinUptoCard : Claim7 := { stood := { row := fnBlocksJoinUptoRow, standIns := [], harness := (true, "29816d1f0eb4f00cb746d9b64e0df4ee5501f78b92cd8e10c20a87834921c875"), looks := false }, kinds := [], alts := [], laidByText := true, laidKinds := [.data, .data, .data, .data, .data, .data, .data, .data, .data], laidTests := true, laidLooks := .later }
def FnBlocksJoinUptoCardSaid : Prop := Claim7.holds Tryd.pinned (.plain (OpenSpec.upto fnBlocksJoinSpec)) fnBlocksJoinUptoCard

/-- THE SECOND FORM's CARD OF 'laws.FnDigestsPadded'. -/
def fnDigestsPaddedUptoCard : Claim7 := { stood := { row := fnDigestsPaddedUptoRow, standIns := [], harness := (true, "29816d1f0eb4f00cb746d9b64e0df4ee5501f78b92cd8e10c20a87834921c875"), looks := false }, kinds := [], alts := [], laidByText := true, laidKinds := [.data, .data, .data, .data, .data, .data, .data, .data, .data], laidTests := true, laidLooks := .later }
def FnDigestsPaddedUptoCardSaid : Prop := Claim7.holds Tryd.pinned (.plain (OpenSpec.upto fnDigestsPaddedSpec)) fnDigestsPaddedUptoCard
end Rows
end Go.Proofs.YtaklljigoajpcaaDoor
