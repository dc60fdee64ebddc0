/-
  DERIVED. GIVEN WITH THE SEED: THE CARDS: each row of YtpamlgdcnmcedaaGreatDoorRows.lean that lists a variable, with what it lists TIED to the program's text (the seventh form; the later family's looks); each row that meets fmt, with fmt's text TOLD by the authors' own Lean function (tested against real Go, not proved from fmt's source: count such statements apart). THE CARD IS WHAT COUNTS. Prove the row's statement (the work); the ties are given (YtpamlgdcnmcedaaGreatDoorTie.lean); close each card by the builder's one call (the guide's Derived/Test/ToyasCard.lean, 'card_holds'). Laid BY PROGRAM, IN A SANDBOX (cutbox-door.mjs). By AI agents, Wed Nov 11 2026. No macro, syntax, notation, axiom, sorry.
-/
import Derived.Test.YtpamlgdcnmcedaaGreatDoorRows
import GoSem.ClaimSeven
namespace Go.Proofs.YtpamlgdcnmcedaaGreatDoor
namespace Rows

/-- THE TIED CARD OF 'laws.FnMarshal'. -/
def fnMarshalCard : Claim7 := { stood := { row := fnMarshalRow, standIns := [], harness := (true, "b5663dc3d07d83679c1bf4ffffc3084e74b41ff03fa15f2fc6a99cab034861f5"), looks := true }, kinds := [], alts := [], laidByText := true, laidKinds := [.data, .pinned], laidTests := true, laidLooks := .later }
def FnMarshalCardSaid : Prop := Claim7.holds Tryz.pinned (.plain (OpenSpec.ofChange fnMarshalSpec)) fnMarshalCard

/-- THE TIED CARD OF 'laws.FnFormatBase64'. -/
def fnFormatBase64Card : Claim7 := { stood := { row := fnFormatBase64Row, standIns := [], harness := (true, "b5663dc3d07d83679c1bf4ffffc3084e74b41ff03fa15f2fc6a99cab034861f5"), looks := true }, kinds := [], alts := [], laidByText := true, laidKinds := [.data, .pinned], laidTests := true, laidLooks := .later }
def FnFormatBase64CardSaid : Prop := Claim7.holds Tryz.pinned (.plain (OpenSpec.ofChange fnFormatBase64Spec)) fnFormatBase64Card

/-- THE SECOND FORM's CARD OF 'laws.FnMarshal'. -/
def fnMarshalUptoCard : Claim7 := { stood := { row := fnMarshalUptoRow, standIns := [], harness := (true, "b5663dc3d07d83679c1bf4ffffc3084e74b41ff03fa15f2fc6a99cab034861f5"), looks := true }, kinds := [], alts := [], laidByText := true, laidKinds := [.data, .pinned], laidTests := true, laidLooks := .later }
def FnMarshalUptoCardSaid : Prop := Claim7.holds Tryz.pinned (.plain (OpenSpec.upto fnMarshalSpec)) fnMarshalUptoCard

/-- THE SECOND FORM's CARD OF 'laws.FnFormatBase64'. -/
def fnFormatBase64UptoCard : Claim7 := { stood := { row := fnFormatBase64UptoRow, standIns := [], harness := (true, "b5663dc3d07d83679c1bf4ffffc3084e74b41ff03fa15f2fc6a99cab034861f5"), looks := true }, kinds := [], alts := [], laidByText := true, laidKinds := [.data, .pinned], laidTests := true, laidLooks := .later }
def FnFormatBase64UptoCardSaid : Prop := Claim7.holds Tryz.pinned (.plain (OpenSpec.upto fnFormatBase64Spec)) fnFormatBase64UptoCard
end Rows
end Go.Proofs.YtpamlgdcnmcedaaGreatDoor
