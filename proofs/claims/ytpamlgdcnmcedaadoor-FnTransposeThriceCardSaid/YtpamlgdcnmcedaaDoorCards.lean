/-
  DERIVED. GIVEN WITH THE SEED: THE CARDS: each row of YtpamlgdcnmcedaaDoorRows.lean that lists a variable, with what it lists TIED to the program's text (the seventh form; the later family's looks); each row that meets fmt, with fmt's text TOLD by the authors' own Lean function (tested against real Go, not proved from fmt's source: count such statements apart). THE CARD IS WHAT COUNTS. Prove the row's statement (the work); the ties are given (YtpamlgdcnmcedaaDoorTie.lean); close each card by the builder's one call (the guide's Derived/Test/ToyasCard.lean, 'card_holds'). Laid BY PROGRAM, IN A SANDBOX (cutbox-door.mjs). By AI agents, Wed Nov 11 2026. No macro, syntax, notation, axiom, sorry.
-/
import Derived.Test.YtpamlgdcnmcedaaDoorRows
import GoSem.ClaimSeven
namespace Go.Proofs.YtpamlgdcnmcedaaDoor
namespace Rows

/-- THE TIED CARD OF 'laws.FnPlus'. -/
def fnPlusCard : Claim7 := { stood := { row := fnPlusRow, standIns := [], harness := (true, "a46cf6fa662d2f0edcc7f550a7bd429eef9f8fd337266ef34c351142ef7131f2"), looks := true }, kinds := [], alts := [], laidByText := true, laidKinds := [.data, .pinned], laidTests := true, laidLooks := .later }
def FnPlusCardSaid : Prop := Claim7.holds Tryd.pinned (.plain (OpenSpec.ofChange fnPlusSpec)) fnPlusCard

/-- THE TIED CARD OF 'laws.FnTransposeThrice'. -/
def fnTransposeThriceCard : Claim7 := { stood := { row := fnTransposeThriceRow, standIns := [], harness := (true, "a46cf6fa662d2f0edcc7f550a7bd429eef9f8fd337266ef34c351142ef7131f2"), looks := true }, kinds := [], alts := [], laidByText := true, laidKinds := [.data, .pinned], laidTests := true, laidLooks := .later }
def FnTransposeThriceCardSaid : Prop := Claim7.holds Tryd.pinned (.plain (OpenSpec.ofChange fnTransposeThriceSpec)) fnTransposeThriceCard

/-- THE TIED CARD OF 'laws.FnStartsWith'. -/
def fnStartsWithCard : Claim7 := { stood := { row := fnStartsWithRow, standIns := [], harness := (true, "a46cf6fa662d2f0edcc7f550a7bd429eef9f8fd337266ef34c351142ef7131f2"), looks := true }, kinds := [], alts := [], laidByText := true, laidKinds := [.data, .pinned], laidTests := true, laidLooks := .later }
def FnStartsWithCardSaid : Prop := Claim7.holds Tryd.pinned (.plain (OpenSpec.ofChange fnStartsWithSpec)) fnStartsWithCard

/-- THE TIED CARD OF 'laws.FnSplit'. -/
def fnSplitCard : Claim7 := { stood := { row := fnSplitRow, standIns := [], harness := (true, "a46cf6fa662d2f0edcc7f550a7bd429eef9f8fd337266ef34c351142ef7131f2"), looks := true }, kinds := [], alts := [], laidByText := true, laidKinds := [.data, .pinned], laidTests := true, laidLooks := .later }
def FnSplitCardSaid : Prop := Claim7.holds Tryd.pinned (.plain (OpenSpec.ofChange fnSplitSpec)) fnSplitCard

/-- THE TIED CARD OF 'laws.FnRepeat'. -/
def fnRepeatCard : Claim7 := { stood := { row := fnRepeatRow, standIns := [], harness := (true, "a46cf6fa662d2f0edcc7f550a7bd429eef9f8fd337266ef34c351142ef7131f2"), looks := true }, kinds := [], alts := [], laidByText := true, laidKinds := [.data, .pinned], laidTests := true, laidLooks := .later }
def FnRepeatCardSaid : Prop := Claim7.holds Tryd.pinned (.plain (OpenSpec.ofChange fnRepeatSpec)) fnRepeatCard

/-- THE SECOND FORM's CARD OF 'laws.FnPlus'. -/
def fnPlusUptoCard : Claim7 := { stood := { row := fnPlusUptoRow, standIns := [], harness := (true, "a46cf6fa662d2f0edcc7f550a7bd429eef9f8fd337266ef34c351142ef7131f2"), looks := true }, kinds := [], alts := [], laidByText := true, laidKinds := [.data, .pinned], laidTests := true, laidLooks := .later }
def FnPlusUptoCardSaid : Prop := Claim7.holds Tryd.pinned (.plain (OpenSpec.upto fnPlusSpec)) fnPlusUptoCard

/-- THE SECOND FORM's CARD OF 'laws.FnTransposeThrice'. -/
def fnTransposeThriceUptoCard : Claim7 := { stood := { row := fnTransposeThriceUptoRow, standIns := [], harness := (true, "a46cf6fa662d2f0edcc7f550a7bd429eef9f8fd337266ef34c351142ef7131f2"), looks := true }, kinds := [], alts := [], laidByText := true, laidKinds := [.data, .pinned], laidTests := true, laidLooks := .later }
def FnTransposeThriceUptoCardSaid : Prop := Claim7.holds Tryd.pinned (.plain (OpenSpec.upto fnTransposeThriceSpec)) fnTransposeThriceUptoCard

/-- THE SECOND FORM's CARD OF 'laws.FnStartsWith'. -/
def fnStartsWithUptoCard : Claim7 := { stood := { row := fnStartsWithUptoRow, standIns := [], harness := (true, "a46cf6fa662d2f0edcc7f550a7bd429eef9f8fd337266ef34c351142ef7131f2"), looks := true }, kinds := [], alts := [], laidByText := true, laidKinds := [.data, .pinned], laidTests := true, laidLooks := .later }
def FnStartsWithUptoCardSaid : Prop := Claim7.holds Tryd.pinned (.plain (OpenSpec.upto fnStartsWithSpec)) fnStartsWithUptoCard

/-- THE SECOND FORM's CARD OF 'laws.FnSplit'. -/
def fnSplitUptoCard : Claim7 := { stood := { row := fnSplitUptoRow, standIns := [], harness := (true, "a46cf6fa662d2f0edcc7f550a7bd429eef9f8fd337266ef34c351142ef7131f2"), looks := true }, kinds := [], alts := [], laidByText := true, laidKinds := [.data, .pinned], laidTests := true, laidLooks := .later }
def FnSplitUptoCardSaid : Prop := Claim7.holds Tryd.pinned (.plain (OpenSpec.upto fnSplitSpec)) fnSplitUptoCard

/-- THE SECOND FORM's CARD OF 'laws.FnRepeat'. -/
def fnRepeatUptoCard : Claim7 := { stood := { row := fnRepeatUptoRow, standIns := [], harness := (true, "a46cf6fa662d2f0edcc7f550a7bd429eef9f8fd337266ef34c351142ef7131f2"), looks := true }, kinds := [], alts := [], laidByText := true, laidKinds := [.data, .pinned], laidTests := true, laidLooks := .later }
def FnRepeatUptoCardSaid : Prop := Claim7.holds Tryd.pinned (.plain (OpenSpec.upto fnRepeatSpec)) fnRepeatUptoCard
end Rows
end Go.Proofs.YtpamlgdcnmcedaaDoor
