/-
  DERIVED. GIVEN WITH THE SEED: THE CARDS: each row of YtjkjnhcnmjknmaaGreatDoorRows.lean that lists a variable, with what it lists TIED to the program's text (the seventh form; the later family's looks); each row that meets fmt, with fmt's text TOLD by the authors' own Lean function (tested against real Go, not proved from fmt's source: count such statements apart). THE CARD IS WHAT COUNTS. Prove the row's statement (the work); the ties are given (YtjkjnhcnmjknmaaGreatDoorTie.lean); close each card by the builder's one call (the guide's Derived/Test/ToyasCard.lean, 'card_holds'). Laid BY PROGRAM, IN A SANDBOX (cutbox-door.mjs). By AI agents, Wed Nov 11 2026. No macro, syntax, notation, axiom, sorry.
-/
import Derived.Test.YtjkjnhcnmjknmaaGreatDoorRows
import GoSem.ClaimSeven
namespace Go.Proofs.YtjkjnhcnmjknmaaGreatDoor
namespace Rows

/-- THE TIED CARD OF 'laws.FnDrawAsks'. -/
def fnDrawAsksCard : Claim7 := { stood := { row := fnDrawAsksRow, standIns := [], harness := (true, "fc38f1dfffa5d4220535cc5a635500169ee20b79b83c7421daee7212a2ba36ef"), looks := true }, kinds := [], alts := [], laidByText := true, laidKinds := [.data, .data, .data, .data, .pinned], laidTests := true, laidLooks := .later }
def FnDrawAsksCardSaid : Prop := Claim7.holds Tryz.pinned (.plain (OpenSpec.ofChange fnDrawAsksSpec)) fnDrawAsksCard

/-- THE TIED CARD OF 'laws.FnDrawModes'. -/
def fnDrawModesCard : Claim7 := { stood := { row := fnDrawModesRow, standIns := [], harness := (true, "fc38f1dfffa5d4220535cc5a635500169ee20b79b83c7421daee7212a2ba36ef"), looks := true }, kinds := [], alts := [], laidByText := true, laidKinds := [.data, .data, .data, .data, .pinned], laidTests := true, laidLooks := .later }
def FnDrawModesCardSaid : Prop := Claim7.holds Tryz.pinned (.plain (OpenSpec.ofChange fnDrawModesSpec)) fnDrawModesCard

/-- THE TIED CARD OF 'laws.FnDrawGraphics'. -/
def fnDrawGraphicsCard : Claim7 := { stood := { row := fnDrawGraphicsRow, standIns := [], harness := (true, "fc38f1dfffa5d4220535cc5a635500169ee20b79b83c7421daee7212a2ba36ef"), looks := true }, kinds := [], alts := [], laidByText := true, laidKinds := [.data, .data, .data, .data, .sentinel, .pinned], laidTests := true, laidLooks := .later }
def FnDrawGraphicsCardSaid : Prop := Claim7.holds Tryz.pinned (.plain (OpenSpec.ofChange fnDrawGraphicsSpec)) fnDrawGraphicsCard

/-- THE TIED CARD OF 'laws.FnDrawColors'. -/
def fnDrawColorsCard : Claim7 := { stood := { row := fnDrawColorsRow, standIns := [], harness := (true, "fc38f1dfffa5d4220535cc5a635500169ee20b79b83c7421daee7212a2ba36ef"), looks := true }, kinds := [], alts := [], laidByText := true, laidKinds := [.data, .data, .data, .data, .sentinel, .pinned], laidTests := true, laidLooks := .later }
def FnDrawColorsCardSaid : Prop := Claim7.holds Tryz.pinned (.plain (OpenSpec.ofChange fnDrawColorsSpec)) fnDrawColorsCard

/-- THE TIED CARD OF 'laws.FnDrawTitles'. -/
def fnDrawTitlesCard : Claim7 := { stood := { row := fnDrawTitlesRow, standIns := [], harness := (true, "fc38f1dfffa5d4220535cc5a635500169ee20b79b83c7421daee7212a2ba36ef"), looks := true }, kinds := [], alts := [], laidByText := true, laidKinds := [.data, .data, .data, .data, .sentinel, .pinned], laidTests := true, laidLooks := .later }
def FnDrawTitlesCardSaid : Prop := Claim7.holds Tryz.pinned (.plain (OpenSpec.ofChange fnDrawTitlesSpec)) fnDrawTitlesCard

/-- THE SECOND FORM's CARD OF 'laws.FnDrawAsks'. -/
def fnDrawAsksUptoCard : Claim7 := { stood := { row := fnDrawAsksUptoRow, standIns := [], harness := (true, "fc38f1dfffa5d4220535cc5a635500169ee20b79b83c7421daee7212a2ba36ef"), looks := true }, kinds := [], alts := [], laidByText := true, laidKinds := [.data, .data, .data, .data, .pinned], laidTests := true, laidLooks := .later }
def FnDrawAsksUptoCardSaid : Prop := Claim7.holds Tryz.pinned (.plain (OpenSpec.upto fnDrawAsksSpec)) fnDrawAsksUptoCard

/-- THE SECOND FORM's CARD OF 'laws.FnDrawModes'. -/
def fnDrawModesUptoCard : Claim7 := { stood := { row := fnDrawModesUptoRow, standIns := [], harness := (true, "fc38f1dfffa5d4220535cc5a635500169ee20b79b83c7421daee7212a2ba36ef"), looks := true }, kinds := [], alts := [], laidByText := true, laidKinds := [.data, .data, .data, .data, .pinned], laidTests := true, laidLooks := .later }
def FnDrawModesUptoCardSaid : Prop := Claim7.holds Tryz.pinned (.plain (OpenSpec.upto fnDrawModesSpec)) fnDrawModesUptoCard

/-- THE SECOND FORM's CARD OF 'laws.FnDrawGraphics'. -/
def fnDrawGraphicsUptoCard : Claim7 := { stood := { row := fnDrawGraphicsUptoRow, standIns := [], harness := (true, "fc38f1dfffa5d4220535cc5a635500169ee20b79b83c7421daee7212a2ba36ef"), looks := true }, kinds := [], alts := [], laidByText := true, laidKinds := [.data, .data, .data, .data, .sentinel, .pinned], laidTests := true, laidLooks := .later }
def FnDrawGraphicsUptoCardSaid : Prop := Claim7.holds Tryz.pinned (.plain (OpenSpec.upto fnDrawGraphicsSpec)) fnDrawGraphicsUptoCard

/-- THE SECOND FORM's CARD OF 'laws.FnDrawColors'. -/
def fnDrawColorsUptoCard : Claim7 := { stood := { row := fnDrawColorsUptoRow, standIns := [], harness := (true, "fc38f1dfffa5d4220535cc5a635500169ee20b79b83c7421daee7212a2ba36ef"), looks := true }, kinds := [], alts := [], laidByText := true, laidKinds := [.data, .data, .data, .data, .sentinel, .pinned], laidTests := true, laidLooks := .later }
def FnDrawColorsUptoCardSaid : Prop := Claim7.holds Tryz.pinned (.plain (OpenSpec.upto fnDrawColorsSpec)) fnDrawColorsUptoCard

/-- THE SECOND FORM's CARD OF 'laws.FnDrawTitles'. -/
def fnDrawTitlesUptoCard : Claim7 := { stood := { row := fnDrawTitlesUptoRow, standIns := [], harness := (true, "fc38f1dfffa5d4220535cc5a635500169ee20b79b83c7421daee7212a2ba36ef"), looks := true }, kinds := [], alts := [], laidByText := true, laidKinds := [.data, .data, .data, .data, .sentinel, .pinned], laidTests := true, laidLooks := .later }
def FnDrawTitlesUptoCardSaid : Prop := Claim7.holds Tryz.pinned (.plain (OpenSpec.upto fnDrawTitlesSpec)) fnDrawTitlesUptoCard
end Rows
end Go.Proofs.YtjkjnhcnmjknmaaGreatDoor
