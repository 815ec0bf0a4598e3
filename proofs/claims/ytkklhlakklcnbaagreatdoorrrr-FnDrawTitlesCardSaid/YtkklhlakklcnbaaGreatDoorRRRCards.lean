/-
  DERIVED. GIVEN WITH THE SEED: THE CARDS: each row of YtkklhlakklcnbaaGreatDoorRRRRows.lean that lists a variable, with what it lists TIED to the program's text (the seventh form; the later family's looks); each row that meets fmt, with fmt's text TOLD by the authors' own Lean function (tested against real Go, not proved from fmt's source: count such statements apart). THE CARD IS WHAT COUNTS. Prove the row's statement (the work); the ties are given (YtkklhlakklcnbaaGreatDoorRRRTie.lean); close each card by the builder's one call (the guide's Derived/Test/ToyasCard.lean, 'card_holds'). Laid BY PROGRAM, IN A SANDBOX (cutbox-door.mjs). By AI agents, Wed Nov 11 2026. No macro, syntax, notation, axiom, sorry.
-/
import Derived.Test.YtkklhlakklcnbaaGreatDoorRRRRows
import GoSem.ClaimSeven
namespace Go.Proofs.YtkklhlakklcnbaaGreatDoorRRR
namespace Rows

/-- THE TIED CARD OF 'laws.FnDrawPlaces'. -/
def fnDrawPlacesCard : Claim7 := { stood := { row := fnDrawPlacesRow, standIns := [], harness := (true, "96cd9b068dde56dbfbd86597f65b2a7109c263021ff26f64281d11f6f7236caa"), looks := false }, kinds := [], alts := [], laidByText := true, laidKinds := [.data, .data, .data, .data, .pinned], laidTests := true, laidLooks := .later }
def FnDrawPlacesCardSaid : Prop := Claim7.holds Tryz.pinned (.plain (OpenSpec.ofChange fnDrawPlacesSpec)) fnDrawPlacesCard

/-- THE TIED CARD OF 'laws.FnDrawAgain'. -/
def fnDrawAgainCard : Claim7 := { stood := { row := fnDrawAgainRow, standIns := [], harness := (true, "96cd9b068dde56dbfbd86597f65b2a7109c263021ff26f64281d11f6f7236caa"), looks := false }, kinds := [], alts := [], laidByText := true, laidKinds := [.data, .data, .data, .data, .pinned], laidTests := true, laidLooks := .later }
def FnDrawAgainCardSaid : Prop := Claim7.holds Tryz.pinned (.plain (OpenSpec.ofChange fnDrawAgainSpec)) fnDrawAgainCard

/-- THE TIED CARD OF 'laws.FnDrawLines'. -/
def fnDrawLinesCard : Claim7 := { stood := { row := fnDrawLinesRow, standIns := [], harness := (true, "96cd9b068dde56dbfbd86597f65b2a7109c263021ff26f64281d11f6f7236caa"), looks := false }, kinds := [], alts := [], laidByText := true, laidKinds := [.data, .data, .data, .data, .pinned], laidTests := true, laidLooks := .later }
def FnDrawLinesCardSaid : Prop := Claim7.holds Tryz.pinned (.plain (OpenSpec.ofChange fnDrawLinesSpec)) fnDrawLinesCard

/-- THE TIED CARD OF 'laws.FnDrawPlayed'. -/
def fnDrawPlayedCard : Claim7 := { stood := { row := fnDrawPlayedRow, standIns := [], harness := (true, "96cd9b068dde56dbfbd86597f65b2a7109c263021ff26f64281d11f6f7236caa"), looks := false }, kinds := [], alts := [], laidByText := true, laidKinds := [.data, .data, .data, .data, .pinned], laidTests := true, laidLooks := .later }
def FnDrawPlayedCardSaid : Prop := Claim7.holds Tryz.pinned (.plain (OpenSpec.ofChange fnDrawPlayedSpec)) fnDrawPlayedCard

/-- THE TIED CARD OF 'laws.FnDrawRead'. -/
def fnDrawReadCard : Claim7 := { stood := { row := fnDrawReadRow, standIns := [], harness := (true, "96cd9b068dde56dbfbd86597f65b2a7109c263021ff26f64281d11f6f7236caa"), looks := false }, kinds := [], alts := [], laidByText := true, laidKinds := [.data, .data, .data, .data, .pinned], laidTests := true, laidLooks := .later }
def FnDrawReadCardSaid : Prop := Claim7.holds Tryz.pinned (.plain (OpenSpec.ofChange fnDrawReadSpec)) fnDrawReadCard

/-- THE TIED CARD OF 'laws.FnDrawSaved'. -/
def fnDrawSavedCard : Claim7 := { stood := { row := fnDrawSavedRow, standIns := [], harness := (true, "96cd9b068dde56dbfbd86597f65b2a7109c263021ff26f64281d11f6f7236caa"), looks := false }, kinds := [], alts := [], laidByText := true, laidKinds := [.data, .data, .data, .data, .pinned], laidTests := true, laidLooks := .later }
def FnDrawSavedCardSaid : Prop := Claim7.holds Tryz.pinned (.plain (OpenSpec.ofChange fnDrawSavedSpec)) fnDrawSavedCard

/-- THE TIED CARD OF 'laws.FnDrawCursor'. -/
def fnDrawCursorCard : Claim7 := { stood := { row := fnDrawCursorRow, standIns := [], harness := (true, "96cd9b068dde56dbfbd86597f65b2a7109c263021ff26f64281d11f6f7236caa"), looks := false }, kinds := [], alts := [], laidByText := true, laidKinds := [.data, .data, .data, .data, .pinned], laidTests := true, laidLooks := .later }
def FnDrawCursorCardSaid : Prop := Claim7.holds Tryz.pinned (.plain (OpenSpec.ofChange fnDrawCursorSpec)) fnDrawCursorCard

/-- THE TIED CARD OF 'laws.FnDrawReports'. -/
def fnDrawReportsCard : Claim7 := { stood := { row := fnDrawReportsRow, standIns := [], harness := (true, "96cd9b068dde56dbfbd86597f65b2a7109c263021ff26f64281d11f6f7236caa"), looks := false }, kinds := [], alts := [], laidByText := true, laidKinds := [.data, .data, .data, .data, .pinned], laidTests := true, laidLooks := .later }
def FnDrawReportsCardSaid : Prop := Claim7.holds Tryz.pinned (.plain (OpenSpec.ofChange fnDrawReportsSpec)) fnDrawReportsCard

/-- THE TIED CARD OF 'laws.FnDrawTitles'. -/
def fnDrawTitlesCard : Claim7 := { stood := { row := fnDrawTitlesRow, standIns := [], harness := (true, "96cd9b068dde56dbfbd86597f65b2a7109c263021ff26f64281d11f6f7236caa"), looks := false }, kinds := [], alts := [], laidByText := true, laidKinds := [.data, .data, .data, .data, .sentinel, .pinned], laidTests := true, laidLooks := .later }
def FnDrawTitlesCardSaid : Prop := Claim7.holds Tryz.pinned (.plain (OpenSpec.ofChange fnDrawTitlesSpec)) fnDrawTitlesCard

/-- THE SECOND FORM's CARD OF 'laws.FnDrawPlaces'. -/
def fnDrawPlacesUptoCard : Claim7 := { stood := { row := fnDrawPlacesUptoRow, standIns := [], harness := (true, "96cd9b068dde56dbfbd86597f65b2a7109c263021ff26f64281d11f6f7236caa"), looks := false }, kinds := [], alts := [], laidByText := true, laidKinds := [.data, .data, .data, .data, .pinned], laidTests := true, laidLooks := .later }
def FnDrawPlacesUptoCardSaid : Prop := Claim7.holds Tryz.pinned (.plain (OpenSpec.upto fnDrawPlacesSpec)) fnDrawPlacesUptoCard

/-- THE SECOND FORM's CARD OF 'laws.FnDrawAgain'. -/
def fnDrawAgainUptoCard : Claim7 := { stood := { row := fnDrawAgainUptoRow, standIns := [], harness := (true, "96cd9b068dde56dbfbd86597f65b2a7109c263021ff26f64281d11f6f7236caa"), looks := false }, kinds := [], alts := [], laidByText := true, laidKinds := [.data, .data, .data, .data, .pinned], laidTests := true, laidLooks := .later }
def FnDrawAgainUptoCardSaid : Prop := Claim7.holds Tryz.pinned (.plain (OpenSpec.upto fnDrawAgainSpec)) fnDrawAgainUptoCard

/-- THE SECOND FORM's CARD OF 'laws.FnDrawLines'. -/
def fnDrawLinesUptoCard : Claim7 := { stood := { row := fnDrawLinesUptoRow, standIns := [], harness := (true, "96cd9b068dde56dbfbd86597f65b2a7109c263021ff26f64281d11f6f7236caa"), looks := false }, kinds := [], alts := [], laidByText := true, laidKinds := [.data, .data, .data, .data, .pinned], laidTests := true, laidLooks := .later }
def FnDrawLinesUptoCardSaid : Prop := Claim7.holds Tryz.pinned (.plain (OpenSpec.upto fnDrawLinesSpec)) fnDrawLinesUptoCard

/-- THE SECOND FORM's CARD OF 'laws.FnDrawPlayed'. -/
def fnDrawPlayedUptoCard : Claim7 := { stood := { row := fnDrawPlayedUptoRow, standIns := [], harness := (true, "96cd9b068dde56dbfbd86597f65b2a7109c263021ff26f64281d11f6f7236caa"), looks := false }, kinds := [], alts := [], laidByText := true, laidKinds := [.data, .data, .data, .data, .pinned], laidTests := true, laidLooks := .later }
def FnDrawPlayedUptoCardSaid : Prop := Claim7.holds Tryz.pinned (.plain (OpenSpec.upto fnDrawPlayedSpec)) fnDrawPlayedUptoCard

/-- THE SECOND FORM's CARD OF 'laws.FnDrawRead'. -/
def fnDrawReadUptoCard : Claim7 := { stood := { row := fnDrawReadUptoRow, standIns := [], harness := (true, "96cd9b068dde56dbfbd86597f65b2a7109c263021ff26f64281d11f6f7236caa"), looks := false }, kinds := [], alts := [], laidByText := true, laidKinds := [.data, .data, .data, .data, .pinned], laidTests := true, laidLooks := .later }
def FnDrawReadUptoCardSaid : Prop := Claim7.holds Tryz.pinned (.plain (OpenSpec.upto fnDrawReadSpec)) fnDrawReadUptoCard

/-- THE SECOND FORM's CARD OF 'laws.FnDrawSaved'. -/
def fnDrawSavedUptoCard : Claim7 := { stood := { row := fnDrawSavedUptoRow, standIns := [], harness := (true, "96cd9b068dde56dbfbd86597f65b2a7109c263021ff26f64281d11f6f7236caa"), looks := false }, kinds := [], alts := [], laidByText := true, laidKinds := [.data, .data, .data, .data, .pinned], laidTests := true, laidLooks := .later }
def FnDrawSavedUptoCardSaid : Prop := Claim7.holds Tryz.pinned (.plain (OpenSpec.upto fnDrawSavedSpec)) fnDrawSavedUptoCard

/-- THE SECOND FORM's CARD OF 'laws.FnDrawCursor'. -/
def fnDrawCursorUptoCard : Claim7 := { stood := { row := fnDrawCursorUptoRow, standIns := [], harness := (true, "96cd9b068dde56dbfbd86597f65b2a7109c263021ff26f64281d11f6f7236caa"), looks := false }, kinds := [], alts := [], laidByText := true, laidKinds := [.data, .data, .data, .data, .pinned], laidTests := true, laidLooks := .later }
def FnDrawCursorUptoCardSaid : Prop := Claim7.holds Tryz.pinned (.plain (OpenSpec.upto fnDrawCursorSpec)) fnDrawCursorUptoCard

/-- THE SECOND FORM's CARD OF 'laws.FnDrawReports'. -/
def fnDrawReportsUptoCard : Claim7 := { stood := { row := fnDrawReportsUptoRow, standIns := [], harness := (true, "96cd9b068dde56dbfbd86597f65b2a7109c263021ff26f64281d11f6f7236caa"), looks := false }, kinds := [], alts := [], laidByText := true, laidKinds := [.data, .data, .data, .data, .pinned], laidTests := true, laidLooks := .later }
def FnDrawReportsUptoCardSaid : Prop := Claim7.holds Tryz.pinned (.plain (OpenSpec.upto fnDrawReportsSpec)) fnDrawReportsUptoCard

/-- THE SECOND FORM's CARD OF 'laws.FnDrawTitles'. -/
def fnDrawTitlesUptoCard : Claim7 := { stood := { row := fnDrawTitlesUptoRow, standIns := [], harness := (true, "96cd9b068dde56dbfbd86597f65b2a7109c263021ff26f64281d11f6f7236caa"), looks := false }, kinds := [], alts := [], laidByText := true, laidKinds := [.data, .data, .data, .data, .sentinel, .pinned], laidTests := true, laidLooks := .later }
def FnDrawTitlesUptoCardSaid : Prop := Claim7.holds Tryz.pinned (.plain (OpenSpec.upto fnDrawTitlesSpec)) fnDrawTitlesUptoCard
end Rows
end Go.Proofs.YtkklhlakklcnbaaGreatDoorRRR
