/-
  DERIVED. GIVEN WITH THE SEED: THE CARDS: each row of YtmlginohbckfcaaGreatDoorRows.lean that lists a variable, with what it lists TIED to the program's text (the seventh form; the later family's looks); each row that meets fmt, with fmt's text TOLD by the authors' own Lean function (tested against real Go, not proved from fmt's source: count such statements apart). THE CARD IS WHAT COUNTS. Prove the row's statement (the work); the ties are given (YtmlginohbckfcaaGreatDoorTie.lean); close each card by the builder's one call (the guide's Derived/Test/ToyasCard.lean, 'card_holds'). Laid BY PROGRAM, IN A SANDBOX (cutbox-door.mjs). By AI agents, Wed Nov 11 2026. No macro, syntax, notation, axiom, sorry.
-/
import Derived.Test.YtmlginohbckfcaaGreatDoorRows
import GoSem.ClaimSeven
namespace Go.Proofs.YtmlginohbckfcaaGreatDoor
namespace Rows

/-- THE TIED CARD OF 'laws.FnDrawPlaces'. -/
def fnDrawPlacesCard : Claim7 := { stood := { row := fnDrawPlacesRow, standIns := [], harness := (true, "f556523e518b473f5f390985dad7b11c5f3e12543a3cd3b4f24d9bac3be65ecf"), looks := false }, kinds := [], alts := [], laidByText := true, laidKinds := [.data, .data, .data, .data, .pinned], laidTests := true, laidLooks := .later }
def FnDrawPlacesCardSaid : Prop := Claim7.holds Tryz.pinned (.plain (OpenSpec.ofChange fnDrawPlacesSpec)) fnDrawPlacesCard

/-- THE TIED CARD OF 'laws.FnDrawAgain'. -/
def fnDrawAgainCard : Claim7 := { stood := { row := fnDrawAgainRow, standIns := [], harness := (true, "f556523e518b473f5f390985dad7b11c5f3e12543a3cd3b4f24d9bac3be65ecf"), looks := false }, kinds := [], alts := [], laidByText := true, laidKinds := [.data, .data, .data, .data, .pinned], laidTests := true, laidLooks := .later }
def FnDrawAgainCardSaid : Prop := Claim7.holds Tryz.pinned (.plain (OpenSpec.ofChange fnDrawAgainSpec)) fnDrawAgainCard

/-- THE TIED CARD OF 'laws.FnDrawLines'. -/
def fnDrawLinesCard : Claim7 := { stood := { row := fnDrawLinesRow, standIns := [], harness := (true, "f556523e518b473f5f390985dad7b11c5f3e12543a3cd3b4f24d9bac3be65ecf"), looks := false }, kinds := [], alts := [], laidByText := true, laidKinds := [.data, .data, .data, .data, .pinned], laidTests := true, laidLooks := .later }
def FnDrawLinesCardSaid : Prop := Claim7.holds Tryz.pinned (.plain (OpenSpec.ofChange fnDrawLinesSpec)) fnDrawLinesCard

/-- THE TIED CARD OF 'laws.FnDrawPlayed'. -/
def fnDrawPlayedCard : Claim7 := { stood := { row := fnDrawPlayedRow, standIns := [], harness := (true, "f556523e518b473f5f390985dad7b11c5f3e12543a3cd3b4f24d9bac3be65ecf"), looks := false }, kinds := [], alts := [], laidByText := true, laidKinds := [.data, .data, .data, .data, .pinned], laidTests := true, laidLooks := .later }
def FnDrawPlayedCardSaid : Prop := Claim7.holds Tryz.pinned (.plain (OpenSpec.ofChange fnDrawPlayedSpec)) fnDrawPlayedCard

/-- THE TIED CARD OF 'laws.FnDrawSaved'. -/
def fnDrawSavedCard : Claim7 := { stood := { row := fnDrawSavedRow, standIns := [], harness := (true, "f556523e518b473f5f390985dad7b11c5f3e12543a3cd3b4f24d9bac3be65ecf"), looks := false }, kinds := [], alts := [], laidByText := true, laidKinds := [.data, .data, .data, .data, .pinned], laidTests := true, laidLooks := .later }
def FnDrawSavedCardSaid : Prop := Claim7.holds Tryz.pinned (.plain (OpenSpec.ofChange fnDrawSavedSpec)) fnDrawSavedCard

/-- THE SECOND FORM's CARD OF 'laws.FnDrawPlaces'. -/
def fnDrawPlacesUptoCard : Claim7 := { stood := { row := fnDrawPlacesUptoRow, standIns := [], harness := (true, "f556523e518b473f5f390985dad7b11c5f3e12543a3cd3b4f24d9bac3be65ecf"), looks := false }, kinds := [], alts := [], laidByText := true, laidKinds := [.data, .data, .data, .data, .pinned], laidTests := true, laidLooks := .later }
def FnDrawPlacesUptoCardSaid : Prop := Claim7.holds Tryz.pinned (.plain (OpenSpec.upto fnDrawPlacesSpec)) fnDrawPlacesUptoCard

/-- THE SECOND FORM's CARD OF 'laws.FnDrawAgain'. -/
def fnDrawAgainUptoCard : Claim7 := { stood := { row := fnDrawAgainUptoRow, standIns := [], harness := (true, "f556523e518b473f5f390985dad7b11c5f3e12543a3cd3b4f24d9bac3be65ecf"), looks := false }, kinds := [], alts := [], laidByText := true, laidKinds := [.data, .data, .data, .data, .pinned], laidTests := true, laidLooks := .later }
def FnDrawAgainUptoCardSaid : Prop := Claim7.holds Tryz.pinned (.plain (OpenSpec.upto fnDrawAgainSpec)) fnDrawAgainUptoCard

/-- THE SECOND FORM's CARD OF 'laws.FnDrawLines'. -/
def fnDrawLinesUptoCard : Claim7 := { stood := { row := fnDrawLinesUptoRow, standIns := [], harness := (true, "f556523e518b473f5f390985dad7b11c5f3e12543a3cd3b4f24d9bac3be65ecf"), looks := false }, kinds := [], alts := [], laidByText := true, laidKinds := [.data, .data, .data, .data, .pinned], laidTests := true, laidLooks := .later }
def FnDrawLinesUptoCardSaid : Prop := Claim7.holds Tryz.pinned (.plain (OpenSpec.upto fnDrawLinesSpec)) fnDrawLinesUptoCard

/-- THE SECOND FORM's CARD OF 'laws.FnDrawPlayed'. -/
def fnDrawPlayedUptoCard : Claim7 := { stood := { row := fnDrawPlayedUptoRow, standIns := [], harness := (true, "f556523e518b473f5f390985dad7b11c5f3e12543a3cd3b4f24d9bac3be65ecf"), looks := false }, kinds := [], alts := [], laidByText := true, laidKinds := [.data, .data, .data, .data, .pinned], laidTests := true, laidLooks := .later }
def FnDrawPlayedUptoCardSaid : Prop := Claim7.holds Tryz.pinned (.plain (OpenSpec.upto fnDrawPlayedSpec)) fnDrawPlayedUptoCard

/-- THE SECOND FORM's CARD OF 'laws.FnDrawSaved'. -/
def fnDrawSavedUptoCard : Claim7 := { stood := { row := fnDrawSavedUptoRow, standIns := [], harness := (true, "f556523e518b473f5f390985dad7b11c5f3e12543a3cd3b4f24d9bac3be65ecf"), looks := false }, kinds := [], alts := [], laidByText := true, laidKinds := [.data, .data, .data, .data, .pinned], laidTests := true, laidLooks := .later }
def FnDrawSavedUptoCardSaid : Prop := Claim7.holds Tryz.pinned (.plain (OpenSpec.upto fnDrawSavedSpec)) fnDrawSavedUptoCard
end Rows
end Go.Proofs.YtmlginohbckfcaaGreatDoor
