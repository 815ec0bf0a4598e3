/-
  DERIVED. GIVEN WITH THE SEED: THE CARDS: each row of YtjkpelaeelihhaaGreatDoorRRRows.lean that lists a variable, with what it lists TIED to the program's text (the seventh form; the later family's looks); each row that meets fmt, with fmt's text TOLD by the authors' own Lean function (tested against real Go, not proved from fmt's source: count such statements apart). THE CARD IS WHAT COUNTS. Prove the row's statement (the work); the ties are given (YtjkpelaeelihhaaGreatDoorRRTie.lean); close each card by the builder's one call (the guide's Derived/Test/ToyasCard.lean, 'card_holds'). Laid BY PROGRAM, IN A SANDBOX (cutbox-door.mjs). By AI agents, Wed Nov 11 2026. No macro, syntax, notation, axiom, sorry.
-/
import Derived.Test.YtjkpelaeelihhaaGreatDoorRRRows
import GoSem.ClaimSeven
namespace Go.Proofs.YtjkpelaeelihhaaGreatDoorRR
namespace Rows

/-- THE TIED CARD OF 'laws.FnDrawRead'. -/
def fnDrawReadCard : Claim7 := { stood := { row := fnDrawReadRow, standIns := [], harness := (true, "22c5fbecf1bb79f291964348a24fcec98b5ed2fd39f01437f4cdd61a4046132d"), looks := false }, kinds := [], alts := [], laidByText := true, laidKinds := [.data, .data, .data, .data, .pinned], laidTests := true, laidLooks := .later }
def FnDrawReadCardSaid : Prop := Claim7.holds Tryz.pinned (.plain (OpenSpec.ofChange fnDrawReadSpec)) fnDrawReadCard

/-- THE TIED CARD OF 'laws.FnDrawCursor'. -/
def fnDrawCursorCard : Claim7 := { stood := { row := fnDrawCursorRow, standIns := [], harness := (true, "22c5fbecf1bb79f291964348a24fcec98b5ed2fd39f01437f4cdd61a4046132d"), looks := false }, kinds := [], alts := [], laidByText := true, laidKinds := [.data, .data, .data, .data, .pinned], laidTests := true, laidLooks := .later }
def FnDrawCursorCardSaid : Prop := Claim7.holds Tryz.pinned (.plain (OpenSpec.ofChange fnDrawCursorSpec)) fnDrawCursorCard

/-- THE TIED CARD OF 'laws.FnDrawReports'. -/
def fnDrawReportsCard : Claim7 := { stood := { row := fnDrawReportsRow, standIns := [], harness := (true, "22c5fbecf1bb79f291964348a24fcec98b5ed2fd39f01437f4cdd61a4046132d"), looks := false }, kinds := [], alts := [], laidByText := true, laidKinds := [.data, .data, .data, .data, .pinned], laidTests := true, laidLooks := .later }
def FnDrawReportsCardSaid : Prop := Claim7.holds Tryz.pinned (.plain (OpenSpec.ofChange fnDrawReportsSpec)) fnDrawReportsCard

/-- THE SECOND FORM's CARD OF 'laws.FnDrawRead'. -/
def fnDrawReadUptoCard : Claim7 := { stood := { row := fnDrawReadUptoRow, standIns := [], harness := (true, "22c5fbecf1bb79f291964348a24fcec98b5ed2fd39f01437f4cdd61a4046132d"), looks := false }, kinds := [], alts := [], laidByText := true, laidKinds := [.data, .data, .data, .data, .pinned], laidTests := true, laidLooks := .later }
def FnDrawReadUptoCardSaid : Prop := Claim7.holds Tryz.pinned (.plain (OpenSpec.upto fnDrawReadSpec)) fnDrawReadUptoCard

/-- THE SECOND FORM's CARD OF 'laws.FnDrawCursor'. -/
def fnDrawCursorUptoCard : Claim7 := { stood := { row := fnDrawCursorUptoRow, standIns := [], harness := (true, "22c5fbecf1bb79f291964348a24fcec98b5ed2fd39f01437f4cdd61a4046132d"), looks := false }, kinds := [], alts := [], laidByText := true, laidKinds := [.data, .data, .data, .data, .pinned], laidTests := true, laidLooks := .later }
def FnDrawCursorUptoCardSaid : Prop := Claim7.holds Tryz.pinned (.plain (OpenSpec.upto fnDrawCursorSpec)) fnDrawCursorUptoCard

/-- THE SECOND FORM's CARD OF 'laws.FnDrawReports'. -/
def fnDrawReportsUptoCard : Claim7 := { stood := { row := fnDrawReportsUptoRow, standIns := [], harness := (true, "22c5fbecf1bb79f291964348a24fcec98b5ed2fd39f01437f4cdd61a4046132d"), looks := false }, kinds := [], alts := [], laidByText := true, laidKinds := [.data, .data, .data, .data, .pinned], laidTests := true, laidLooks := .later }
def FnDrawReportsUptoCardSaid : Prop := Claim7.holds Tryz.pinned (.plain (OpenSpec.upto fnDrawReportsSpec)) fnDrawReportsUptoCard
end Rows
end Go.Proofs.YtjkpelaeelihhaaGreatDoorRR
