/-
  DERIVED. GIVEN WITH THE SEED: THE CARDS: each row of YtjkjnhcnmjknmaaDoorRows.lean that lists a variable, with what it lists TIED to the program's text (the seventh form; the later family's looks); each row that meets fmt, with fmt's text TOLD by the authors' own Lean function (tested against real Go, not proved from fmt's source: count such statements apart). THE CARD IS WHAT COUNTS. Prove the row's statement (the work); the ties are given (YtjkjnhcnmjknmaaDoorTie.lean); close each card by the builder's one call (the guide's Derived/Test/ToyasCard.lean, 'card_holds'). Laid BY PROGRAM, IN A SANDBOX (cutbox-door.mjs). By AI agents, Wed Nov 11 2026. No macro, syntax, notation, axiom, sorry.
-/
import Derived.Test.YtjkjnhcnmjknmaaDoorRows
import GoSem.ClaimSeven
namespace Go.Proofs.YtjkjnhcnmjknmaaDoor
namespace Rows

/-- THE TIED CARD OF 'laws.FnDrawKeys'. -/
def fnDrawKeysCard : Claim7 := { stood := { row := fnDrawKeysRow, standIns := [], harness := (true, "56a5224dbfd38464f5230f87c65f647f8ec4cbede8ef1f48676dc7a6f625adb6"), looks := false }, kinds := [], alts := [], laidByText := true, laidKinds := [.data, .data, .data, .data, .pinned], laidTests := true, laidLooks := .later }
def FnDrawKeysCardSaid : Prop := Claim7.holds Tryd.pinned (.plain (OpenSpec.ofChange fnDrawKeysSpec)) fnDrawKeysCard

/-- THE TIED CARD OF 'laws.FnDrawClipboard'. -/
def fnDrawClipboardCard : Claim7 := { stood := { row := fnDrawClipboardRow, standIns := [], harness := (true, "56a5224dbfd38464f5230f87c65f647f8ec4cbede8ef1f48676dc7a6f625adb6"), looks := false }, kinds := [], alts := [], laidByText := true, laidKinds := [.data, .data, .data, .data, .pinned], laidTests := true, laidLooks := .later }
def FnDrawClipboardCardSaid : Prop := Claim7.holds Tryd.pinned (.plain (OpenSpec.ofChange fnDrawClipboardSpec)) fnDrawClipboardCard

/-- THE SECOND FORM's CARD OF 'laws.FnDrawKeys'. -/
def fnDrawKeysUptoCard : Claim7 := { stood := { row := fnDrawKeysUptoRow, standIns := [], harness := (true, "56a5224dbfd38464f5230f87c65f647f8ec4cbede8ef1f48676dc7a6f625adb6"), looks := false }, kinds := [], alts := [], laidByText := true, laidKinds := [.data, .data, .data, .data, .pinned], laidTests := true, laidLooks := .later }
def FnDrawKeysUptoCardSaid : Prop := Claim7.holds Tryd.pinned (.plain (OpenSpec.upto fnDrawKeysSpec)) fnDrawKeysUptoCard

/-- THE SECOND FORM's CARD OF 'laws.FnDrawClipboard'. -/
def fnDrawClipboardUptoCard : Claim7 := { stood := { row := fnDrawClipboardUptoRow, standIns := [], harness := (true, "56a5224dbfd38464f5230f87c65f647f8ec4cbede8ef1f48676dc7a6f625adb6"), looks := false }, kinds := [], alts := [], laidByText := true, laidKinds := [.data, .data, .data, .data, .pinned], laidTests := true, laidLooks := .later }
def FnDrawClipboardUptoCardSaid : Prop := Claim7.holds Tryd.pinned (.plain (OpenSpec.upto fnDrawClipboardSpec)) fnDrawClipboardUptoCard
end Rows
end Go.Proofs.YtjkjnhcnmjknmaaDoor
