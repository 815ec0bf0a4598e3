/-
  DERIVED. GIVEN WITH THE SEED: THE CARDS: each row of YtgcbnegdchladaaDoorRows.lean that lists a variable, with what it lists TIED to the program's text (the seventh form; the later family's looks); each row that meets fmt, with fmt's text TOLD by the authors' own Lean function (tested against real Go, not proved from fmt's source: count such statements apart). THE CARD IS WHAT COUNTS. Prove the row's statement (the work); the ties are given (YtgcbnegdchladaaDoorTie.lean); close each card by the builder's one call (the guide's Derived/Test/ToyasCard.lean, 'card_holds'). Laid BY PROGRAM, IN A SANDBOX (cutbox-door.mjs). By AI agents, Wed Nov 11 2026. No macro, syntax, notation, axiom, sorry.
-/
import Derived.Test.YtgcbnegdchladaaDoorRows
import GoSem.ClaimSeven
namespace Go.Proofs.YtgcbnegdchladaaDoor
namespace Rows

/-- THE TIED CARD OF 'laws.FnDrawProgress'. -/
def fnDrawProgressCard : Claim7 := { stood := { row := fnDrawProgressRow, standIns := [], harness := (true, "0899e348a7dfd9081015c508143447023de24175bcefdd553c9868ad69422e92"), looks := false }, kinds := [], alts := [], laidByText := true, laidKinds := [.data, .data, .data, .data, .pinned], laidTests := true, laidLooks := .later }
def FnDrawProgressCardSaid : Prop := Claim7.holds Tryd.pinned (.plain (OpenSpec.ofChange fnDrawProgressSpec)) fnDrawProgressCard

/-- THE TIED CARD OF 'laws.FnDrawKeys'. -/
def fnDrawKeysCard : Claim7 := { stood := { row := fnDrawKeysRow, standIns := [], harness := (true, "0899e348a7dfd9081015c508143447023de24175bcefdd553c9868ad69422e92"), looks := false }, kinds := [], alts := [], laidByText := true, laidKinds := [.data, .data, .data, .data, .pinned], laidTests := true, laidLooks := .later }
def FnDrawKeysCardSaid : Prop := Claim7.holds Tryd.pinned (.plain (OpenSpec.ofChange fnDrawKeysSpec)) fnDrawKeysCard

/-- THE TIED CARD OF 'laws.FnDrawMouse'. -/
def fnDrawMouseCard : Claim7 := { stood := { row := fnDrawMouseRow, standIns := [], harness := (true, "0899e348a7dfd9081015c508143447023de24175bcefdd553c9868ad69422e92"), looks := false }, kinds := [], alts := [], laidByText := true, laidKinds := [.data, .data, .data, .data, .pinned], laidTests := true, laidLooks := .later }
def FnDrawMouseCardSaid : Prop := Claim7.holds Tryd.pinned (.plain (OpenSpec.ofChange fnDrawMouseSpec)) fnDrawMouseCard

/-- THE TIED CARD OF 'laws.FnDrawClipboard'. -/
def fnDrawClipboardCard : Claim7 := { stood := { row := fnDrawClipboardRow, standIns := [], harness := (true, "0899e348a7dfd9081015c508143447023de24175bcefdd553c9868ad69422e92"), looks := false }, kinds := [], alts := [], laidByText := true, laidKinds := [.data, .data, .data, .data, .pinned], laidTests := true, laidLooks := .later }
def FnDrawClipboardCardSaid : Prop := Claim7.holds Tryd.pinned (.plain (OpenSpec.ofChange fnDrawClipboardSpec)) fnDrawClipboardCard

/-- THE TIED CARD OF 'laws.FnDrawPassed'. -/
def fnDrawPassedCard : Claim7 := { stood := { row := fnDrawPassedRow, standIns := [], harness := (true, "0899e348a7dfd9081015c508143447023de24175bcefdd553c9868ad69422e92"), looks := false }, kinds := [], alts := [], laidByText := true, laidKinds := [.data, .data, .data, .data, .sentinel, .pinned], laidTests := true, laidLooks := .later }
def FnDrawPassedCardSaid : Prop := Claim7.holds Tryd.pinned (.plain (OpenSpec.ofChange fnDrawPassedSpec)) fnDrawPassedCard

/-- THE SECOND FORM's CARD OF 'laws.FnDrawProgress'. -/
def fnDrawProgressUptoCard : Claim7 := { stood := { row := fnDrawProgressUptoRow, standIns := [], harness := (true, "0899e348a7dfd9081015c508143447023de24175bcefdd553c9868ad69422e92"), looks := false }, kinds := [], alts := [], laidByText := true, laidKinds := [.data, .data, .data, .data, .pinned], laidTests := true, laidLooks := .later }
def FnDrawProgressUptoCardSaid : Prop := Claim7.holds Tryd.pinned (.plain (OpenSpec.upto fnDrawProgressSpec)) fnDrawProgressUptoCard

/-- THE SECOND FORM's CARD OF 'laws.FnDrawKeys'. -/
def fnDrawKeysUptoCard : Claim7 := { stood := { row := fnDrawKeysUptoRow, standIns := [], harness := (true, "0899e348a7dfd9081015c508143447023de24175bcefdd553c9868ad69422e92"), looks := false }, kinds := [], alts := [], laidByText := true, laidKinds := [.data, .data, .data, .data, .pinned], laidTests := true, laidLooks := .later }
def FnDrawKeysUptoCardSaid : Prop := Claim7.holds Tryd.pinned (.plain (OpenSpec.upto fnDrawKeysSpec)) fnDrawKeysUptoCard

/-- THE SECOND FORM's CARD OF 'laws.FnDrawMouse'. -/
def fnDrawMouseUptoCard : Claim7 := { stood := { row := fnDrawMouseUptoRow, standIns := [], harness := (true, "0899e348a7dfd9081015c508143447023de24175bcefdd553c9868ad69422e92"), looks := false }, kinds := [], alts := [], laidByText := true, laidKinds := [.data, .data, .data, .data, .pinned], laidTests := true, laidLooks := .later }
def FnDrawMouseUptoCardSaid : Prop := Claim7.holds Tryd.pinned (.plain (OpenSpec.upto fnDrawMouseSpec)) fnDrawMouseUptoCard

/-- THE SECOND FORM's CARD OF 'laws.FnDrawClipboard'. -/
def fnDrawClipboardUptoCard : Claim7 := { stood := { row := fnDrawClipboardUptoRow, standIns := [], harness := (true, "0899e348a7dfd9081015c508143447023de24175bcefdd553c9868ad69422e92"), looks := false }, kinds := [], alts := [], laidByText := true, laidKinds := [.data, .data, .data, .data, .pinned], laidTests := true, laidLooks := .later }
def FnDrawClipboardUptoCardSaid : Prop := Claim7.holds Tryd.pinned (.plain (OpenSpec.upto fnDrawClipboardSpec)) fnDrawClipboardUptoCard

/-- THE SECOND FORM's CARD OF 'laws.FnDrawPassed'. -/
def fnDrawPassedUptoCard : Claim7 := { stood := { row := fnDrawPassedUptoRow, standIns := [], harness := (true, "0899e348a7dfd9081015c508143447023de24175bcefdd553c9868ad69422e92"), looks := false }, kinds := [], alts := [], laidByText := true, laidKinds := [.data, .data, .data, .data, .sentinel, .pinned], laidTests := true, laidLooks := .later }
def FnDrawPassedUptoCardSaid : Prop := Claim7.holds Tryd.pinned (.plain (OpenSpec.upto fnDrawPassedSpec)) fnDrawPassedUptoCard
end Rows
end Go.Proofs.YtgcbnegdchladaaDoor
