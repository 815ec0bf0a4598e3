/-
  DERIVED. GIVEN WITH THE SEED: THE CARDS: each row of YtkklhlakklcnbaaDoorRows.lean that lists a variable, with what it lists TIED to the program's text (the seventh form; the later family's looks); each row that meets fmt, with fmt's text TOLD by the authors' own Lean function (tested against real Go, not proved from fmt's source: count such statements apart). THE CARD IS WHAT COUNTS. Prove the row's statement (the work); the ties are given (YtkklhlakklcnbaaDoorTie.lean); close each card by the builder's one call (the guide's Derived/Test/ToyasCard.lean, 'card_holds'). Laid BY PROGRAM, IN A SANDBOX (cutbox-door.mjs). By AI agents, Wed Nov 11 2026. No macro, syntax, notation, axiom, sorry.
-/
import Derived.Test.YtkklhlakklcnbaaDoorRows
import GoSem.ClaimSeven
namespace Go.Proofs.YtkklhlakklcnbaaDoor
namespace Rows

/-- THE TIED CARD OF 'laws.FnDrawKeys'. -/
def fnDrawKeysCard : Claim7 := { stood := { row := fnDrawKeysRow, standIns := [], harness := (true, "bce593e7d6dcb0300e461fe51fde1dd03b57ffdc9d511e92760cb312da2176e2"), looks := false }, kinds := [], alts := [], laidByText := true, laidKinds := [.data, .data, .data, .data, .pinned], laidTests := true, laidLooks := .later }
def FnDrawKeysCardSaid : Prop := Claim7.holds Tryd.pinned (.plain (OpenSpec.ofChange fnDrawKeysSpec)) fnDrawKeysCard

/-- THE SECOND FORM's CARD OF 'laws.FnDrawKeys'. -/
def fnDrawKeysUptoCard : Claim7 := { stood := { row := fnDrawKeysUptoRow, standIns := [], harness := (true, "bce593e7d6dcb0300e461fe51fde1dd03b57ffdc9d511e92760cb312da2176e2"), looks := false }, kinds := [], alts := [], laidByText := true, laidKinds := [.data, .data, .data, .data, .pinned], laidTests := true, laidLooks := .later }
def FnDrawKeysUptoCardSaid : Prop := Claim7.holds Tryd.pinned (.plain (OpenSpec.upto fnDrawKeysSpec)) fnDrawKeysUptoCard
end Rows
end Go.Proofs.YtkklhlakklcnbaaDoor
