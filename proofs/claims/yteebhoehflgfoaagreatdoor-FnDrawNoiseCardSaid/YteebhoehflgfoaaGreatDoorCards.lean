/-
  DERIVED. GIVEN WITH THE SEED: THE CARDS: each row of YteebhoehflgfoaaGreatDoorRows.lean that lists a variable, with what it lists TIED to the program's text (the seventh form; the later family's looks); each row that meets fmt, with fmt's text TOLD by the authors' own Lean function (tested against real Go, not proved from fmt's source: count such statements apart). THE CARD IS WHAT COUNTS. Prove the row's statement (the work); the ties are given (YteebhoehflgfoaaGreatDoorTie.lean); close each card by the builder's one call (the guide's Derived/Test/ToyasCard.lean, 'card_holds'). Laid BY PROGRAM, IN A SANDBOX (cutbox-door.mjs). By AI agents, Wed Nov 11 2026. No macro, syntax, notation, axiom, sorry.
-/
import Derived.Test.YteebhoehflgfoaaGreatDoorRows
import GoSem.ClaimSeven
namespace Go.Proofs.YteebhoehflgfoaaGreatDoor
namespace Rows

/-- THE TIED CARD OF 'laws.FnDrawNoise'. -/
def fnDrawNoiseCard : Claim7 := { stood := { row := fnDrawNoiseRow, standIns := [], harness := (true, "1354308914caa5e6c7dec86fbf0f3fa06a209fd7863b765d4bf2be2cbf5dde6a"), looks := true }, kinds := [], alts := [], laidByText := true, laidKinds := [.data, .data, .data, .data, .sentinel, .pinned], laidTests := true, laidLooks := .later }
def FnDrawNoiseCardSaid : Prop := Claim7.holds Tryz.pinned (.plain (OpenSpec.ofChange fnDrawNoiseSpec)) fnDrawNoiseCard

/-- THE SECOND FORM's CARD OF 'laws.FnDrawNoise'. -/
def fnDrawNoiseUptoCard : Claim7 := { stood := { row := fnDrawNoiseUptoRow, standIns := [], harness := (true, "1354308914caa5e6c7dec86fbf0f3fa06a209fd7863b765d4bf2be2cbf5dde6a"), looks := true }, kinds := [], alts := [], laidByText := true, laidKinds := [.data, .data, .data, .data, .sentinel, .pinned], laidTests := true, laidLooks := .later }
def FnDrawNoiseUptoCardSaid : Prop := Claim7.holds Tryz.pinned (.plain (OpenSpec.upto fnDrawNoiseSpec)) fnDrawNoiseUptoCard
end Rows
end Go.Proofs.YteebhoehflgfoaaGreatDoor
