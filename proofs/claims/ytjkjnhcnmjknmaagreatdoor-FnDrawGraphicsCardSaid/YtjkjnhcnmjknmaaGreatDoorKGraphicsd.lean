/- Texts of this claim, joined: XOpen. Of each, what the claim uses. -/
import Derived.Test.YtjkjnhcnmjknmaaGreatDoorKGraphicsc
import Derived.Test.YtjkjnhcnmjknmaaGreatDoorProg
import Derived.ChangeArms
import Derived.DataReads
section
namespace Go.Proofs.YtjkjnhcnmjknmaaGreatDoor.X
open Go.RowKit Go.Proofs.YtjkjnhcnmjknmaaGreatDoorW.PrintWords
theorem len1 {cs : List Value} (h : cs.length = 1) : ∃ a, cs = [a] := by
  match cs, h with
  | [a], _ => exact ⟨a, rfl⟩
section
variable {H : Type} {enc : TypeId × Value → H} {W : World}
end
end Go.Proofs.YtjkjnhcnmjknmaaGreatDoor.X
end
