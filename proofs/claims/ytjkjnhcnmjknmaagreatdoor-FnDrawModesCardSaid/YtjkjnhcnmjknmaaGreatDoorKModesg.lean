/- Texts of this claim, joined: XOpen. Of each, what the claim uses. -/
import Derived.Test.YtjkjnhcnmjknmaaGreatDoorKModesf
import Derived.Test.YtjkjnhcnmjknmaaGreatDoorProg
import Derived.ChangeArms
import Derived.DataReads
section
namespace Go.Proofs.YtjkjnhcnmjknmaaGreatDoor.X
open Go.RowKit Go.Proofs.YtjkjnhcnmjknmaaGreatDoorW.PrintWords
section
variable {H : Type} {enc : TypeId × Value → H} {W : World}
theorem opens_bool {t : TypeId} (ht : Tryz.prog.underlying t = some .bool) : Opens enc W t Kd.bool (fun _ => True) := fun fuel cs x h => by
  obtain ⟨n, rfl, _⟩ := DataW.trod_bool ht h
  exact ⟨n, rfl, trivial⟩
end
end Go.Proofs.YtjkjnhcnmjknmaaGreatDoor.X
end
