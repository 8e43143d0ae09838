/- What all cards share: closed facts of the program. -/
import Derived.Test.YtcbliojofnigdaaGreatDoorFacts
import Derived.SevenTiedAt
namespace Go.Proofs.YtcbliojofnigdaaGreatDoor
open Go

theorem ownNone : ownKnob Tryz.prog.godebug = none := by kernel_rfl
theorem factMain : Tryz.pinned.checked.prog.mainIs = some (true, "7f732fa8c297b9e8321412a2cb319e2469d01ba116e7aee49c0bfa03d1025942".toList) := by kernel_rfl
theorem factLooks : true = Tryz.pinned.checked.prog.looks [] := by kernel_rfl

end Go.Proofs.YtcbliojofnigdaaGreatDoor
