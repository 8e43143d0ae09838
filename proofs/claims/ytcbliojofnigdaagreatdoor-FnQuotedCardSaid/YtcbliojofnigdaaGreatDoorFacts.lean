/- Closed facts of the program, for all laws alike. -/
import Derived.Test.YtcbliojofnigdaaGreatDoorRows
import Derived.JoinedOf
import Derived.KernelRfl
namespace Go.Proofs.YtcbliojofnigdaaGreatDoor
open Go

theorem fact1 : (laidOutB Tryz.prog) = true := by kernel_rfl
theorem fact2 : (mapsRowed Tryz.prog) = true := by kernel_rfl
theorem fact6 : ((Tryz.prog.stops == [])) = true := by kernel_rfl
theorem fact8 : ((Tryz.prog.stopKnobs == [])) = true := by kernel_rfl
theorem fact22 : ((Rows.fnTextsStayRow.plainKeys == Tryz.prog.plainKeys)) = true := by kernel_rfl
theorem fact24 : (Tryz.prog.stopsHeard) = true := by kernel_rfl
theorem fact25 : (Tryz.prog.mayEnter) = true := by kernel_rfl
theorem fact26 : ((Rows.fnTextsStayRow.lifted == Tryz.prog.liftsFinal)) = true := by kernel_rfl
theorem fact27 : ((Tryz.prog.make == some Rows.fnTextsStayRow.make)) = true := by kernel_rfl
theorem both {a b : Bool} (h : a = true) (k : b = true) : (a && b) = true := by rw [h, k]; rfl

end Go.Proofs.YtcbliojofnigdaaGreatDoor
