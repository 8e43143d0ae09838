/- The printer's readers: asInt, intFromArg, a verb below 128. -/
import Derived.Test.YtcbliojofnigdaaGreatDoorDpGrow
namespace Go.Proofs.YtcbliojofnigdaaGreatDoor
open Go Go.Proofs Go.RowKit

set_option maxRecDepth 100000 in
set_option maxHeartbeats 1000000 in
theorem decode_ascii (t : ByteArray) (h : 0 < t.size) (hb : bt t 0 < 128) (w : World) : Calls Tryz.prog 82 #[.string t] w fun e w' => e = .returned (.tuple #[.int .i32 (bt t 0), .int .i64 1]) ∧ w = w' := by
  have hx := bt_eq t 0 h
  have hb0 := bt_nonneg t 0
  have hz0 : (0 : Int) < (t.size : Int) := by omega
  have hne : t.toList.isEmpty = false := by
    rw [Lib.toList_data]
    cases h' : t.data.toList with
    | nil => exact absurd (by rw [Lib.size_eq, h']; rfl) (Nat.pos_iff_ne_zero.1 h)
    | cons _ _ => rfl
  go_enter Tryz.func82, Tryz.ntmps82
  go_wp2
  go_ret2
  exact ⟨rfl, rfl⟩

end Go.Proofs.YtcbliojofnigdaaGreatDoor
