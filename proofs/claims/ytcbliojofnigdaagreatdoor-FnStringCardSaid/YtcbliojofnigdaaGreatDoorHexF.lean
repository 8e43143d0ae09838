/- fmtSbx's frame: 200 slots, seven of them known, written out again (printed by tools/gen_hexf.py). -/
import Derived.Test.YtcbliojofnigdaaGreatDoorFrame
namespace Go.Proofs.YtcbliojofnigdaaGreatDoor
open Go Go.Proofs Go.RowKit

/-- what is known of the frame -/
structure Fh (p0 p1 p2 p3 s8 s9 s10 : Value) (L : List Value) : Prop where
  len : L.length = 200
  h0 : L[0]? = some p0
  h1 : L[1]? = some p1
  h2 : L[2]? = some p2
  h3 : L[3]? = some p3
  h8 : L[8]? = some s8
  h9 : L[9]? = some s9
  h10 : L[10]? = some s10

set_option maxRecDepth 100000 in
theorem spread200 (u : Nat → Value) : (List.range 200).map u = [u 0, u 1, u 2, u 3, u 4, u 5, u 6, u 7, u 8, u 9, u 10, u 11, u 12, u 13, u 14, u 15, u 16, u 17, u 18, u 19, u 20, u 21, u 22, u 23, u 24, u 25, u 26, u 27, u 28, u 29, u 30, u 31, u 32, u 33, u 34, u 35, u 36, u 37, u 38, u 39, u 40, u 41, u 42, u 43, u 44, u 45, u 46, u 47, u 48, u 49, u 50, u 51, u 52, u 53, u 54, u 55, u 56, u 57, u 58, u 59, u 60, u 61, u 62, u 63, u 64, u 65, u 66, u 67, u 68, u 69, u 70, u 71, u 72, u 73, u 74, u 75, u 76, u 77, u 78, u 79, u 80, u 81, u 82, u 83, u 84, u 85, u 86, u 87, u 88, u 89, u 90, u 91, u 92, u 93, u 94, u 95, u 96, u 97, u 98, u 99, u 100, u 101, u 102, u 103, u 104, u 105, u 106, u 107, u 108, u 109, u 110, u 111, u 112, u 113, u 114, u 115, u 116, u 117, u 118, u 119, u 120, u 121, u 122, u 123, u 124, u 125, u 126, u 127, u 128, u 129, u 130, u 131, u 132, u 133, u 134, u 135, u 136, u 137, u 138, u 139, u 140, u 141, u 142, u 143, u 144, u 145, u 146, u 147, u 148, u 149, u 150, u 151, u 152, u 153, u 154, u 155, u 156, u 157, u 158, u 159, u 160, u 161, u 162, u 163, u 164, u 165, u 166, u 167, u 168, u 169, u 170, u 171, u 172, u 173, u 174, u 175, u 176, u 177, u 178, u 179, u 180, u 181, u 182, u 183, u 184, u 185, u 186, u 187, u 188, u 189, u 190, u 191, u 192, u 193, u 194, u 195, u 196, u 197, u 198, u 199] := rfl

set_option maxRecDepth 100000 in
theorem Fh.open {p0 p1 p2 p3 s8 s9 s10 : Value} {L : List Value} (h : Fh p0 p1 p2 p3 s8 s9 s10 L) : ∃ u : Nat → Value, L = [p0, p1, p2, p3, u 4, u 5, u 6, u 7, s8, s9, s10, u 11, u 12, u 13, u 14, u 15, u 16, u 17, u 18, u 19, u 20, u 21, u 22, u 23, u 24, u 25, u 26, u 27, u 28, u 29, u 30, u 31, u 32, u 33, u 34, u 35, u 36, u 37, u 38, u 39, u 40, u 41, u 42, u 43, u 44, u 45, u 46, u 47, u 48, u 49, u 50, u 51, u 52, u 53, u 54, u 55, u 56, u 57, u 58, u 59, u 60, u 61, u 62, u 63, u 64, u 65, u 66, u 67, u 68, u 69, u 70, u 71, u 72, u 73, u 74, u 75, u 76, u 77, u 78, u 79, u 80, u 81, u 82, u 83, u 84, u 85, u 86, u 87, u 88, u 89, u 90, u 91, u 92, u 93, u 94, u 95, u 96, u 97, u 98, u 99, u 100, u 101, u 102, u 103, u 104, u 105, u 106, u 107, u 108, u 109, u 110, u 111, u 112, u 113, u 114, u 115, u 116, u 117, u 118, u 119, u 120, u 121, u 122, u 123, u 124, u 125, u 126, u 127, u 128, u 129, u 130, u 131, u 132, u 133, u 134, u 135, u 136, u 137, u 138, u 139, u 140, u 141, u 142, u 143, u 144, u 145, u 146, u 147, u 148, u 149, u 150, u 151, u 152, u 153, u 154, u 155, u 156, u 157, u 158, u 159, u 160, u 161, u 162, u 163, u 164, u 165, u 166, u 167, u 168, u 169, u 170, u 171, u 172, u 173, u 174, u 175, u 176, u 177, u 178, u 179, u 180, u 181, u 182, u 183, u 184, u 185, u 186, u 187, u 188, u 189, u 190, u 191, u 192, u 193, u 194, u 195, u 196, u 197, u 198, u 199] := by
  obtain ⟨u, hu⟩ : ∃ u : Nat → Value, ∀ n, n < L.length → L[n]? = some (u n) := ⟨fun n => L[n]?.getD undef, fun n hn => by simp [hn]⟩
  refine ⟨u, ?_⟩
  have hl := h.len
  have e0 : u 0 = p0 := by have := hu 0 (by omega); rw [h.h0] at this; cases this; rfl
  have e1 : u 1 = p1 := by have := hu 1 (by omega); rw [h.h1] at this; cases this; rfl
  have e2 : u 2 = p2 := by have := hu 2 (by omega); rw [h.h2] at this; cases this; rfl
  have e3 : u 3 = p3 := by have := hu 3 (by omega); rw [h.h3] at this; cases this; rfl
  have e8 : u 8 = s8 := by have := hu 8 (by omega); rw [h.h8] at this; cases this; rfl
  have e9 : u 9 = s9 := by have := hu 9 (by omega); rw [h.h9] at this; cases this; rfl
  have e10 : u 10 = s10 := by have := hu 10 (by omega); rw [h.h10] at this; cases this; rfl
  have e := list_spread L u hu
  rw [hl, spread200] at e
  rw [e, e0, e1, e2, e3, e8, e9, e10]

end Go.Proofs.YtcbliojofnigdaaGreatDoor
