/- The printer's small helpers. -/
import Derived.Test.YtcbliojofnigdaaGreatDoorPad
import Derived.Test.YtcbliojofnigdaaGreatDoorScan
namespace Go.Proofs.YtcbliojofnigdaaGreatDoor
open Go Go.Proofs Go.RowKit

/-- a step that wrote t, and then what writes t' -/
theorem Wrote.cons {b : Nat} {w w1 : World} {s : PS} {v v1 : Value} {ib : List Value} {t t' : Bytes} (hf : Fr b w v w1 v1) {e : Ending} {w2 : World}
    (h : Wrote b w1 { s with out := s.out ++ t } v1 ib t' e w2) : Wrote b w s v ib (t ++ t') e w2 := h.append hf

def bangB (r : Int) (t : Bytes) : Bytes := [37, 33] ++ (encB r ++ t)
theorem encB_len (r : Int) : (encB r).length ≤ 4 := by
  unfold encB Lib.encodeRuneZ
  simp only [List.length_map]
  repeat' split
  all_goals simp
def badIndexT : Bytes := "(BADINDEX)".toUTF8.data.toList
def missingT : Bytes := "(MISSING)".toUTF8.data.toList

set_option maxRecDepth 100000 in
set_option maxHeartbeats 400000 in
theorem clearflags_any {b : Nat} {w : World} {s : PS} {v : Value} {ib : List Value} (h : PP b w s v ib) :
    Calls Tryz.prog 77 #[.pointer (some ⟨b, 1, none⟩)] w fun e w' => e = .returned (.tuple #[]) ∧ PP b w' { s with fl := {} } v ib ∧ Fr b w v w' v := by
  have h2 := h.c2
  have h3 := h.c3
  have h4 := h.c4
  have h5 := h.c5
  have h6 := h.c6
  have h7 := h.c7
  have h8 := h.c8
  have h9 := h.c9
  have h10 := h.c10
  have h11 := h.c11
  have h12 := h.c12
  have f2 := h.frz 2
  have f3 := h.frz 3
  have f4 := h.frz 4
  have f5 := h.frz 5
  have f6 := h.frz 6
  have f7 := h.frz 7
  have f8 := h.frz 8
  have f9 := h.frz 9
  have f10 := h.frz 10
  have f11 := h.frz 11
  have f12 := h.frz 12
  have HH := Lib.hid h
  clear h
  go_enter Tryz.func77, Tryz.ntmps77
  go_wp2
  go_end0
  have h := HH.out
  have R := ((((((((((h.setWidP false).setPrecP false).setMinus false).setPlus false).setSharp false).setSpace false).setZero false).setPlusV false).setSharpV false).setWid 0).setPrec 0
  refine ⟨rfl, R, ?_⟩
  exact ((((((((((((Fr.refl b w v).setB 2 _).setB 3 _).setB 4 _).setB 5 _).setB 6 _).setB 7 _).setB 8 _).setB 9 _).setB 10 _).setB 11 _).setB 12 _)

set_option maxRecDepth 100000 in
set_option maxHeartbeats 400000 in
theorem badArgNum_any {b : Nat} {w : World} {s : PS} {v : Value} {ib : List Value} (h : PP b w s v ib) (r : Int) (h1 : -2147483648 ≤ r) (h2 : r ≤ 2147483647) (hl : Fits (s.out.length + 16)) :
    Calls Tryz.prog 84 #[.pointer (some ⟨b, 0, none⟩), .int .i32 r] w (Wrote b w s v ib (bangB r badIndexT)) := by
  have hl' := hl
  have C := writeString_any h ⟨#[37, 33]⟩ (hl.le (show _ + 2 ≤ _ by omega)).room
  have HC := Lib.hid C
  have hle := encB_len r
  have HL := Lib.hid hle
  have HL' := Lib.hid hl'
  clear hl' C hle hl h
  go_enter Tryz.func84, Tryz.ntmps84
  go_wp2_with (go_at_call 76; refine (HC.out).mono ?_; rintro e w1 ⟨rfl, v1, hP1, hF1⟩)
  have C := writeRune_any hP1 r h1 h2 (HL'.out.le (show _ + 4 ≤ _ by simp only [List.length_append, List.length_cons, List.length_nil]; omega)).room
  clear HC
  have HC := Lib.hid C
  have HF1 := Lib.hid hF1
  clear C hF1 hP1
  go_wp2_with (go_at_call 103; refine (HC.out).mono ?_; rintro e w2 ⟨rfl, v2, hP2, hF2⟩)
  have C := writeString_any hP2 ⟨#[40, 66, 65, 68, 73, 78, 68, 69, 88, 41]⟩ (HL'.out.le (show _ + 10 ≤ _ by have := HL.out; simp only [List.length_append, List.length_cons, List.length_nil]; omega)).room
  clear HC
  have HC := Lib.hid C
  have HF2 := Lib.hid hF2
  clear C hF2 hP2
  go_wp2_with (go_at_call 76; refine (HC.out).mono ?_; rintro e w3 ⟨rfl, v3, hP3, hF3⟩)
  go_end0
  refine ⟨rfl, v3, ?_, (HF1.out.trans HF2.out).trans hF3⟩
  have e : s.out ++ bangB r badIndexT = ((s.out ++ [37, 33]) ++ encB r) ++ [40, 66, 65, 68, 73, 78, 68, 69, 88, 41] := by
    rw [show badIndexT = [40, 66, 65, 68, 73, 78, 68, 69, 88, 41] by decide +kernel]
    simp [bangB]
  rw [e]
  exact hP3

set_option maxRecDepth 100000 in
set_option maxHeartbeats 400000 in
theorem missingArg_any {b : Nat} {w : World} {s : PS} {v : Value} {ib : List Value} (h : PP b w s v ib) (r : Int) (h1 : -2147483648 ≤ r) (h2 : r ≤ 2147483647) (hl : Fits (s.out.length + 16)) :
    Calls Tryz.prog 85 #[.pointer (some ⟨b, 0, none⟩), .int .i32 r] w (Wrote b w s v ib (bangB r missingT)) := by
  have hl' := hl
  have C := writeString_any h ⟨#[37, 33]⟩ (hl.le (show _ + 2 ≤ _ by omega)).room
  have HC := Lib.hid C
  have hle := encB_len r
  have HL := Lib.hid hle
  have HL' := Lib.hid hl'
  clear hl' C hle hl h
  go_enter Tryz.func85, Tryz.ntmps85
  go_wp2_with (go_at_call 76; refine (HC.out).mono ?_; rintro e w1 ⟨rfl, v1, hP1, hF1⟩)
  have C := writeRune_any hP1 r h1 h2 (HL'.out.le (show _ + 4 ≤ _ by simp only [List.length_append, List.length_cons, List.length_nil]; omega)).room
  clear HC
  have HC := Lib.hid C
  have HF1 := Lib.hid hF1
  clear C hF1 hP1
  go_wp2_with (go_at_call 103; refine (HC.out).mono ?_; rintro e w2 ⟨rfl, v2, hP2, hF2⟩)
  have C := writeString_any hP2 ⟨#[40, 77, 73, 83, 83, 73, 78, 71, 41]⟩ (HL'.out.le (show _ + 9 ≤ _ by have := HL.out; simp only [List.length_append, List.length_cons, List.length_nil]; omega)).room
  clear HC
  have HC := Lib.hid C
  have HF2 := Lib.hid hF2
  clear C hF2 hP2
  go_wp2_with (go_at_call 76; refine (HC.out).mono ?_; rintro e w3 ⟨rfl, v3, hP3, hF3⟩)
  go_end0
  refine ⟨rfl, v3, ?_, (HF1.out.trans HF2.out).trans hF3⟩
  have e : s.out ++ bangB r missingT = ((s.out ++ [37, 33]) ++ encB r) ++ [40, 77, 73, 83, 83, 73, 78, 71, 41] := by
    rw [show missingT = [40, 77, 73, 83, 83, 73, 78, 71, 41] by decide +kernel]
    simp [bangB]
  rw [e]
  exact hP3

end Go.Proofs.YtcbliojofnigdaaGreatDoor
