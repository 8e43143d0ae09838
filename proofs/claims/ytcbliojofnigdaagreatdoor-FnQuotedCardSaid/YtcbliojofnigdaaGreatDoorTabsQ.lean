/- The tables of strconv's printable code points, off the variables that a row lists. -/
import Derived.Test.YtcbliojofnigdaaGreatDoorTabsLaid
import Derived.Test.YtcbliojofnigdaaGreatDoorQuo1
import Derived.Lib.LaidPrint
set_option linter.unusedVariables false
set_option linter.unusedSimpArgs false
namespace Go.Proofs.YtcbliojofnigdaaGreatDoor
open Go Go.Proofs Go.RowKit

theorem printExtra : PrintExtra Tryz.prog ipRen := ⟨by kernel_rfl, by kernel_rfl, by kernel_rfl, by kernel_rfl, by kernel_rfl, by kernel_rfl, by kernel_rfl, by kernel_rfl, by kernel_rfl, by kernel_rfl⟩
theorem pt_laid {l : List (String × DataW Unit)} {W : World} (h : laidMet Tryz.prog l W) (h1 : ("unicode/utf8.first", Rows.laid_unicode_utf8_first) ∈ l) (h2 : ("unicode/utf8.acceptRanges", Rows.laid_unicode_utf8_acceptRanges) ∈ l)
    (h3 : ("strconv.isPrint16", Rows.laid_strconv_isPrint16) ∈ l) (h4 : ("strconv.isNotPrint16", Rows.laid_strconv_isNotPrint16) ∈ l) (h5 : ("strconv.isPrint32", Rows.laid_strconv_isPrint32) ∈ l) (h6 : ("strconv.isNotPrint32", Rows.laid_strconv_isNotPrint32) ∈ l) : PT Lib.goPrintTabs W := by
  have r3 := Lib.laidMet.reads h h3
  have r4 := Lib.laidMet.reads h h4
  have r5 := Lib.laidMet.reads h h5
  have r6 := Lib.laidMet.reads h h6
  have e3 : Rows.laid_strconv_isPrint16 = Lib.sliceData .u16 Lib.goPrintTabs.p16 := Pinned.isPrint16_eq
  have e4 : Rows.laid_strconv_isNotPrint16 = Lib.sliceData .u16 Lib.goPrintTabs.n16 := Pinned.isNotPrint16_eq
  have e5 : Rows.laid_strconv_isPrint32 = Lib.sliceData .u32 Lib.goPrintTabs.p32 := Pinned.isPrint32_eq
  have e6 : Rows.laid_strconv_isNotPrint32 = Lib.sliceData .u16 Lib.goPrintTabs.n32 := Pinned.isNotPrint32_eq
  rw [e3] at r3
  rw [e4] at r4
  rw [e5] at r5
  rw [e6] at r6
  exact ⟨tabs_laid h h1 h2, printTabs_of_reads ipLays printExtra r3 r4 r5 r6⟩

end Go.Proofs.YtcbliojofnigdaaGreatDoor
