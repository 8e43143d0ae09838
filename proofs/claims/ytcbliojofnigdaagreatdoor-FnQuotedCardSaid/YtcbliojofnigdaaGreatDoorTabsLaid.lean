/- The tables of unicode/utf8, off the variables that a row lists. Five parameters read and read again. -/
import Derived.Test.YtcbliojofnigdaaGreatDoorRows
import Derived.Test.YtcbliojofnigdaaGreatDoorTrunc
import Derived.Lib.LaidU8T
import Derived.PinnedBridge
import Derived.Carry
set_option linter.unusedVariables false
set_option linter.unusedSimpArgs false
namespace Go.Proofs.YtcbliojofnigdaaGreatDoor
open Go Go.Proofs Go.RowKit

def u8Ren : Go.Shelf.Ren := ⟨fun n => n, fun | 119 => 190 | 138 => 192 | 139 => 193 | n => n, fun | 3 => 0 | 4 => 1 | n => n⟩
theorem u8Types : U8Types Tryz.prog u8Ren := ⟨Tryz.underlying5, Tryz.underlying190, Tryz.underlying192, Tryz.underlying193⟩
theorem u8Extra : U8Extra Tryz.prog u8Ren := ⟨by kernel_rfl, by kernel_rfl, by kernel_rfl, by kernel_rfl, by kernel_rfl, by kernel_rfl, by kernel_rfl⟩
theorem accept_eq : Rows.laid_unicode_utf8_acceptRanges = Lib.acceptData := by kernel_rfl
theorem tabs_laid {l : List (String × DataW Unit)} {W : World} (h : laidMet Tryz.prog l W) (h1 : ("unicode/utf8.first", Rows.laid_unicode_utf8_first) ∈ l) (h2 : ("unicode/utf8.acceptRanges", Rows.laid_unicode_utf8_acceptRanges) ∈ l) : Tabs W := by
  have r1 := Lib.laidMet.reads h h1
  have r2 := Lib.laidMet.reads h h2
  rw [accept_eq] at r2
  have e : Rows.laid_unicode_utf8_first = Lib.firstData := Pinned.utf8First_eq
  rw [e] at r1
  exact utf8Tabs_of_readsT u8Types u8Extra r1 r2

section
open Go.ChangeShapes
variable {H : Type} {enc : TypeId × Value → H} {P : Program} {w : World} {base : Nat} {spare : Nat → Bool} {held : Bool}
theorem trodAll_five {t t' t'' t3 t4 : TypeId} {args : Array Value} {ds : List (DataW H)} {ps : List MemPlace} (h : DataW.TrodAll enc P w base spare held [t, t', t'', t3, t4] args.toList ds ps) :
    ∃ v v' v'' v3 v4 d d' d'' d3 d4 p p' p'' p3 p4, args = #[v, v', v'', v3, v4] ∧ ds = [d, d', d'', d3, d4] ∧ ps = p ++ p' ++ p'' ++ p3 ++ p4 ∧ DataW.Trod enc P w base spare held t v d p ∧ DataW.Trod enc P w base spare held t' v' d' p' ∧ DataW.Trod enc P w base spare held t'' v'' d'' p'' ∧ DataW.Trod enc P w base spare held t3 v3 d3 p3 ∧ DataW.Trod enc P w base spare held t4 v4 d4 p4 := by
  obtain ⟨v, vs, d, ds', p, q, hargs, rfl, rfl, hd, h1⟩ := trodAll_cons h
  obtain ⟨v', vs', d', ds'', p', q', rfl, rfl, rfl, hd', h2⟩ := trodAll_cons h1
  obtain ⟨v'', vs'', d'', ds''', p'', q'', rfl, rfl, rfl, hd'', h3⟩ := trodAll_cons h2
  obtain ⟨v3, vs3, d3, ds3, p3, q3, rfl, rfl, rfl, hd3, h4⟩ := trodAll_cons h3
  obtain ⟨v4, vs4, d4, ds4, p4, q4, rfl, rfl, rfl, hd4, h5⟩ := trodAll_cons h4
  obtain ⟨rfl, rfl, rfl⟩ := trodAll_nil h5
  exact ⟨v, v', v'', v3, v4, d, d', d'', d3, d4, p, p', p'', p3, p4, by cases args; simp_all, rfl, by simp, hd, hd', hd'', hd3, hd4⟩
theorem trodAll_mk5 {t t' t'' t3 t4 : TypeId} {v v' v'' v3 v4 : Value} {d d' d'' d3 d4 : DataW H} {p p' p'' p3 p4 : List MemPlace} (h : DataW.Trod enc P w base spare held t v d p) (h' : DataW.Trod enc P w base spare held t' v' d' p')
    (h'' : DataW.Trod enc P w base spare held t'' v'' d'' p'') (h3 : DataW.Trod enc P w base spare held t3 v3 d3 p3) (h4 : DataW.Trod enc P w base spare held t4 v4 d4 p4) : DataW.TrodAll enc P w base spare held [t, t', t'', t3, t4] [v, v', v'', v3, v4] [d, d', d'', d3, d4] (p ++ (p' ++ (p'' ++ (p3 ++ p4)))) := ⟨p, p' ++ (p'' ++ (p3 ++ p4)), h, trodAll_mk4 h' h'' h3 h4, rfl⟩
end

end Go.Proofs.YtcbliojofnigdaaGreatDoor
