/- spec.String at every text. -/
import Derived.Test.YtcbliojofnigdaaGreatDoorRunesAny
namespace Go.Proofs.YtcbliojofnigdaaGreatDoor
open Go Go.Proofs Go.RowKit

/-- the reference's String -/
def specStr (f : SF) (t : Bytes) : Bytes := specPad f (if f.hasPrec then firstB f.prec.toNat t else t)
theorem firstB_ext (t : ByteArray) (n : Nat) : (t.extract 0 (after t n 0)).data.toList = firstB n t.data.toList := by
  unfold firstB
  rw [str_eta]
  simp

set_option maxRecDepth 100000 in
set_option maxHeartbeats 1000000 in
theorem String_any (f : SF) (t : ByteArray) (hs : t.size ≤ 1000000) (hf0 : 0 ≤ f.wid) (hf1 : f.wid ≤ 1000000) (hp0 : f.hasPrec = true → 0 ≤ f.prec ∧ f.prec ≤ 1000000) (w : World) : Calls Tryz.prog 41 #[f.val, .string t] w fun e w' => e = .returned (.string ⟨(specStr f t.data.toList).toArray⟩) ∧ Only none w w' := by
  obtain ⟨wid, prec, hasWid, hasPrec, minus, plus, sharp, space, zero⟩ := f
  simp only at hf0 hf1 hp0
  cases hasPrec with
  | false =>
    have C := fun W => Pad_wide ⟨wid, prec, hasWid, false, minus, plus, sharp, space, zero⟩ t hs hf0 hf1 W
    have e : specStr ⟨wid, prec, hasWid, false, minus, plus, sharp, space, zero⟩ t.data.toList = specPad ⟨wid, prec, hasWid, false, minus, plus, sharp, space, zero⟩ t.data.toList := rfl
    rw [e]
    obtain ⟨X, hX⟩ : ∃ X : ByteArray, X = ⟨(specPad ⟨wid, prec, hasWid, false, minus, plus, sharp, space, zero⟩ t.data.toList).toArray⟩ := ⟨_, rfl⟩
    rw [← hX] at C ⊢
    unfold SF.val at C ⊢
    have HC := Lib.hid C
    clear C hX e hp0 hf0 hf1 hs
    go_enter Tryz.func41, Tryz.ntmps41
    go_wp2_with (go_at_call 22; refine (HC.out _).mono ?_; rintro e w2 ⟨rfl, hO⟩)
    go_ret
    exact ⟨rfl, ((Only.refl _ _).alloc _).trans hO⟩
  | true =>
    obtain ⟨p0, p1⟩ := hp0 rfl
    obtain ⟨m, rfl⟩ := Int.eq_ofNat_of_zero_le p0
    obtain ⟨s, hs'⟩ : ∃ s, s = t.extract 0 (after t m 0) := ⟨_, rfl⟩
    have hsz : s.size ≤ 1000000 := by rw [hs', ByteArray.size_extract]; omega
    have C58 := fun W => First_any t (by omega) m (by omega) W
    rw [← hs'] at C58
    have C := fun W => Pad_wide ⟨wid, m, hasWid, true, minus, plus, sharp, space, zero⟩ s hsz hf0 hf1 W
    have e : specStr ⟨wid, m, hasWid, true, minus, plus, sharp, space, zero⟩ t.data.toList = specPad ⟨wid, m, hasWid, true, minus, plus, sharp, space, zero⟩ s.data.toList := by
      rw [hs', firstB_ext]
      rfl
    rw [e]
    obtain ⟨X, hX⟩ : ∃ X : ByteArray, X = ⟨(specPad ⟨wid, m, hasWid, true, minus, plus, sharp, space, zero⟩ s.data.toList).toArray⟩ := ⟨_, rfl⟩
    rw [← hX] at C ⊢
    unfold SF.val at C ⊢
    have HC := Lib.hid C
    have H58 := Lib.hid C58
    clear C hX e hp0 hf0 hf1 hs C58 hs' hsz
    go_enter Tryz.func41, Tryz.ntmps41
    go_wp2_with (first
      | (go_at_call 58; refine (H58.out _).mono ?_; rintro e w2 ⟨rfl, rfl⟩)
      | (go_at_call 22; refine (HC.out _).mono ?_; rintro e w3 ⟨rfl, hO⟩))
    go_ret
    exact ⟨rfl, ((Only.refl _ _).alloc _).trans hO⟩

end Go.Proofs.YtcbliojofnigdaaGreatDoor
