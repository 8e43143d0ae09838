/- A quoted text and what it is quoted from, in plain Lean: a code point's bytes are those that it was decoded from; a text that begins with them decodes to it. -/
import Derived.Test.YtcbliojofnigdaaGreatDoorPadB
import Derived.Test.YtcbliojofnigdaaGreatDoorFrame
import Derived.Lib.QuoteLoop
import Derived.Lib.MapLaws
set_option linter.unusedVariables false
set_option linter.unusedSimpArgs false
namespace Go.Proofs.YtcbliojofnigdaaGreatDoor
open Go Go.Proofs Go.RowKit

theorem dec_take (t : ByteArray) (h : 0 < t.size) (hv : ¬ ((Utf8.decode t 0).2 = 1 ∧ (Utf8.decode t 0).1 = 65533)) : encB (Utf8.decode t 0).1 = t.data.toList.take (Utf8.decode t 0).2 := by
  have hne : t.data.toList ≠ [] := by
    intro e
    have := congrArg List.length e
    rw [Array.length_toList] at this
    simp only [List.length_nil] at this
    have h2 : t.data.size = t.size := rfl
    omega
  have e : Lib.decodeL t.data.toList = Utf8.decode t 0 := by
    unfold Lib.decodeL
    congr 1
  have := Lib.encode_decode t.data.toList hne (by rw [e]; exact fun hh => hv ⟨hh.2, hh.1⟩)
  rw [e] at this
  exact this

/-- what a text decodes to stands in the bytes that it takes up alone -/
theorem dec_same (t u : ByteArray) (h : 0 < t.size) (hv : ¬ ((Utf8.decode t 0).2 = 1 ∧ (Utf8.decode t 0).1 = 65533)) (hs : (Utf8.decode t 0).2 ≤ u.size) (hg : ∀ i, i < (Utf8.decode t 0).2 → (u.get! i).toNat = (t.get! i).toNat) : Utf8.decode u 0 = Utf8.decode t 0 := by
  have e1 := Lib.decode_at t 0
  have e2 := Lib.decode_at u 0
  simp only [Nat.sub_zero, Nat.zero_add] at e1 e2
  have g0 := hg 0
  have g1 := hg 1
  have g2 := hg 2
  have g3 := hg 3
  rw [e2]
  rw [e1] at hv hs g0 g1 g2 g3 ⊢
  clear hg e1 e2
  generalize (t.get! 0).toNat = b0 at *
  generalize (t.get! 1).toNat = b1 at *
  generalize (t.get! 2).toNat = b2 at *
  generalize (t.get! 3).toNat = b3 at *
  generalize (u.get! 0).toNat = c0 at *
  generalize (u.get! 1).toNat = c1 at *
  generalize (u.get! 2).toNat = c2 at *
  generalize (u.get! 3).toNat = c3 at *
  rcases Lib.decodeN_shape t.size b0 b1 b2 b3 with ⟨h0, hd⟩ | ⟨h0, h1, h2, h3, hd⟩ | ⟨h0, h1, h2, h3, h4, h5, hd⟩ | ⟨h0, h1, h2, h3, h4, h5, h6, hd⟩ | hd
  · rw [hd] at hs g0 ⊢
    rw [g0 (by simp)]
    unfold Lib.decodeN
    rw [if_pos h0]
  · rw [hd] at hs g0 g1 ⊢
    have hs : 2 ≤ u.size := hs
    rw [g0 (by simp), g1 (by simp)]
    unfold Lib.decodeN
    rw [if_neg (by omega), if_pos ⟨h0, by omega, h2⟩, if_pos h3]
  · rw [hd] at hs g0 g1 g2 ⊢
    have hs : 3 ≤ u.size := hs
    rw [g0 (by simp), g1 (by simp), g2 (by simp)]
    unfold Lib.decodeN
    rw [if_neg (by omega), if_neg (by omega), if_pos ⟨h0, ⟨by omega, h2⟩, ⟨by omega, h3⟩⟩, if_pos ⟨h4, by omega⟩]
  · rw [hd] at hs g0 g1 g2 g3 ⊢
    have hs : 4 ≤ u.size := hs
    rw [g0 (by simp), g1 (by simp), g2 (by simp), g3 (by simp)]
    unfold Lib.decodeN
    rw [if_neg (by omega), if_neg (by omega), if_neg (by omega), if_pos ⟨h0, ⟨by omega, h2⟩, ⟨by omega, h3⟩, ⟨by omega, h4⟩⟩, if_pos ⟨by omega, by omega⟩]
  · rw [hd] at hv
    exact absurd ⟨rfl, rfl⟩ hv

end Go.Proofs.YtcbliojofnigdaaGreatDoor
