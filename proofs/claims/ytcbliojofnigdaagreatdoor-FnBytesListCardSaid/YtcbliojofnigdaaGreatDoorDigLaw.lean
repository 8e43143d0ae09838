/- Digits of a number, in plain Lean. -/
import Derived.Test.YtcbliojofnigdaaGreatDoorFmtLaw
namespace Go.Proofs.YtcbliojofnigdaaGreatDoor
open Go Go.Proofs Go.RowKit

/-- the letter of a digit -/
def digC (up : Bool) (d : Nat) : UInt8 := if d < 10 then UInt8.ofNat (48 + d) else if up then UInt8.ofNat (55 + d) else UInt8.ofNat (87 + d)
/-- the digits of a number in a base -/
def digits (base : Nat) (up : Bool) : Nat → Nat → Bytes
  | 0, _ => []
  | f + 1, n => (if n / base = 0 then [] else digits base up f (n / base)) ++ [digC up (n % base)]
/-- decimal digits -/
def dec (n : Nat) : Bytes := digits 10 false 64 n

theorem numFrom_snoc (xs : Bytes) (m : Nat) (c : UInt8) : numFrom m (xs ++ [c]) = numFrom m xs * 10 + (c.toNat - 48) := by
  unfold numFrom
  rw [List.foldl_append, List.foldl_cons, List.foldl_nil]
  unfold addDigit
  exact Eq.refl _
theorem digC_dec (d : Nat) (h : d < 10) : (digC false d).toNat = 48 + d := by
  unfold digC
  rw [if_pos h]
  simp only [UInt8.toNat_ofNat']
  omega
theorem digits_num : ∀ (f n : Nat), n < 10 ^ f → numFrom 0 (digits 10 false f n) = n
  | 0, n, h => by
    have : n = 0 := by simpa using h
    subst this; exact numFrom_nil 0
  | f + 1, n, h => by
    rw [digits, numFrom_snoc, digC_dec _ (Nat.mod_lt _ (by decide))]
    split
    · rename_i h0
      rw [numFrom_nil]; omega
    · rw [digits_num f (n / 10) (by rw [Nat.pow_succ] at h; omega)]
      omega
theorem digits_digit : ∀ (f n : Nat), ∀ c ∈ digits 10 false f n, digitB c
  | 0, _, c, hc => by simp [digits] at hc
  | f + 1, n, c, hc => by
    rw [digits] at hc
    rcases List.mem_append.1 hc with hc | hc
    · split at hc
      · simp at hc
      · exact digits_digit f _ c hc
    · have : c = digC false (n % 10) := by simpa using hc
      have hd := digC_dec (n % 10) (Nat.mod_lt _ (by decide))
      rw [this]
      unfold digitB
      have := Nat.mod_lt n (show 0 < 10 by decide)
      omega
theorem digits_len (base : Nat) (up : Bool) (hb : 2 ≤ base) : ∀ (k f n : Nat), n < base ^ (k + 1) → (digits base up f n).length ≤ k + 1
  | _, 0, _, _ => by simp [digits]
  | k, f + 1, n, h => by
    rw [digits]
    split
    · simp
    · rename_i h0
      cases k with
      | zero =>
        exfalso
        apply h0
        exact Nat.div_eq_of_lt (by simpa using h)
      | succ k =>
        have := digits_len base up hb k f (n / base) (by
          rw [Nat.pow_succ] at h
          exact Nat.div_lt_of_lt_mul (by rw [Nat.mul_comm]; exact h))
        simp only [List.length_append, List.length_cons, List.length_nil]
        omega
theorem digits_ne (base : Nat) (up : Bool) (f n : Nat) (hf : 0 < f) : digits base up f n ≠ [] := by
  obtain ⟨g, rfl⟩ : ∃ g, f = g + 1 := ⟨f - 1, by omega⟩
  rw [digits]
  simp
theorem digits_head : ∀ (f n : Nat), n < 10 ^ f → 0 < n → ∀ x r, digits 10 false f n = x :: r → x.toNat ≠ 48
  | 0, n, h, h0, _, _, _ => by simp at h; omega
  | f + 1, n, h, h0, x, r, he => by
    rw [digits] at he
    split at he
    · rename_i hz
      simp only [List.nil_append, List.cons.injEq] at he
      rw [← he.1, digC_dec _ (Nat.mod_lt _ (by decide))]
      omega
    · rename_i hz
      have hlt : n / 10 < 10 ^ f := by rw [Nat.pow_succ] at h; omega
      have hne : digits 10 false f (n / 10) ≠ [] := by
        apply digits_ne
        cases f with
        | zero => simp at hlt; omega
        | succ f => omega
      cases hd : digits 10 false f (n / 10) with
      | nil => exact absurd hd hne
      | cons y q =>
        rw [hd] at he
        simp only [List.cons_append, List.cons.injEq] at he
        rw [← he.1]
        exact digits_head f (n / 10) hlt (by omega) y q hd

end Go.Proofs.YtcbliojofnigdaaGreatDoor
