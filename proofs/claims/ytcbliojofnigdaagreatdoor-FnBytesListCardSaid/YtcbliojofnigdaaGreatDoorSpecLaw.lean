/- The reference's flags and its filling up, in plain Lean; and the program's, by them. -/
import Derived.Test.YtcbliojofnigdaaGreatDoorDigLaw
namespace Go.Proofs.YtcbliojofnigdaaGreatDoor
open Go Go.Proofs Go.RowKit

/-- the reference's flags -/
structure SF where
  wid : Int := 0
  prec : Int := 0
  hasWid : Bool := false
  hasPrec : Bool := false
  minus : Bool := false
  plus : Bool := false
  sharp : Bool := false
  space : Bool := false
  zero : Bool := false
def SF.val (f : SF) : Value := .agg #[.int .i64 f.wid, .int .i64 f.prec, .bool f.hasWid, .bool f.hasPrec, .bool f.minus, .bool f.plus, .bool f.sharp, .bool f.space, .bool f.zero]

/-- a byte so often -/
def rep (c : UInt8) (n : Int) : Bytes := List.replicate n.toNat c
/-- the reference's Pad -/
def specPad (f : SF) (s : Bytes) : Bytes :=
  if f.hasWid = false then s
  else if f.minus then s ++ rep 32 (f.wid - runes s)
  else if f.zero then rep 48 (f.wid - runes s) ++ s
  else rep 32 (f.wid - runes s) ++ s

theorem padM_spec (f : Fl) (g : SF) (h1 : f.widP = g.hasWid) (h2 : g.hasWid = true → f.wid = g.wid ∧ f.wid ≠ 0) (h3 : f.minus = g.minus) (h4 : f.zero = g.zero) (s : Bytes) : padM f s = specPad g s := by
  unfold padM specPad
  cases hw : g.hasWid
  · rw [if_pos (.inl (by rw [h1, hw])), if_pos rfl]
  · have h := h2 hw
    have hn : ¬ (f.widP = false ∨ f.wid = 0) := by rw [h1, hw]; rintro (h' | h'); cases h'; exact h.2 h'
    rw [if_neg hn, h.1, h3]
    unfold padding rep padB
    rw [h3, h4]
    cases g.minus <;> cases g.zero <;> rfl

/-- a format's flags, as the laws write them -/
def flagB (b0 b1 b2 b3 b4 : Bool) : Bytes := (if b0 then [45] else []) ++ (if b1 then [43] else []) ++ (if b2 then [35] else []) ++ (if b3 then [32] else []) ++ (if b4 && !b0 then [48] else [])
theorem flagsF_bits (b0 b1 b2 b3 b4 : Bool) : flagsF (flagB b0 b1 b2 b3 b4) {} = { minus := b0, plus := b1, sharp := b2, space := b3, zero := b4 && !b0 } := by
  cases b0 <;> cases b1 <;> cases b2 <;> cases b3 <;> cases b4 <;> rfl
theorem flagB_isFlag (b0 b1 b2 b3 b4 : Bool) : ∀ x ∈ flagB b0 b1 b2 b3 b4, isFlag x.toNat := by
  have h : (flagB b0 b1 b2 b3 b4).all (fun x => decide (isFlag x.toNat)) = true := by
    cases b0 <;> cases b1 <;> cases b2 <;> cases b3 <;> cases b4 <;> decide
  intro x hx
  exact of_decide_eq_true (List.all_eq_true.1 h x hx)

/-- a width as the laws write it: none for 0 -/
def widB (n : Nat) : Bytes := if n = 0 then [] else dec n
theorem dec_num (n : Nat) (h : n < 1000000) : numFrom 0 (dec n) = n := digits_num 64 n (Nat.lt_of_lt_of_le h (by decide))
theorem dec_len (n : Nat) (h : n < 1000000) : (dec n).length ≤ 6 := digits_len 10 false (by decide) 5 64 n (by simpa using h)
theorem dec_ne (n : Nat) : dec n ≠ [] := digits_ne 10 false 64 n (by decide)
theorem widB_num (n : Nat) (h : n < 1000000) : numFrom 0 (widB n) = n ∧ (!(widB n).isEmpty) = decide (n ≠ 0) ∧ (widB n).length ≤ 6 ∧ (∀ c ∈ widB n, digitB c) ∧ (∀ x r, widB n = x :: r → x.toNat ≠ 48) := by
  unfold widB
  split
  · rename_i h0
    subst h0
    exact ⟨rfl, rfl, Nat.zero_le _, by simp, by simp⟩
  · rename_i h0
    refine ⟨dec_num n h, ?_, dec_len n h, digits_digit _ _, ?_⟩
    · rw [decide_eq_true h0]
      cases hd : dec n with
      | nil => exact absurd hd (dec_ne n)
      | cons _ _ => rfl
    · exact digits_head 64 n (Nat.lt_of_lt_of_le h (by decide)) (by omega)

end Go.Proofs.YtcbliojofnigdaaGreatDoor
