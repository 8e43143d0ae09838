/- What fmtSbx writes of bytes in base 16, and what the reference's Bytes says, in plain Lean. -/
import Derived.Test.YtcbliojofnigdaaGreatDoorIntM
namespace Go.Proofs.YtcbliojofnigdaaGreatDoor
open Go Go.Proofs Go.RowKit

/-- the two digits of a byte -/
def hex2 (up : Bool) (c : UInt8) : Bytes := [digC up (c.toNat / 16), digC up (c.toNat % 16)]
/-- nought and x -/
def hexX (up : Bool) : Bytes := [48, if up then 88 else 120]
theorem digits_byte (up : Bool) (m : Nat) (h : m < 256) : digits 16 up 64 (m + 256) = [49, digC up (m / 16), digC up (m % 16)] := by
  have e1 : (m + 256) / 16 = m / 16 + 16 := by omega
  have e2 : (m / 16 + 16) / 16 = 1 := by omega
  have e3 : (m + 256) % 16 = m % 16 := by omega
  have e4 : (m / 16 + 16) % 16 = m / 16 := by omega
  rw [show (64 : Nat) = 61 + 1 + 1 + 1 from rfl, digits, e1, e3, if_neg (by omega), digits, e2, e4, if_neg (by decide), digits]
  cases up <;> rfl
/-- bytes in base 16, z between -/
def hexes (up : Bool) (z : Bytes) : Bytes → Bytes
  | [] => []
  | c :: r => hex2 up c ++ r.flatMap fun c => z ++ hex2 up c
theorem hexes_snoc (up : Bool) (z t : Bytes) (c : UInt8) : hexes up z (t ++ [c]) = hexes up z t ++ ((if t = [] then [] else z) ++ hex2 up c) := by
  cases t with
  | nil => simp [hexes]
  | cons d r => simp [hexes]
theorem hexes_take (up : Bool) (z t : Bytes) (j : Nat) (h : j < t.length) : hexes up z (t.take (j + 1)) = hexes up z (t.take j) ++ ((if j = 0 then [] else z) ++ hex2 up t[j]) := by
  rw [List.take_succ_eq_append_getElem h, hexes_snoc]
  congr 2
  cases j with
  | zero => simp
  | succ j =>
    rw [if_neg, if_neg (by omega)]
    intro e
    have := congrArg List.length e
    simp only [List.length_take, List.length_nil] at this
    omega
theorem hexes_len (up : Bool) (z t : Bytes) : ∀ j, j ≤ t.length → (hexes up z (t.take j)).length + (if j = 0 then 0 else z.length) = (2 + z.length) * j := by
  intro j
  induction j with
  | zero => intro _; simp [hexes]
  | succ j ih =>
    intro hj
    have ih := ih (by omega)
    have h2 : (hex2 up t[j]).length = 2 := rfl
    have h1 : ¬ j + 1 = 0 := by omega
    rw [hexes_take up z t j (by omega), List.length_append, List.length_append, h2, if_neg h1, Nat.mul_succ]
    by_cases h : j = 0
    · subst h
      simp [hexes]
    · rw [if_neg h] at ih ⊢
      omega
theorem digC_ascii (up : Bool) (d : Nat) (h : d < 16) : (digC up d).toNat < 128 := (digC_small up d h).1
theorem hex2_ascii (up : Bool) (c : UInt8) : ∀ x ∈ hex2 up c, x.toNat < 128 := by
  intro x hx
  have h := c.toNat_lt
  unfold hex2 at hx
  rcases List.mem_cons.1 hx with rfl | hx
  · exact digC_ascii up _ (by omega)
  · rw [List.mem_singleton.1 hx]; exact digC_ascii up _ (by omega)
theorem hexX_ascii (up : Bool) : ∀ x ∈ hexX up, x.toNat < 128 := by cases up <;> decide
theorem hexes_ascii (up : Bool) (z : Bytes) (hz : ∀ x ∈ z, x.toNat < 128) (t : Bytes) : ∀ x ∈ hexes up z t, x.toNat < 128 := by
  intro x hx
  cases t with
  | nil => cases hx
  | cons c r =>
    unfold hexes at hx
    rcases List.mem_append.1 hx with hx | hx
    · exact hex2_ascii up c x hx
    · obtain ⟨d, _, hd⟩ := List.mem_flatMap.1 hx
      rcases List.mem_append.1 hd with hd | hd
      · exact hz x hd
      · exact hex2_ascii up d x hd
/-- what stands between two bytes -/
def hexZ (f : Fl) (up : Bool) : Bytes := if f.space then 32 :: (if f.sharp then hexX up else []) else []
theorem hexZ_ascii (f : Fl) (up : Bool) : ∀ x ∈ hexZ f up, x.toNat < 128 := by
  unfold hexZ
  cases f.space <;> cases f.sharp <;> cases up <;> decide
/-- bytes in base 16, as the flags say -/
def hexB (f : Fl) (up : Bool) (t : Bytes) : Bytes := if t = [] then [] else (if f.sharp then hexX up else []) ++ hexes up (hexZ f up) t
/-- how many bytes the precision leaves -/
def hexN (f : Fl) (n : Nat) : Nat := if f.precP = true ∧ f.prec < n then f.prec.toNat else n
/-- what fmtSbx writes -/
def hexM (f : Fl) (up : Bool) (t : Bytes) : Bytes := padM f (hexB f up (t.take (hexN f t.length)))
theorem hexB_ascii (f : Fl) (up : Bool) (t : Bytes) : ∀ x ∈ hexB f up t, x.toNat < 128 := by
  intro x hx
  unfold hexB at hx
  split at hx
  · cases hx
  · rcases List.mem_append.1 hx with hx | hx
    · split at hx
      · exact hexX_ascii up x hx
      · cases hx
    · exact hexes_ascii up _ (hexZ_ascii f up) t x hx
/-- how long that is -/
theorem hexB_len (f : Fl) (up : Bool) (t : Bytes) (h : t ≠ []) : (hexB f up t).length = (if f.space then (if f.sharp then 4 * t.length else 2 * t.length) + (t.length - 1) else if f.sharp then 2 * t.length + 2 else 2 * t.length) := by
  have hl := hexes_len up (hexZ f up) t t.length (Nat.le_refl _)
  have h0 : 0 < t.length := List.length_pos_iff.2 h
  rw [List.take_length, if_neg (by omega)] at hl
  unfold hexB
  rw [if_neg h, List.length_append]
  have hx : (hexX up).length = 2 := rfl
  cases hs : f.space <;> cases hh : f.sharp <;> simp only [hexZ, hs, hh, if_true, if_false, Bool.false_eq_true, List.length_cons, List.length_nil, hx] at hl ⊢ <;> omega
theorem hexB_le (f : Fl) (up : Bool) (t : Bytes) : (hexB f up t).length ≤ 5 * t.length := by
  by_cases h : t = []
  · subst h; simp [hexB]
  · have h0 : 0 < t.length := List.length_pos_iff.2 h
    rw [hexB_len f up t h]
    split <;> split <;> omega
theorem hexM_len (f : Fl) (up : Bool) (t : Bytes) : (hexM f up t).length ≤ 5 * t.length + f.wid.toNat := by
  unfold hexM
  have h1 := padM_length f (hexB f up (t.take (hexN f t.length)))
  have h2 := hexB_le f up (t.take (hexN f t.length))
  rw [List.length_take] at h2
  omega

/-- how many bytes the reference leaves -/
def specN (f : SF) (n : Nat) : Nat := if f.hasPrec = true ∧ f.prec < n then f.prec.toNat else n
/-- the reference's Bytes: nothing where it leaves the answer open -/
def specHex (f : SF) (up : Bool) (t : Bytes) : Option Bytes :=
  if f.sharp = true ∧ (f.space = true ∨ t.take (specN f t.length) = []) then none
  else some (specPad f ((if f.sharp then hexX up else []) ++ hexes up (if f.space then [32] else []) (t.take (specN f t.length))))
theorem hexM_spec (f : Fl) (g : SF) (up : Bool) (t x : Bytes) (h1 : f.widP = g.hasWid) (h2 : g.hasWid = true → f.wid = g.wid ∧ f.wid ≠ 0) (h3 : f.minus = g.minus) (h4 : f.zero = g.zero) (h5 : f.sharp = g.sharp) (h6 : f.space = g.space) (h7 : f.precP = g.hasPrec) (h8 : f.prec = g.prec)
    (hx : specHex g up t = some x) : hexM f up t = x := by
  unfold specHex at hx
  split at hx
  · cases hx
  · rename_i hn
    cases hx
    have e : hexN f t.length = specN g t.length := by unfold hexN specN; rw [h7, h8]
    unfold hexM
    rw [padM_spec f g h1 h2 h3 h4, e]
    congr 1
    generalize t.take _ = T at *
    unfold hexB hexZ
    rw [h5, h6]
    by_cases hT : T = []
    · subst hT
      have hs : g.sharp = false := by
        cases h : g.sharp
        · rfl
        · exact absurd ⟨h, .inr rfl⟩ hn
      rw [hs]
      simp [hexes]
    · rw [if_neg hT]
      cases hs : g.sharp <;> cases hp : g.space <;> first | rfl | exact absurd ⟨hs, .inl hp⟩ hn

end Go.Proofs.YtcbliojofnigdaaGreatDoor
