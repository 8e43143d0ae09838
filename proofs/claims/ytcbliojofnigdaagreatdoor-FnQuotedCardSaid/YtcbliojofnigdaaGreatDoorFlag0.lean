/- The laws' flags: all bits, every width and precision (printed by tools/gen_flags2.py). -/
import Derived.Test.YtcbliojofnigdaaGreatDoorRepPad
import Derived.Lib.SmallJoins
import Derived.Laws.ResultCell
set_option linter.unusedVariables false
set_option linter.unusedSimpArgs false
namespace Go.Proofs.YtcbliojofnigdaaGreatDoor
open Go Go.Proofs Go.RowKit

theorem kc26 (w : World) (C : Array Value) (g : Nat) (hg : g = w.heap.size) : (convert 26 26 (.slice (some ⟨g, 0, none⟩) 5 5)).run Tryz.prog (w.alloc (.cells C 5)) = .ok (.slice (some ⟨g, 0, none⟩) 5 5) (w.alloc (.cells C 5 (C.size, C.size + 1))) :=
  Go.Joins.run_convert_bytes_const_at w 26 5 C 5 5 g hg Tryz.underlying26 Tryz.underlying5
theorem kcOne (c : UInt8) (v : Int) (hv : u8 c = .int .u8 v) (w : World) (g : Nat) (hg : g = w.heap.size) : (convert 26 9 (.slice (some ⟨g, 0, none⟩) 1 1)).run Tryz.prog (w.alloc (.cells #[.int .u8 v] 5)) = .ok (.string ⟨#[c]⟩) (w.alloc (.cells #[.int .u8 v] 5)) := by
  refine run_convert_bytes_back (w.alloc (.cells #[.int .u8 v] 5)) 26 9 5 ⟨g, 0, none⟩ 1 [c] Tryz.underlying26 Tryz.underlying5 Tryz.underlying9 ?_
  intro j hj
  have hj0 : j = 0 := by simpa using hj
  subst hj0
  subst hg
  rw [Addr.add_lit, World.cell?_alloc_new]
  show _ = some (u8 c)
  rw [hv]
  rfl
theorem only_set {w W : World} (h : Only none w W) {b : Nat} (hb : w.heap.size ≤ b) (j : Nat) (v : Value) : Only none w (W.setCell ⟨b, j, none⟩ v) :=
  h.fresh hb (Only.setCell (Only.refl (some (b, j, 1)) W) j v (Nat.le_refl _) (by omega))

theorem nat_and_pow (m j : Nat) : m &&& 2 ^ j = if m.testBit j then 2 ^ j else 0 := by
  apply Nat.eq_of_testBit_eq
  intro i
  rw [Nat.testBit_and, Nat.testBit_two_pow]
  by_cases h : j = i
  · subst h
    cases hb : m.testBit j <;> simp
  · cases hb : m.testBit j <;> simp [h, Nat.testBit_two_pow]
theorem bit_and (n : Int) (j : Nat) (hj : j < 62) : bits .and .i64 n ((2 ^ j : Nat) : Int) = if ((n % 18446744073709551616).toNat.testBit j) = true then ((2 ^ j : Nat) : Int) else 0 := by
  show IntKind.i64.wrap ((BitVec.ofInt 64 n &&& BitVec.ofInt 64 ((2 ^ j : Nat) : Int)).toNat : Int) = _
  have h2 : 2 ^ j < 2 ^ 62 := Nat.pow_lt_pow_right (by decide) hj
  rw [BitVec.toNat_and, BitVec.ofInt_natCast, BitVec.toNat_ofNat, Nat.mod_eq_of_lt (by omega), BitVec.toNat_ofInt, nat_and_pow]
  have e : (n % ((2 ^ 64 : Nat) : Int)).toNat = (n % 18446744073709551616).toNat := rfl
  rw [e]
  obtain ⟨p, hp⟩ : ∃ p, p = 2 ^ j := ⟨_, rfl⟩
  rw [← hp] at h2 ⊢
  cases ((n % 18446744073709551616).toNat.testBit j)
  · simp [IntKind.wrap, IntKind.bits, IntKind.signed]
  · simp only [if_true]
    rw [IntKind.wrap_i64]
    omega
theorem bit_div (n : Int) (j : Nat) (hj : j ≤ 5) : (n % 18446744073709551616).toNat.testBit j = decide (n / 2 ^ j % 2 = 1) := by
  rw [Nat.testBit_eq_decide_div_mod_eq]
  congr 1
  rcases (by omega : j = 0 ∨ j = 1 ∨ j = 2 ∨ j = 3 ∨ j = 4 ∨ j = 5) with rfl | rfl | rfl | rfl | rfl | rfl <;> simp only [eq_iff_iff] <;> omega
/-- a bit of a number -/
def bitN (n : Int) (j : Nat) : Bool := decide (n / 2 ^ j % 2 = 1)
theorem and_bit (n : Int) (j : Nat) (hj : j ≤ 5) : bits .and .i64 n ((2 ^ j : Nat) : Int) = if bitN n j = true then ((2 ^ j : Nat) : Int) else 0 := by
  rw [bit_and n j (by omega), bit_div n j hj]
  rfl
theorem and_one64 (n : Int) : bits .and .i64 n 1 = n % 2 := by
  have h := and_bit n 0 (by decide)
  have e : n / 2 ^ 0 = n := by simp
  unfold bitN at h
  rw [e] at h
  refine Eq.trans h ?_
  by_cases hb : n % 2 = 1
  · simp [hb]
  · simp [hb]; omega
theorem shr_bit (n : Int) (j m : Nat) (hm : m = 2 ^ j) : bits .and .i64 (n / (m : Int)) 1 = if bitN n j = true then 1 else 0 := by
  subst hm
  rw [and_one64]
  unfold bitN
  have e : ((2 ^ j : Nat) : Int) = 2 ^ j := by simp
  rw [e]
  by_cases hb : n / 2 ^ j % 2 = 1
  · simp [hb]
  · simp [hb]; omega

/-- the flags that stand ahead of place k -/
def flagP (b0 b1 b2 b3 b4 : Bool) : Nat → Bytes
  | 0 => []
  | 1 => if b0 then [45] else []
  | 2 => (if b0 then [45] else []) ++ (if b1 then [43] else [])
  | 3 => (if b0 then [45] else []) ++ (if b1 then [43] else []) ++ (if b2 then [35] else [])
  | 4 => (if b0 then [45] else []) ++ (if b1 then [43] else []) ++ (if b2 then [35] else []) ++ (if b3 then [32] else [])
  | _ => flagB b0 b1 b2 b3 b4
/-- the reference's flags by bits, width and precision -/
def sfOf (b0 b1 b2 b3 b4 : Bool) (r : Nat) (p : Option Nat) : SF := ⟨r, p.getD 0, decide (r ≠ 0), p.isSome, b0, b1, b2, b3, b4 && !b0⟩
/-- the format, without its verb -/
def fmtOf (b0 b1 b2 b3 b4 : Bool) (r : Nat) (p : Option Nat) : Bytes := 37 :: (flagB b0 b1 b2 b3 b4 ++ (widB r ++ precB (p.map dec)))
/-- a width or a precision -/
def widOf (n : Int) : Nat := if n < 0 then 0 else (n % 200).toNat
def precOf (n : Int) : Option Nat := if n < 0 then none else some (n % 200).toNat

end Go.Proofs.YtcbliojofnigdaaGreatDoor
