/- doPrintf: small laws, where the walk is, a cut inside a block. -/
import Derived.Test.YtcbliojofnigdaaGreatDoorTName
import Derived.Test.YtcbliojofnigdaaGreatDoorFrame
import Derived.Deep.DeepCutAuto
import Derived.WalkMore
import Derived.Deep.RegionWith
namespace Go.Proofs.YtcbliojofnigdaaGreatDoor
open Go Go.Proofs Go.RowKit

theorem no_verb : ByteArray.mk (lit "%!(NOVERB)").toArray = ⟨#[37, 33, 40, 78, 79, 86, 69, 82, 66, 41]⟩ := by decide +kernel
theorem bt_extract (t : ByteArray) (i : Nat) (h : i < t.size) : 0 < (t.extract i t.size).size ∧ bt (t.extract i t.size) 0 = bt t i := by
  have hs : 0 < (t.extract i t.size).size := by rw [ByteArray.size_extract]; omega
  refine ⟨hs, ?_⟩
  rw [← bt_eq (t.extract i t.size) 0 hs, ← bt_eq t i h]
  rw [ByteArray.getElem_extract]
  simp
theorem bad_prec : ByteArray.mk (lit "%!(BADPREC)").toArray = ⟨#[37, 33, 40, 66, 65, 68, 80, 82, 69, 67, 41]⟩ := by decide +kernel
theorem writeLit {b : Nat} {w : World} {s : PS} {v : Value} {ib : List Value} (h : PP b w s v ib) (x : String) (a : Array UInt8) (ha : ByteArray.mk (lit x).toArray = ⟨a⟩) (hl : Fits (s.out.length + (lit x).length)) :
    Calls Tryz.prog 76 #[.pointer (some ⟨b, 0, none⟩), .string ⟨a⟩] w (Wrote b w s v ib (lit x)) := by
  rw [← ha]
  simpa using writeString_any h ⟨(lit x).toArray⟩ hl.room
theorem bad_width : ByteArray.mk (lit "%!(BADWIDTH)").toArray = ⟨#[37, 33, 40, 66, 65, 68, 87, 73, 68, 84, 72, 41]⟩ := by decide +kernel
theorem intFrom_zero (l : List Arg) (k : Nat) : (intFrom l k).2.1 = false → (intFrom l k).1 = 0 := by
  unfold intFrom
  split
  · intro _; rfl
  · split
    · intro _; rfl
    · split
      · intro _; rfl
      · intro h; cases h
theorem forVerb_ok {f : Fl} (h : FlOk f) (r : Int) : FlOk (f.forVerb r) := by unfold Fl.forVerb; split <;> exact h
theorem flOk_zero : FlOk {} := ⟨Int.le_refl _, by decide, Int.le_refl _, by decide⟩
theorem ext_self (t : ByteArray) (i : Nat) : (t.extract i i).data.toList = [] := List.eq_nil_of_length_eq_zero (by
  rw [Array.length_toList]
  show (t.extract i i).size = 0
  rw [ByteArray.size_extract]; omega)

/-- printArg's contract for one argument -/
def PaOk (b : Nat) (pa : Arg → Int → Fl → Option Bytes) (y : Arg) : Prop := ∀ (w : World) (s : PS) (v : Value) (ib : List Value) (x : Value) (r : Int) (u : Bytes), PP b w s v ib → s.err = false → FlOk s.fl → ArgIs b w v x y →
  0 ≤ r → r ≤ 127 → pa y r s.fl = some u → Fits (s.out.length + u.length + 1000000000) → Calls Tryz.prog 78 #[.pointer (some ⟨b, 0, none⟩), x, .int .i32 r] w (WroteI b w s v u)

/-- where the walk is: the printer in its state, all else as it was, the reader's places -/
def At (b : Nat) (w0 : World) (v0 : Value) (t : ByteArray) (l : List Arg) (w : World) (d : D) : Prop := ∃ v ib, PP b w d.s v ib ∧ Fr b w0 v0 w v ∧ DOk t l d

theorem wp_cutB {P : Program} {s : Code} {n : Nat} {K : Act → World → Prop} {Q' : Exit → Act → World → Prop} {a : Act} {w : World} (R : Act → World → Prop)
    (rest : ∀ a' w', R a' w' → K a' w')
    (first : ∀ (J K' : Act → World → Prop), (∀ a' w', R a' w' → J a' w') → (∀ a' w', Met J a' w' → K' a' w') → s.wp P (Exit.inBlock n (Exit.then K' Q')) a w) : s.wp P (Exit.inBlock n (Exit.then K Q')) a w := by
  refine wp_mono (first R R (fun _ _ q => q) (fun _ _ q => q)) ?_
  intro e a' w' hq
  cases e with
  | normal => exact rest _ _ hq
  | exit id =>
    have hq' : if id = n then R a' w' else Q' (.exit id) a' w' := hq
    show if id = n then K a' w' else Q' (.exit id) a' w'
    by_cases h : id = n
    · rw [if_pos h] at hq' ⊢; exact rest _ _ hq'
    · rw [if_neg h] at hq' ⊢; exact hq'
  | goto l => exact hq
  | ret => exact hq
  | panic ch => exact hq
  | outgrown => exact hq

end Go.Proofs.YtcbliojofnigdaaGreatDoor
