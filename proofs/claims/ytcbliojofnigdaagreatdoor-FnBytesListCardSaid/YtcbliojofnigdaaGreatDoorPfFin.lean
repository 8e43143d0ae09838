/- doPrintf: laws for what stands behind the format. -/
import Derived.Test.YtcbliojofnigdaaGreatDoorPfBase
import Derived.Stop.IfaceNil
namespace Go.Proofs.YtcbliojofnigdaaGreatDoor
open Go Go.Proofs Go.RowKit

theorem ArgIs.held {b : Nat} {w : World} {v x : Value} {a : Arg} (h : ArgIs b w v x a) (hn : a ≠ .nil) : ∃ t u, x = .iface t u := by
  cases a with
  | nil => exact absurd rfl hn
  | bool y => exact ⟨_, _, h⟩
  | f32 y => exact ⟨_, _, h.1⟩
  | f64 y => exact ⟨_, _, h.1⟩
  | str y => exact ⟨_, _, h⟩
  | bytes y => obtain ⟨u, h, _⟩ := h; exact ⟨_, _, h⟩
  | err y => exact ⟨_, _, h⟩
  | strg y => exact ⟨_, _, h⟩
  | int ty k n => exact ⟨_, _, h.1⟩

def exElem (pa : Arg → Int → Fl → Option Bytes) (a : Arg) : Option Bytes := match a with | .nil => some (lit "<nil>") | a => (pa a 118 {}).map (fun x => a.name ++ (61 :: x))
theorem extras_cons {pa : Arg → Int → Fl → Option Bytes} {first : Bool} {a : Arg} {r : List Arg} {z : Bytes} (h : extras pa first (a :: r) = some z) :
    ∃ x y, exElem pa a = some x ∧ extras pa false r = some y ∧ z = (if first then [] else [44, 32]) ++ x ++ y := by
  cases a <;>
  · simp only [extras] at h
    split at h
    · rename_i x y h1 h2
      exact ⟨x, y, h1, h2, (Option.some.inj h).symm⟩
    · cases h
theorem exElem_held {pa : Arg → Int → Fl → Option Bytes} {a : Arg} {x : Bytes} (h : exElem pa a = some x) (hn : a ≠ .nil) : ∃ y, pa a 118 {} = some y ∧ x = a.name ++ [61] ++ y := by
  unfold exElem at h
  cases a with
  | nil => exact absurd rfl hn
  | _ =>
    simp only [Option.map_eq_some_iff] at h
    obtain ⟨y, h1, h2⟩ := h
    exact ⟨y, h1, by rw [← h2]; simp⟩
theorem exElem_nil {pa : Arg → Int → Fl → Option Bytes} {x : Bytes} (h : exElem pa .nil = some x) : x = lit "<nil>" := (Option.some.inj h).symm
theorem finD_extra {l : List Arg} {pa : Arg → Int → Fl → Option Bytes} {d : D} {out : Bytes} (h : finD l pa d = some out) (h1 : d.s.reord = false) (h2 : d.k < l.length) : ∃ z, extras pa true (l.drop d.k) = some z ∧ d.s.out ++ lit "%!(EXTRA " ++ z ++ [41] = out := by
  unfold finD at h
  rw [if_pos ⟨h1, h2⟩] at h
  simp only [Option.map_eq_some_iff] at h
  exact h
theorem finD_same {l : List Arg} {pa : Arg → Int → Fl → Option Bytes} {d : D} {out : Bytes} (h : finD l pa d = some out) (h1 : ¬ (d.s.reord = false ∧ d.k < l.length)) : d.s.out = out := by
  unfold finD at h
  rw [if_neg h1] at h
  exact Option.some.inj h
theorem extra_lit : ByteArray.mk (lit "%!(EXTRA ").toArray = ⟨#[37, 33, 40, 69, 88, 84, 82, 65, 32]⟩ := by decide +kernel
theorem nil_lit : ByteArray.mk (lit "<nil>").toArray = ⟨#[60, 110, 105, 108, 62]⟩ := by decide +kernel
theorem comma_lit : ByteArray.mk (lit ", ").toArray = ⟨#[44, 32]⟩ := by decide +kernel
theorem comma_is : lit ", " = [44, 32] := by decide +kernel

end Go.Proofs.YtcbliojofnigdaaGreatDoor
