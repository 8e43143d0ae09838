/- doPrintf: small laws, where the walk is, a cut inside a block. doPrintf: laws for what stands behind the format. -/
import Derived.Test.YtcbliojofnigdaaGreatDoorTName
import Derived.Test.YtcbliojofnigdaaGreatDoorFrame
import Derived.Deep.DeepCutAuto
import Derived.WalkMore
import Derived.Deep.RegionWith
import Derived.Stop.IfaceNil
namespace Go.Proofs.YtcbliojofnigdaaGreatDoor
open Go Go.Proofs Go.RowKit

theorem no_verb : ByteArray.mk (lit "%!(NOVERB)").toArray = ⟨#[37, 33, 40, 78, 79, 86, 69, 82, 66, 41]⟩ := by decide +kernel
theorem bt_extract (t : ByteArray) (i : Nat) (h : i < t.size) : 0 < (t.extract i t.size).size ∧ bt (t.extract i t.size) 0 = bt t i := by
  have hs : 0 < (t.extract i t.size).size := by rw [ByteArray.size_extract]; omega
  refine ⟨hs, ?_⟩
  rw [← bt_eq (t.extract i t.size) 0 hs, ← bt_eq t i h]
  rw [ByteArray.getElem_extract]
  simp
theorem bad_prec : ByteArray.mk (lit "%!(BADPREC)").toArray = ⟨#[37, 33, 40, 66, 65, 68, 80, 82, 69, 67, 41]⟩ := by decide +kernel
theorem writeLit {b : Nat} {w : World} {s : PS} {v : Value} {ib : List Value} (h : PP b w s v ib) (x : String) (a : Array UInt8) (ha : ByteArray.mk (lit x).toArray = ⟨a⟩) (hl : Fits (s.out.length + (lit x).length)) :
    Calls Tryz.prog 76 #[.pointer (some ⟨b, 0, none⟩), .string ⟨a⟩] w (Wrote b w s v ib (lit x)) := by
  rw [← ha]
  simpa using writeString_any h ⟨(lit x).toArray⟩ hl.room
theorem bad_width : ByteArray.mk (lit "%!(BADWIDTH)").toArray = ⟨#[37, 33, 40, 66, 65, 68, 87, 73, 68, 84, 72, 41]⟩ := by decide +kernel
theorem intFrom_zero (l : List Arg) (k : Nat) : (intFrom l k).2.1 = false → (intFrom l k).1 = 0 := by
  unfold intFrom
  split
  · intro _; rfl
  · split
    · intro _; rfl
    · split
      · intro _; rfl
      · intro h; cases h
theorem forVerb_ok {f : Fl} (h : FlOk f) (r : Int) : FlOk (f.forVerb r) := by unfold Fl.forVerb; split <;> exact h
theorem flOk_zero : FlOk {} := ⟨Int.le_refl _, by decide, Int.le_refl _, by decide⟩
theorem ext_self (t : ByteArray) (i : Nat) : (t.extract i i).data.toList = [] := List.eq_nil_of_length_eq_zero (by
  rw [Array.length_toList]
  show (t.extract i i).size = 0
  rw [ByteArray.size_extract]; omega)

/-- printArg's contract for one argument -/
def PaOk (b : Nat) (pa : Arg → Int → Fl → Option Bytes) (y : Arg) : Prop := ∀ (w : World) (s : PS) (v : Value) (ib : List Value) (x : Value) (r : Int) (u : Bytes), PP b w s v ib → s.err = false → FlOk s.fl → ArgIs b w v x y →
  0 ≤ r → r ≤ 127 → pa y r s.fl = some u → Fits (s.out.length + u.length + 1000000000) → Calls Tryz.prog 78 #[.pointer (some ⟨b, 0, none⟩), x, .int .i32 r] w (WroteI b w s v u)

/-- the same, where all is as it was at w0 but for the printer and its text -/
def PaAt (b : Nat) (w0 : World) (v0 : Value) (pa : Arg → Int → Fl → Option Bytes) (y : Arg) : Prop := ∀ (w : World) (s : PS) (v : Value) (ib : List Value) (x : Value) (r : Int) (u : Bytes), PP b w s v ib → Fr b w0 v0 w v → s.err = false → FlOk s.fl → ArgIs b w v x y →
  0 ≤ r → r ≤ 127 → pa y r s.fl = some u → Fits (s.out.length + u.length + 1000000000) → Calls Tryz.prog 78 #[.pointer (some ⟨b, 0, none⟩), x, .int .i32 r] w (WroteI b w s v u)
/-- what lay at w0 lies there still; the printer and its text are newer -/
structure Old (w0 : World) (b : Nat) (w : World) (v : Value) : Prop where
  same : ∀ k, k < w0.heap.size → w.heap[k]? = w0.heap[k]?
  far : w0.heap.size ≤ b
  plc : ∀ k o c, place v = some (k, o, c) → w0.heap.size ≤ k
theorem Old.step {w0 w w' : World} {b : Nat} {v v' : Value} (h : Old w0 b w v) (hs : w0.heap.size ≤ w.heap.size) (k : Fr b w v w' v') : Old w0 b w' v' := by
  refine ⟨fun i hi => ?_, h.far, fun i o c hp => ?_⟩
  · rw [k.same i (by omega) (by have := h.far; omega) (fun o c hp => by have := h.plc i o c hp; omega)]
    exact h.same i hi
  · rcases k.plc i o c hp with ⟨o1, c1, h1⟩ | h1
    · exact h.plc i o1 c1 h1
    · omega
theorem Old.from {w0 W w : World} {b : Nat} {v : Value} (h : Only none w0 W) (hb : w0.heap.size ≤ b) (k : Fr b W (.slice none 0 0) w v) : Old w0 b w v :=
  Old.step (v := .slice none 0 0) ⟨fun i hi => h.other i hi (fun _ _ _ he => by cases he), hb, fun _ _ _ hp => by cases hp⟩ h.size k
theorem Old.mono {w0 w1 w : World} {b : Nat} {v : Value} (h : Old w1 b w v) (k : Only none w0 w1) : Old w0 b w v :=
  ⟨fun i hi => (h.same i (Nat.lt_of_lt_of_le hi k.size)).trans (k.other i hi (fun _ _ _ he => by cases he)), Nat.le_trans k.size h.far, fun i o c hp => Nat.le_trans k.size (h.plc i o c hp)⟩
theorem Old.cell {w0 w : World} {b : Nat} {v : Value} (h : Old w0 b w v) {a : Addr} (ha : a.block < w0.heap.size) : w.cell? a = w0.cell? a := World.cell?_of_block (h.same a.block ha)
theorem Old.alloc {w0 w : World} {b : Nat} {v : Value} (h : Old w0 b w v) (hs : w0.heap.size ≤ w.heap.size) (o : Obj) : Old w0 b (w.alloc o) v := h.step hs ((Fr.refl _ _ _).alloc o)
/-- printArg's contract for one argument, where what lay at w0 lies there still -/
def PaRel (w0 : World) (pa : Arg → Int → Fl → Option Bytes) (y : Arg) : Prop := ∀ (b : Nat) (w : World) (s : PS) (v : Value) (ib : List Value) (x : Value) (r : Int) (u : Bytes), PP b w s v ib → Old w0 b w v → s.err = false → FlOk s.fl → ArgIs b w v x y →
  0 ≤ r → r ≤ 127 → pa y r s.fl = some u → Fits (s.out.length + u.length + 1000000000) → Calls Tryz.prog 78 #[.pointer (some ⟨b, 0, none⟩), x, .int .i32 r] w (WroteI b w s v u)
theorem PaRel.mono {w0 w1 : World} {pa : Arg → Int → Fl → Option Bytes} {y : Arg} (h : PaRel w0 pa y) (k : Only none w0 w1) : PaRel w1 pa y :=
  fun b w s v ib x r u h1 h2 => h b w s v ib x r u h1 (h2.mono k)
theorem PaRel.at {w0 W : World} {b : Nat} {pa : Arg → Int → Fl → Option Bytes} {y : Arg} (h : PaRel w0 pa y) (k : Only none w0 W) (hb : w0.heap.size ≤ b) : PaAt b W (.slice none 0 0) pa y :=
  fun w s v ib x r u h1 h2 => h b w s v ib x r u h1 (Old.from k hb h2)
theorem PaOk.rel {pa : Arg → Int → Fl → Option Bytes} {y : Arg} (h : ∀ b, PaOk b pa y) (w0 : World) : PaRel w0 pa y :=
  fun b w s v ib x r u h1 _ => h b w s v ib x r u h1

/-- where the walk is: the printer in its state, all else as it was, the reader's places -/
def At (b : Nat) (w0 : World) (v0 : Value) (t : ByteArray) (l : List Arg) (w : World) (d : D) : Prop := ∃ v ib, PP b w d.s v ib ∧ Fr b w0 v0 w v ∧ DOk t l d

theorem wp_cutB {P : Program} {s : Code} {n : Nat} {K : Act → World → Prop} {Q' : Exit → Act → World → Prop} {a : Act} {w : World} (R : Act → World → Prop)
    (rest : ∀ a' w', R a' w' → K a' w')
    (first : ∀ (J K' : Act → World → Prop), (∀ a' w', R a' w' → J a' w') → (∀ a' w', Met J a' w' → K' a' w') → s.wp P (Exit.inBlock n (Exit.then K' Q')) a w) : s.wp P (Exit.inBlock n (Exit.then K Q')) a w := by
  refine wp_mono (first R R (fun _ _ q => q) (fun _ _ q => q)) ?_
  intro e a' w' hq
  cases e with
  | normal => exact rest _ _ hq
  | exit id =>
    have hq' : if id = n then R a' w' else Q' (.exit id) a' w' := hq
    show if id = n then K a' w' else Q' (.exit id) a' w'
    by_cases h : id = n
    · rw [if_pos h] at hq' ⊢; exact rest _ _ hq'
    · rw [if_neg h] at hq' ⊢; exact hq'
  | goto l => exact hq
  | ret => exact hq
  | panic ch => exact hq
  | outgrown => exact hq

theorem ArgIs.held {b : Nat} {w : World} {v x : Value} {a : Arg} (h : ArgIs b w v x a) (hn : a ≠ .nil) : ∃ t u, x = .iface t u := by
  cases a with
  | nil => exact absurd rfl hn
  | bool y => exact ⟨_, _, h⟩
  | f32 y => exact ⟨_, _, h.1⟩
  | f64 y => exact ⟨_, _, h.1⟩
  | str y => exact ⟨_, _, h⟩
  | bytes y => obtain ⟨u, h, _⟩ := h; exact ⟨_, _, h⟩
  | err y => exact ⟨_, _, h⟩
  | strg y => exact ⟨_, _, h⟩
  | int ty k n => exact ⟨_, _, h.1⟩

def exElem (pa : Arg → Int → Fl → Option Bytes) (a : Arg) : Option Bytes := match a with | .nil => some (lit "<nil>") | a => (pa a 118 {}).map (fun x => a.name ++ (61 :: x))
theorem extras_cons {pa : Arg → Int → Fl → Option Bytes} {first : Bool} {a : Arg} {r : List Arg} {z : Bytes} (h : extras pa first (a :: r) = some z) :
    ∃ x y, exElem pa a = some x ∧ extras pa false r = some y ∧ z = (if first then [] else [44, 32]) ++ x ++ y := by
  cases a <;>
  · simp only [extras] at h
    split at h
    · rename_i x y h1 h2
      exact ⟨x, y, h1, h2, (Option.some.inj h).symm⟩
    · cases h
theorem exElem_held {pa : Arg → Int → Fl → Option Bytes} {a : Arg} {x : Bytes} (h : exElem pa a = some x) (hn : a ≠ .nil) : ∃ y, pa a 118 {} = some y ∧ x = a.name ++ [61] ++ y := by
  unfold exElem at h
  cases a with
  | nil => exact absurd rfl hn
  | _ =>
    simp only [Option.map_eq_some_iff] at h
    obtain ⟨y, h1, h2⟩ := h
    exact ⟨y, h1, by rw [← h2]; simp⟩
theorem exElem_nil {pa : Arg → Int → Fl → Option Bytes} {x : Bytes} (h : exElem pa .nil = some x) : x = lit "<nil>" := (Option.some.inj h).symm
theorem finD_extra {l : List Arg} {pa : Arg → Int → Fl → Option Bytes} {d : D} {out : Bytes} (h : finD l pa d = some out) (h1 : d.s.reord = false) (h2 : d.k < l.length) : ∃ z, extras pa true (l.drop d.k) = some z ∧ d.s.out ++ lit "%!(EXTRA " ++ z ++ [41] = out := by
  unfold finD at h
  rw [if_pos ⟨h1, h2⟩] at h
  simp only [Option.map_eq_some_iff] at h
  exact h
theorem finD_same {l : List Arg} {pa : Arg → Int → Fl → Option Bytes} {d : D} {out : Bytes} (h : finD l pa d = some out) (h1 : ¬ (d.s.reord = false ∧ d.k < l.length)) : d.s.out = out := by
  unfold finD at h
  rw [if_neg h1] at h
  exact Option.some.inj h
theorem extra_lit : ByteArray.mk (lit "%!(EXTRA ").toArray = ⟨#[37, 33, 40, 69, 88, 84, 82, 65, 32]⟩ := by decide +kernel
theorem nil_lit : ByteArray.mk (lit "<nil>").toArray = ⟨#[60, 110, 105, 108, 62]⟩ := by decide +kernel
theorem comma_lit : ByteArray.mk (lit ", ").toArray = ⟨#[44, 32]⟩ := by decide +kernel
theorem comma_is : lit ", " = [44, 32] := by decide +kernel

end Go.Proofs.YtcbliojofnigdaaGreatDoor
