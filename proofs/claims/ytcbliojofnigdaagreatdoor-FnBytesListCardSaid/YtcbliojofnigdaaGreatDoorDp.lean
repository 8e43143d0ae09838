/- What doPrintf computes, in plain Lean: the reading of a format, round by round; what an argument is. -/
import Derived.Test.YtcbliojofnigdaaGreatDoorSmall
namespace Go.Proofs.YtcbliojofnigdaaGreatDoor
open Go Go.Proofs Go.RowKit

/-- an argument: integers by their type's number, kind and value; floats by their bits -/
inductive Arg where
  | nil
  | bool (x : Bool)
  | int (ty : Nat) (k : IntKind) (n : Int)
  | f32 (bits : Nat)
  | f64 (bits : Nat)
  | str (t : ByteArray)
  | bytes (t : Bytes)
  | err (t : ByteArray)
  | strg (t : ByteArray)

def lit (s : String) : Bytes := s.toUTF8.data.toList

/-- the types of integers, their kinds and names -/
def intTypes : List (Nat × IntKind × String) := [(3, .i64, "int"), (83, .i8, "int8"), (84, .i16, "int16"), (21, .i32, "int32"), (2, .i64, "int64"), (88, .u64, "uint"), (5, .u8, "uint8"), (156, .u16, "uint16"), (53, .u32, "uint32"), (22, .u64, "uint64"), (12, .u64, "uintptr")]

/-- a slice that holds bytes outside the printer's block and its text -/
def Out (b : Nat) (w : World) (v : Value) (x : Value) (t : Bytes) : Prop := RBuf w x t ∧ ∀ k o c, place x = some (k, o, c) → k ≠ b ∧ ∀ o1 c1, place v ≠ some (k, o1, c1)
theorem Out.held {b : Nat} {w : World} {v x : Value} {t : Bytes} (h : Out b w v x t) : Held b w v x t := ⟨h.1, fun k o c hp => .inl (h.2 k o c hp)⟩
theorem Out.step {b : Nat} {w w' : World} {v v' : Value} {x : Value} {t : Bytes} (h : Out b w v x t) (hf : Fr b w v w' v') : Out b w' v' x t := by
  obtain ⟨hb, hq⟩ := h
  rcases hb with ⟨rfl, rfl⟩ | ⟨k, o, c, cs, e, fr, rfl, hbb, h1, h2, h3, h4⟩
  · exact ⟨.inl ⟨rfl, rfl⟩, fun _ _ _ he => by cases he⟩
  · obtain ⟨q1, q2⟩ := hq k o c rfl
    refine ⟨.inr ⟨k, o, c, cs, e, fr, rfl, by rw [hf.same k (lt_of_heap hbb) q1 q2]; exact hbb, h1, h2, h3, h4⟩, fun k' o' c' he => ?_⟩
    cases he
    refine ⟨q1, fun o1 c1 hv => ?_⟩
    rcases hf.plc k o1 c1 hv with ⟨o2, c2, h5⟩ | h5
    · exact q2 o2 c2 h5
    · have := lt_of_heap hbb
      omega

/-- the value x is the argument a (bytes: outside the printer's block and its text) -/
def ArgIs (b : Nat) (w : World) (v : Value) (x : Value) : Arg → Prop
  | .nil => x = .nilIface
  | .bool y => x = .iface 4 (.bool y)
  | .int ty k n => x = .iface ty (.int k n) ∧ (∃ nm, (ty, k, nm) ∈ intTypes) ∧ k.min ≤ n ∧ n ≤ k.max
  | .f32 y => x = .iface 149 (.float .f32 y) ∧ y < 4294967296
  | .f64 y => x = .iface 151 (.float .f64 y) ∧ y < 18446744073709551616
  | .str t => x = .iface 9 (.string t)
  | .bytes t => ∃ u, x = .iface 26 u ∧ Out b w v u t
  | .err t => x = .iface 164 (.agg #[.string t])
  | .strg t => x = .iface 165 (.agg #[.string t])

theorem ArgIs.step {b : Nat} {w w' : World} {v v' : Value} {x : Value} {a : Arg} (h : ArgIs b w v x a) (hf : Fr b w v w' v') : ArgIs b w' v' x a := by
  cases a <;> try exact h
  obtain ⟨u, h1, h2⟩ := h
  exact ⟨u, h1, h2.step hf⟩

/-- asInt -/
def Arg.num : Arg → Option Int
  | .int _ _ n => if n ≤ 9223372036854775807 then some n else none
  | _ => none
/-- typeName -/
def Arg.name : Arg → Bytes
  | .nil => lit "?"
  | .bool _ => lit "bool"
  | .int ty _ _ => match intTypes.find? (fun x => x.1 == ty) with | some x => lit x.2.2 | none => lit "?"
  | .f32 _ => lit "float32"
  | .f64 _ => lit "float64"
  | .str _ => lit "string"
  | .bytes _ => lit "[]uint8"
  | .err _ => lit "fmtprint.textError"
  | .strg _ => lit "fmtprint.textStringer"

/-- intFromArg -/
def intFrom (l : List Arg) (k : Nat) : Int × Bool × Nat :=
  match l[k]? with
  | none => (0, false, k)
  | some a =>
    match a.num with
    | none => (0, false, k + 1)
    | some n => if tooLargeB n then (0, false, k + 1) else (n, true, k + 1)

/-- parseArgNumber: from place i on -/
def panFrom (u : ByteArray) : Nat → Nat → Int × Nat × Bool
  | 0, _ => (0, 1, false)
  | f + 1, i =>
    if i < u.size then
      if bt u i = 93 then
        let r := parsenumM u 1 i
        if r.2.1 = false ∨ r.2.2 ≠ i then (0, i + 1, false) else ((r.1 : Int) - 1, i + 1, true)
      else panFrom u f (i + 1)
    else (0, 1, false)
def panM (u : ByteArray) : Int × Nat × Bool := if u.size < 3 then (0, 1, false) else panFrom u u.size 1

/-- where doPrintf is: the printer, the place in the format, the next argument, whether an index came last -/
structure D where
  s : PS
  i : Nat
  k : Nat
  af : Bool

def PS.put (s : PS) (x : Bytes) : PS := { s with out := s.out ++ x }
def D.put (d : D) (x : Bytes) : D := { d with s := d.s.put x }

/-- argNumber -/
def idxD (t : ByteArray) (n : Nat) (d : D) : D :=
  if t.size ≤ d.i ∨ bt t d.i ≠ 91 then { d with af := false }
  else
    let r := panM (t.extract d.i t.size)
    if r.2.2 = true ∧ 0 ≤ r.1 ∧ r.1 < n then ⟨{ d.s with reord := true }, d.i + r.2.1, r.1.toNat, true⟩
    else ⟨{ d.s with reord := true, good := false }, d.i + r.2.1, d.k, r.2.2⟩

def Fl.setWid (f : Fl) (n : Int) (p : Bool) : Fl := { f with wid := n, widP := p }
def Fl.setPrec (f : Fl) (n : Int) (p : Bool) : Fl := { f with prec := n, precP := p }
/-- a width below 0 -/
def Fl.negWid (f : Fl) : Fl := if f.wid < 0 then { f with wid := -f.wid, minus := true, zero := false } else f
/-- a precision below 0 -/
def Fl.negPrec (f : Fl) : Fl := if f.prec < 0 then { f with prec := 0, precP := false } else f
def PS.setFl (s : PS) (f : Fl) : PS := { s with fl := f }
def PS.bad (s : PS) (c : Bool) : PS := if c then { s with good := false } else s

/-- the width -/
def widD (t : ByteArray) (l : List Arg) (d : D) : D :=
  if d.i < t.size ∧ bt t d.i = 42 then
    let r := intFrom l d.k
    ⟨(if r.2.1 then d.s else d.s.put (lit "%!(BADWIDTH)")).setFl (d.s.fl.setWid r.1 r.2.1).negWid, d.i + 1, r.2.2, false⟩
  else
    let r := parsenumM t d.i t.size
    ⟨(d.s.setFl (d.s.fl.setWid r.1 r.2.1)).bad (d.af && r.2.1), r.2.2, d.k, d.af⟩

/-- the precision, behind its point and its index -/
def precD1 (t : ByteArray) (l : List Arg) (d : D) : D :=
  if d.i < t.size ∧ bt t d.i = 42 then
    let r := intFrom l d.k
    let f := (d.s.fl.setPrec r.1 r.2.1).negPrec
    ⟨(if f.precP then d.s else d.s.put (lit "%!(BADPREC)")).setFl f, d.i + 1, r.2.2, false⟩
  else
    let r := parsenumM t d.i t.size
    ⟨d.s.setFl (if r.2.1 then d.s.fl.setPrec r.1 true else d.s.fl.setPrec 0 true), r.2.2, d.k, d.af⟩
/-- the precision -/
def precD (t : ByteArray) (l : List Arg) (d : D) : D :=
  if d.i + 1 < t.size ∧ bt t d.i = 46 then precD1 t l (idxD t l.length ⟨d.s.bad d.af, d.i + 1, d.k, d.af⟩) else d
/-- a third index -/
def idx2D (t : ByteArray) (n : Nat) (d : D) : D := if d.af then d else idxD t n d

/-- the verb v sets two flags -/
def Fl.forV (f : Fl) : Fl := { f with sharpV := f.sharp, sharp := false, plusV := f.plus, plus := false }
def Fl.forVerb (f : Fl) (r : Int) : Fl := if r = 118 then f.forV else f

section
variable (t : ByteArray) (l : List Arg) (pa : Arg → Int → Fl → Option Bytes) (next fin : D → Option Bytes)

/-- an argument by a verb -/
def argD (r : Int) (d : D) : Option Bytes :=
  match l[d.k]? with
  | none => none
  | some a =>
    match pa a r (d.s.fl.forVerb r) with
    | none => none
    | some x => next ⟨(d.s.setFl (d.s.fl.forVerb r)).put x, d.i, d.k + 1, d.af⟩

/-- the verb (its byte, below 128) and what is written by it -/
def verbD (d : D) : Option Bytes :=
  if t.size ≤ d.i then fin (d.put (lit "%!(NOVERB)"))
  else if 128 ≤ bt t d.i then none
  else
    let r := bt t d.i
    let d := { d with i := d.i + 1 }
    if r = 37 then next (d.put [37])
    else if d.s.good = false then next (d.put (bangB r badIndexT))
    else if l.length ≤ d.k then next (d.put (bangB r missingT))
    else if r = 119 then none
    else argD l pa next r d

/-- the end of the text that begins at i -/
def txtEnd : Nat → Nat → Nat
  | 0, i => i
  | f + 1, i => if i < t.size ∧ bt t i ≠ 37 then txtEnd f (i + 1) else i

/-- the flag that a byte sets -/
def Fl.flag (f : Fl) (c : Int) : Fl :=
  if c = 35 then { f with sharp := true } else if c = 48 then { f with zero := true } else if c = 43 then { f with plus := true } else if c = 45 then { f with minus := true } else { f with space := true }
def isFlag (c : Int) : Prop := c = 35 ∨ c = 48 ∨ c = 43 ∨ c = 45 ∨ c = 32
instance (c : Int) : Decidable (isFlag c) := by unfold isFlag; infer_instance
/-- the flags -/
def flagD : Nat → D → D
  | 0, d => d
  | f + 1, d => if d.i < t.size ∧ isFlag (bt t d.i) then flagD f ⟨d.s.setFl (d.s.fl.flag (bt t d.i)), d.i + 1, d.k, d.af⟩ else d

/-- behind the flags -/
def dirD (d : D) : Option Bytes :=
  if d.i < t.size ∧ 97 ≤ bt t d.i ∧ bt t d.i ≤ 122 ∧ d.k < l.length then
    if bt t d.i = 119 then none else argD l pa next (bt t d.i) { d with i := d.i + 1 }
  else verbD t l pa next fin (idx2D t l.length (precD t l (widD t l (idxD t l.length d))))

/-- behind the text -/
def pctD (d : D) : Option Bytes :=
  if t.size ≤ d.i then fin d
  else dirD t l pa next fin (flagD t t.size ⟨d.s.setFl {}, d.i + 1, d.k, d.af⟩)

/-- the text -/
def txtD (d : D) : D :=
  let j := txtEnd t (t.size - d.i) d.i
  ⟨({ d.s with good := true }).put ((t.extract d.i j).data.toList), j, d.k, d.af⟩
end

/-- the arguments that are too many -/
def extras (pa : Arg → Int → Fl → Option Bytes) : Bool → List Arg → Option Bytes
  | _, [] => some []
  | first, a :: r =>
    match (match a with | .nil => some (lit "<nil>") | a => (pa a 118 {}).map (fun x => a.name ++ (61 :: x))), extras pa false r with
    | some x, some y => some ((if first then [] else [44, 32]) ++ x ++ y)
    | _, _ => none

/-- behind the format -/
def finD (l : List Arg) (pa : Arg → Int → Fl → Option Bytes) (d : D) : Option Bytes :=
  if d.s.reord = false ∧ d.k < l.length then (extras pa true (l.drop d.k)).map (fun x => d.s.out ++ lit "%!(EXTRA " ++ x ++ [41]) else some d.s.out

/-- doPrintf -/
def dpM (t : ByteArray) (l : List Arg) (pa : Arg → Int → Fl → Option Bytes) : Nat → D → Option Bytes
  | 0, d => if d.i < t.size then none else finD l pa d
  | f + 1, d => if d.i < t.size then pctD t l pa (dpM t l pa f) (finD l pa) (txtD t d) else finD l pa d

end Go.Proofs.YtcbliojofnigdaaGreatDoor
