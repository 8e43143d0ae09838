/- The printer's readers of a format: numbers, indexes. What they answer, in plain Lean, and that the code answers so. The printer's small helpers. What doPrintf computes, in plain Lean: the reading of a format, round by round; what an argument is. Plain laws of doPrintf's model, and where the arguments lie. doPrintf's model only adds to the text. doPrintf's frame: 560 slots, seven of them known, written out again (printed by tools/gen_frame.py). The printer's readers: asInt, intFromArg, a verb below 128. -/
import Derived.Test.YtcbliojofnigdaaGreatDoorState
import Derived.LoopTactic
import Derived.Test.YtcbliojofnigdaaGreatDoorPadB
namespace Go.Proofs.YtcbliojofnigdaaGreatDoor
open Go Go.Proofs Go.RowKit

/-- the byte at a place, as a number -/
def bt (s : ByteArray) (i : Nat) : Int := ((s.get! i).toNat : Int)
theorem bt_eq (s : ByteArray) (i : Nat) (h : i < s.size) : ((s[i]'h).toNat : Int) = bt s i := by
  have e : s.get! i = s[i]'h := by
    cases s with
    | mk d => exact getElem!_pos d i h
  rw [bt, e]
theorem bt_nonneg (s : ByteArray) (i : Nat) : 0 ≤ bt s i := by unfold bt; omega
theorem bt_le (s : ByteArray) (i : Nat) : bt s i ≤ 255 := by
  unfold bt
  have := UInt8.toNat_lt (s.get! i)
  omega

/-- tooLarge -/
def tooLargeB (x : Int) : Bool := decide (1000000 < x) || decide (x < -1000000)

set_option maxRecDepth 100000 in
set_option maxHeartbeats 400000 in
theorem tooLarge_any (x : Int) (w : World) : Calls Tryz.prog 101 #[.int .i64 x] w fun e w' => e = .returned (.bool (tooLargeB x)) ∧ w = w' := by
  rcases (by omega : 1000000 < x ∨ x < -1000000 ∨ (x ≤ 1000000 ∧ -1000000 ≤ x)) with c | c | c
  · have e : tooLargeB x = true := by simp [tooLargeB, c]
    rw [e]
    go_enter Tryz.func101, Tryz.ntmps101
    go_wp2
    go_ret
    exact ⟨rfl, rfl⟩
  · have e : tooLargeB x = true := by simp [tooLargeB, c]
    have c' : ¬ 1000000 < x := by omega
    rw [e]
    go_enter Tryz.func101, Tryz.ntmps101
    go_wp2
    go_ret
    exact ⟨rfl, rfl⟩
  · have e : tooLargeB x = false := by simp [tooLargeB]; omega
    have c1 : ¬ 1000000 < x := by omega
    have c2 : ¬ x < -1000000 := by omega
    rw [e]
    clear c
    go_enter Tryz.func101, Tryz.ntmps101
    go_wp2
    go_ret
    exact ⟨rfl, rfl⟩

/-- parsenum's loop, from place i on -/
def pnum (s : ByteArray) (e : Nat) : Nat → Nat → Nat → Bool → Nat × Bool × Nat
  | 0, i, n, b => (n, b, i)
  | f + 1, i, n, b =>
    if i < e ∧ 48 ≤ bt s i ∧ bt s i ≤ 57 then (if 1000000 < n then (0, false, e) else pnum s e f (i + 1) (n * 10 + (bt s i - 48).toNat) true) else (n, b, i)

/-- parsenum -/
def parsenumM (s : ByteArray) (st e : Nat) : Nat × Bool × Nat := if e ≤ st then (0, false, e) else pnum s e (e - st) st 0 false

theorem pnum_step (s : ByteArray) (e f i n : Nat) (b : Bool) (hf : e - i ≤ f) (hi : i < e) (h1 : 48 ≤ bt s i) (h2 : bt s i ≤ 57) (hn : n ≤ 1000000) : pnum s e f i n b = pnum s e (f - 1) (i + 1) (n * 10 + (bt s i - 48).toNat) true := by
  obtain ⟨f, rfl⟩ : ∃ g, f = g + 1 := ⟨f - 1, by omega⟩
  rw [pnum, if_pos ⟨hi, h1, h2⟩, if_neg (by omega)]
  rfl
theorem pnum_large (s : ByteArray) (e f i n : Nat) (b : Bool) (hf : e - i ≤ f) (hi : i < e) (h1 : 48 ≤ bt s i) (h2 : bt s i ≤ 57) (hn : 1000000 < n) : pnum s e f i n b = (0, false, e) := by
  obtain ⟨f, rfl⟩ : ∃ g, f = g + 1 := ⟨f - 1, by omega⟩
  rw [pnum, if_pos ⟨hi, h1, h2⟩, if_pos hn]
theorem pnum_stop (s : ByteArray) (e f i n : Nat) (b : Bool) (h : ¬ (i < e ∧ 48 ≤ bt s i ∧ bt s i ≤ 57)) : pnum s e f i n b = (n, b, i) := by
  cases f with
  | zero => rfl
  | succ f => rw [pnum, if_neg h]

/-- parsenum answers so -/
def PnAns (r : Nat × Bool × Nat) (w : World) (e : Ending) (w' : World) : Prop := e = .returned (.tuple #[.int .i64 r.1, .bool r.2.1, .int .i64 r.2.2]) ∧ w = w'

set_option maxRecDepth 100000 in
set_option maxHeartbeats 1000000 in
theorem parsenum_any (s : ByteArray) (st e : Nat) (w : World) (he : e ≤ s.size) (hs : s.size ≤ 140737488355328) :
    Calls Tryz.prog 81 #[.string s, .int .i64 st, .int .i64 e] w (PnAns (parsenumM s st e) w) := by
  have hsz : (s.size : Int) ≤ 9223372036854775807 := by omega
  clear hs
  by_cases hse : e ≤ st
  · have hr : parsenumM s st e = (0, false, e) := by rw [parsenumM, if_pos hse]
    rw [hr]
    have c : ¬ ((st : Int) < e) := by omega
    go_enter Tryz.func81, Tryz.ntmps81
    go_wp2
    go_ret3
    exact ⟨rfl, rfl⟩
  · have hr : parsenumM s st e = pnum s e (e - st) st 0 false := by rw [parsenumM, if_neg hse]
    rw [hr]
    obtain ⟨R, hR⟩ : ∃ R, R = pnum s e (e - st) st 0 false := ⟨_, rfl⟩
    rw [← hR]
    have HR := Lib.hid hR
    clear hr hR
    have c : ((st : Int) < e) := by omega
    go_enter Tryz.func81, Tryz.ntmps81
    go_wp2
    go_loop [6, 7, 8] (fun a b c => ∃ (i n f : Nat) (is : Bool), a = .int .i64 n ∧ b = .bool is ∧ c = .int .i64 i ∧ st ≤ i ∧ i ≤ e ∧ n ≤ 10000009 ∧ e - i ≤ f ∧ Hid (R = pnum s e f i n is)) (fun _ _ c => e - (intOf c).toNat)
    case atStart => exact ⟨st, 0, e - st, false, rfl, rfl, rfl, Nat.le_refl _, by omega, by omega, Nat.le_refl _, HR.out⟩
    case round =>
      obtain ⟨i, n, f, is, rfl, rfl, rfl, h1, h2, h3, h4, H⟩ := hrel
      by_cases hlt : i < e
      · have hb := bt_eq s i (by omega)
        have hb0 := bt_nonneg s i
        have hb1 := bt_le s i
        generalize hc : bt s i = c at *
        have HC := Lib.hid hc
        clear hc
        by_cases d1 : 48 ≤ c
        · by_cases d2 : c ≤ 57
          · by_cases dn : 1000000 < n
            · have ht : tooLargeB n = true := by simp [tooLargeB]; omega
              have P := pnum_large s e f i n is h4 hlt (by rw [HC.out]; exact d1) (by rw [HC.out]; exact d2) dn
              have HP := Lib.hid P
              clear P
              go_wp2_with (go_at_call 101; refine (tooLarge_any _ _).mono ?_; rintro e w' ⟨rfl, rfl⟩)
              go_ret3
              exact ⟨by rw [H.out, HP.out]; rfl, rfl⟩
            · have ht : tooLargeB n = false := by simp [tooLargeB]; omega
              have P := pnum_step s e f i n is h4 hlt (by rw [HC.out]; exact d1) (by rw [HC.out]; exact d2) (by omega)
              rw [HC.out] at P
              have HP := Lib.hid P
              clear P
              go_wp2_with (go_at_call 101; refine (tooLarge_any _ _).mono ?_; rintro e w' ⟨rfl, rfl⟩)
              go_round
              case rel => exact ⟨i + 1, n * 10 + (c - 48).toNat, f - 1, true, by go_num, rfl, by go_num, by omega, by omega, by omega, by omega, H.out.trans HP.out⟩
              case measure => simp [intOf]; omega
          · have d3 : 57 < c := by omega
            have P := pnum_stop s e f i n is (by rw [HC.out]; omega)
            clear d2
            have HP := Lib.hid P
            clear P
            go_wp2
            go_ret3
            exact ⟨by rw [H.out, HP.out]; rfl, rfl⟩
        · have d3 : c < 48 := by omega
          have P := pnum_stop s e f i n is (by rw [HC.out]; omega)
          clear d1
          have HP := Lib.hid P
          clear P
          go_wp2
          go_ret3
          exact ⟨by rw [H.out, HP.out]; rfl, rfl⟩
      · have P := pnum_stop s e f i n is (by omega)
        have HP := Lib.hid P
        clear P
        go_wp2
        go_ret3
        exact ⟨by rw [H.out, HP.out]; rfl, rfl⟩

/-- a step that wrote t, and then what writes t' -/
theorem Wrote.cons {b : Nat} {w w1 : World} {s : PS} {v v1 : Value} {ib : List Value} {t t' : Bytes} (hf : Fr b w v w1 v1) {e : Ending} {w2 : World}
    (h : Wrote b w1 { s with out := s.out ++ t } v1 ib t' e w2) : Wrote b w s v ib (t ++ t') e w2 := h.append hf

def bangB (r : Int) (t : Bytes) : Bytes := [37, 33] ++ (encB r ++ t)
theorem encB_len (r : Int) : (encB r).length ≤ 4 := by
  unfold encB Lib.encodeRuneZ
  simp only [List.length_map]
  repeat' split
  all_goals simp
def badIndexT : Bytes := "(BADINDEX)".toUTF8.data.toList
def missingT : Bytes := "(MISSING)".toUTF8.data.toList

set_option maxRecDepth 100000 in
set_option maxHeartbeats 400000 in
theorem clearflags_any {b : Nat} {w : World} {s : PS} {v : Value} {ib : List Value} (h : PP b w s v ib) :
    Calls Tryz.prog 77 #[.pointer (some ⟨b, 1, none⟩)] w fun e w' => e = .returned (.tuple #[]) ∧ PP b w' { s with fl := {} } v ib ∧ Fr b w v w' v := by
  have h2 := h.c2
  have h3 := h.c3
  have h4 := h.c4
  have h5 := h.c5
  have h6 := h.c6
  have h7 := h.c7
  have h8 := h.c8
  have h9 := h.c9
  have h10 := h.c10
  have h11 := h.c11
  have h12 := h.c12
  have f2 := h.frz 2
  have f3 := h.frz 3
  have f4 := h.frz 4
  have f5 := h.frz 5
  have f6 := h.frz 6
  have f7 := h.frz 7
  have f8 := h.frz 8
  have f9 := h.frz 9
  have f10 := h.frz 10
  have f11 := h.frz 11
  have f12 := h.frz 12
  have HH := Lib.hid h
  clear h
  go_enter Tryz.func77, Tryz.ntmps77
  go_wp2
  go_end0
  have h := HH.out
  have R := ((((((((((h.setWidP false).setPrecP false).setMinus false).setPlus false).setSharp false).setSpace false).setZero false).setPlusV false).setSharpV false).setWid 0).setPrec 0
  refine ⟨rfl, R, ?_⟩
  exact ((((((((((((Fr.refl b w v).setB 2 _).setB 3 _).setB 4 _).setB 5 _).setB 6 _).setB 7 _).setB 8 _).setB 9 _).setB 10 _).setB 11 _).setB 12 _)

set_option maxRecDepth 100000 in
set_option maxHeartbeats 400000 in
theorem badArgNum_any {b : Nat} {w : World} {s : PS} {v : Value} {ib : List Value} (h : PP b w s v ib) (r : Int) (h1 : -2147483648 ≤ r) (h2 : r ≤ 2147483647) (hl : Fits (s.out.length + 16)) :
    Calls Tryz.prog 84 #[.pointer (some ⟨b, 0, none⟩), .int .i32 r] w (Wrote b w s v ib (bangB r badIndexT)) := by
  have hl' := hl
  have C := writeString_any h ⟨#[37, 33]⟩ (hl.le (show _ + 2 ≤ _ by omega)).room
  have HC := Lib.hid C
  have hle := encB_len r
  have HL := Lib.hid hle
  have HL' := Lib.hid hl'
  clear hl' C hle hl h
  go_enter Tryz.func84, Tryz.ntmps84
  go_wp2_with (go_at_call 76; refine (HC.out).mono ?_; rintro e w1 ⟨rfl, v1, hP1, hF1⟩)
  have C := writeRune_any hP1 r h1 h2 (HL'.out.le (show _ + 4 ≤ _ by simp only [List.length_append, List.length_cons, List.length_nil]; omega)).room
  clear HC
  have HC := Lib.hid C
  have HF1 := Lib.hid hF1
  clear C hF1 hP1
  go_wp2_with (go_at_call 103; refine (HC.out).mono ?_; rintro e w2 ⟨rfl, v2, hP2, hF2⟩)
  have C := writeString_any hP2 ⟨#[40, 66, 65, 68, 73, 78, 68, 69, 88, 41]⟩ (HL'.out.le (show _ + 10 ≤ _ by have := HL.out; simp only [List.length_append, List.length_cons, List.length_nil]; omega)).room
  clear HC
  have HC := Lib.hid C
  have HF2 := Lib.hid hF2
  clear C hF2 hP2
  go_wp2_with (go_at_call 76; refine (HC.out).mono ?_; rintro e w3 ⟨rfl, v3, hP3, hF3⟩)
  go_end0
  refine ⟨rfl, v3, ?_, (HF1.out.trans HF2.out).trans hF3⟩
  have e : s.out ++ bangB r badIndexT = ((s.out ++ [37, 33]) ++ encB r) ++ [40, 66, 65, 68, 73, 78, 68, 69, 88, 41] := by
    rw [show badIndexT = [40, 66, 65, 68, 73, 78, 68, 69, 88, 41] by decide +kernel]
    simp [bangB]
  rw [e]
  exact hP3

set_option maxRecDepth 100000 in
set_option maxHeartbeats 400000 in
theorem missingArg_any {b : Nat} {w : World} {s : PS} {v : Value} {ib : List Value} (h : PP b w s v ib) (r : Int) (h1 : -2147483648 ≤ r) (h2 : r ≤ 2147483647) (hl : Fits (s.out.length + 16)) :
    Calls Tryz.prog 85 #[.pointer (some ⟨b, 0, none⟩), .int .i32 r] w (Wrote b w s v ib (bangB r missingT)) := by
  have hl' := hl
  have C := writeString_any h ⟨#[37, 33]⟩ (hl.le (show _ + 2 ≤ _ by omega)).room
  have HC := Lib.hid C
  have hle := encB_len r
  have HL := Lib.hid hle
  have HL' := Lib.hid hl'
  clear hl' C hle hl h
  go_enter Tryz.func85, Tryz.ntmps85
  go_wp2_with (go_at_call 76; refine (HC.out).mono ?_; rintro e w1 ⟨rfl, v1, hP1, hF1⟩)
  have C := writeRune_any hP1 r h1 h2 (HL'.out.le (show _ + 4 ≤ _ by simp only [List.length_append, List.length_cons, List.length_nil]; omega)).room
  clear HC
  have HC := Lib.hid C
  have HF1 := Lib.hid hF1
  clear C hF1 hP1
  go_wp2_with (go_at_call 103; refine (HC.out).mono ?_; rintro e w2 ⟨rfl, v2, hP2, hF2⟩)
  have C := writeString_any hP2 ⟨#[40, 77, 73, 83, 83, 73, 78, 71, 41]⟩ (HL'.out.le (show _ + 9 ≤ _ by have := HL.out; simp only [List.length_append, List.length_cons, List.length_nil]; omega)).room
  clear HC
  have HC := Lib.hid C
  have HF2 := Lib.hid hF2
  clear C hF2 hP2
  go_wp2_with (go_at_call 76; refine (HC.out).mono ?_; rintro e w3 ⟨rfl, v3, hP3, hF3⟩)
  go_end0
  refine ⟨rfl, v3, ?_, (HF1.out.trans HF2.out).trans hF3⟩
  have e : s.out ++ bangB r missingT = ((s.out ++ [37, 33]) ++ encB r) ++ [40, 77, 73, 83, 83, 73, 78, 71, 41] := by
    rw [show missingT = [40, 77, 73, 83, 83, 73, 78, 71, 41] by decide +kernel]
    simp [bangB]
  rw [e]
  exact hP3

/-- an argument: integers by their type's number, kind and value; floats by their bits -/
inductive Arg where
  | nil
  | bool (x : Bool)
  | int (ty : Nat) (k : IntKind) (n : Int)
  | f32 (bits : Nat)
  | f64 (bits : Nat)
  | str (t : ByteArray)
  | bytes (t : Bytes)
  | err (t : ByteArray)
  | strg (t : ByteArray)

def lit (s : String) : Bytes := s.toUTF8.data.toList

/-- the types of integers, their kinds and names -/
def intTypes : List (Nat × IntKind × String) := [(3, .i64, "int"), (83, .i8, "int8"), (84, .i16, "int16"), (21, .i32, "int32"), (2, .i64, "int64"), (88, .u64, "uint"), (5, .u8, "uint8"), (156, .u16, "uint16"), (53, .u32, "uint32"), (22, .u64, "uint64"), (12, .u64, "uintptr")]

/-- a slice that holds bytes outside the printer's block and its text -/
def Out (b : Nat) (w : World) (v : Value) (x : Value) (t : Bytes) : Prop := RBuf w x t ∧ ∀ k o c, place x = some (k, o, c) → k ≠ b ∧ ∀ o1 c1, place v ≠ some (k, o1, c1)
theorem Out.held {b : Nat} {w : World} {v x : Value} {t : Bytes} (h : Out b w v x t) : Held b w v x t := ⟨h.1, fun k o c hp => .inl (h.2 k o c hp)⟩
theorem Out.step {b : Nat} {w w' : World} {v v' : Value} {x : Value} {t : Bytes} (h : Out b w v x t) (hf : Fr b w v w' v') : Out b w' v' x t := by
  obtain ⟨hb, hq⟩ := h
  rcases hb with ⟨rfl, rfl⟩ | ⟨k, o, c, cs, e, fr, rfl, hbb, h1, h2, h3, h4⟩
  · exact ⟨.inl ⟨rfl, rfl⟩, fun _ _ _ he => by cases he⟩
  · obtain ⟨q1, q2⟩ := hq k o c rfl
    refine ⟨.inr ⟨k, o, c, cs, e, fr, rfl, by rw [hf.same k (lt_of_heap hbb) q1 q2]; exact hbb, h1, h2, h3, h4⟩, fun k' o' c' he => ?_⟩
    cases he
    refine ⟨q1, fun o1 c1 hv => ?_⟩
    rcases hf.plc k o1 c1 hv with ⟨o2, c2, h5⟩ | h5
    · exact q2 o2 c2 h5
    · have := lt_of_heap hbb
      omega

/-- the value x is the argument a (bytes: outside the printer's block and its text) -/
def ArgIs (b : Nat) (w : World) (v : Value) (x : Value) : Arg → Prop
  | .nil => x = .nilIface
  | .bool y => x = .iface 4 (.bool y)
  | .int ty k n => x = .iface ty (.int k n) ∧ (∃ nm, (ty, k, nm) ∈ intTypes) ∧ k.min ≤ n ∧ n ≤ k.max
  | .f32 y => x = .iface 149 (.float .f32 y) ∧ y < 4294967296
  | .f64 y => x = .iface 151 (.float .f64 y) ∧ y < 18446744073709551616
  | .str t => x = .iface 9 (.string t)
  | .bytes t => ∃ u, x = .iface 26 u ∧ Out b w v u t
  | .err t => x = .iface 164 (.agg #[.string t])
  | .strg t => x = .iface 165 (.agg #[.string t])

theorem ArgIs.step {b : Nat} {w w' : World} {v v' : Value} {x : Value} {a : Arg} (h : ArgIs b w v x a) (hf : Fr b w v w' v') : ArgIs b w' v' x a := by
  cases a <;> try exact h
  obtain ⟨u, h1, h2⟩ := h
  exact ⟨u, h1, h2.step hf⟩

/-- asInt -/
def Arg.num : Arg → Option Int
  | .int _ _ n => if n ≤ 9223372036854775807 then some n else none
  | _ => none
/-- typeName -/
def Arg.name : Arg → Bytes
  | .nil => lit "?"
  | .bool _ => lit "bool"
  | .int ty _ _ => match intTypes.find? (fun x => x.1 == ty) with | some x => lit x.2.2 | none => lit "?"
  | .f32 _ => lit "float32"
  | .f64 _ => lit "float64"
  | .str _ => lit "string"
  | .bytes _ => lit "[]uint8"
  | .err _ => lit "fmtprint.textError"
  | .strg _ => lit "fmtprint.textStringer"

/-- intFromArg -/
def intFrom (l : List Arg) (k : Nat) : Int × Bool × Nat :=
  match l[k]? with
  | none => (0, false, k)
  | some a =>
    match a.num with
    | none => (0, false, k + 1)
    | some n => if tooLargeB n then (0, false, k + 1) else (n, true, k + 1)

/-- parseArgNumber: from place i on -/
def panFrom (u : ByteArray) : Nat → Nat → Int × Nat × Bool
  | 0, _ => (0, 1, false)
  | f + 1, i =>
    if i < u.size then
      if bt u i = 93 then
        let r := parsenumM u 1 i
        if r.2.1 = false ∨ r.2.2 ≠ i then (0, i + 1, false) else ((r.1 : Int) - 1, i + 1, true)
      else panFrom u f (i + 1)
    else (0, 1, false)
def panM (u : ByteArray) : Int × Nat × Bool := if u.size < 3 then (0, 1, false) else panFrom u u.size 1

/-- where doPrintf is: the printer, the place in the format, the next argument, whether an index came last -/
structure D where
  s : PS
  i : Nat
  k : Nat
  af : Bool

def PS.put (s : PS) (x : Bytes) : PS := { s with out := s.out ++ x }
def D.put (d : D) (x : Bytes) : D := { d with s := d.s.put x }

/-- argNumber -/
def idxD (t : ByteArray) (n : Nat) (d : D) : D :=
  if t.size ≤ d.i ∨ bt t d.i ≠ 91 then { d with af := false }
  else
    let r := panM (t.extract d.i t.size)
    if r.2.2 = true ∧ 0 ≤ r.1 ∧ r.1 < n then ⟨{ d.s with reord := true }, d.i + r.2.1, r.1.toNat, true⟩
    else ⟨{ d.s with reord := true, good := false }, d.i + r.2.1, d.k, r.2.2⟩

def Fl.setWid (f : Fl) (n : Int) (p : Bool) : Fl := { f with wid := n, widP := p }
def Fl.setPrec (f : Fl) (n : Int) (p : Bool) : Fl := { f with prec := n, precP := p }
/-- a width below 0 -/
def Fl.negWid (f : Fl) : Fl := if f.wid < 0 then { f with wid := -f.wid, minus := true, zero := false } else f
/-- a precision below 0 -/
def Fl.negPrec (f : Fl) : Fl := if f.prec < 0 then { f with prec := 0, precP := false } else f
def PS.setFl (s : PS) (f : Fl) : PS := { s with fl := f }
def PS.bad (s : PS) (c : Bool) : PS := if c then { s with good := false } else s

/-- the width -/
def widD (t : ByteArray) (l : List Arg) (d : D) : D :=
  if d.i < t.size ∧ bt t d.i = 42 then
    let r := intFrom l d.k
    ⟨(if r.2.1 then d.s else d.s.put (lit "%!(BADWIDTH)")).setFl (d.s.fl.setWid r.1 r.2.1).negWid, d.i + 1, r.2.2, false⟩
  else
    let r := parsenumM t d.i t.size
    ⟨(d.s.setFl (d.s.fl.setWid r.1 r.2.1)).bad (d.af && r.2.1), r.2.2, d.k, d.af⟩

/-- the precision, behind its point and its index -/
def precD1 (t : ByteArray) (l : List Arg) (d : D) : D :=
  if d.i < t.size ∧ bt t d.i = 42 then
    let r := intFrom l d.k
    let f := (d.s.fl.setPrec r.1 r.2.1).negPrec
    ⟨(if f.precP then d.s else d.s.put (lit "%!(BADPREC)")).setFl f, d.i + 1, r.2.2, false⟩
  else
    let r := parsenumM t d.i t.size
    ⟨d.s.setFl (if r.2.1 then d.s.fl.setPrec r.1 true else d.s.fl.setPrec 0 true), r.2.2, d.k, d.af⟩
/-- the precision -/
def precD (t : ByteArray) (l : List Arg) (d : D) : D :=
  if d.i + 1 < t.size ∧ bt t d.i = 46 then precD1 t l (idxD t l.length ⟨d.s.bad d.af, d.i + 1, d.k, d.af⟩) else d
/-- a third index -/
def idx2D (t : ByteArray) (n : Nat) (d : D) : D := if d.af then d else idxD t n d

/-- the verb v sets two flags -/
def Fl.forV (f : Fl) : Fl := { f with sharpV := f.sharp, sharp := false, plusV := f.plus, plus := false }
def Fl.forVerb (f : Fl) (r : Int) : Fl := if r = 118 then f.forV else f

section
variable (t : ByteArray) (l : List Arg) (pa : Arg → Int → Fl → Option Bytes) (next fin : D → Option Bytes)

/-- an argument by a verb -/
def argD (r : Int) (d : D) : Option Bytes :=
  match l[d.k]? with
  | none => none
  | some a =>
    match pa a r (d.s.fl.forVerb r) with
    | none => none
    | some x => next ⟨(d.s.setFl (d.s.fl.forVerb r)).put x, d.i, d.k + 1, d.af⟩

/-- the verb (its byte, below 128) and what is written by it -/
def verbD (d : D) : Option Bytes :=
  if t.size ≤ d.i then fin (d.put (lit "%!(NOVERB)"))
  else if 128 ≤ bt t d.i then none
  else
    let r := bt t d.i
    let d := { d with i := d.i + 1 }
    if r = 37 then next (d.put [37])
    else if d.s.good = false then next (d.put (bangB r badIndexT))
    else if l.length ≤ d.k then next (d.put (bangB r missingT))
    else if r = 119 then none
    else argD l pa next r d

/-- the end of the text that begins at i -/
def txtEnd : Nat → Nat → Nat
  | 0, i => i
  | f + 1, i => if i < t.size ∧ bt t i ≠ 37 then txtEnd f (i + 1) else i

/-- the flag that a byte sets -/
def Fl.flag (f : Fl) (c : Int) : Fl :=
  if c = 35 then { f with sharp := true } else if c = 48 then { f with zero := true } else if c = 43 then { f with plus := true } else if c = 45 then { f with minus := true } else { f with space := true }
def isFlag (c : Int) : Prop := c = 35 ∨ c = 48 ∨ c = 43 ∨ c = 45 ∨ c = 32
instance (c : Int) : Decidable (isFlag c) := by unfold isFlag; infer_instance
/-- the flags -/
def flagD : Nat → D → D
  | 0, d => d
  | f + 1, d => if d.i < t.size ∧ isFlag (bt t d.i) then flagD f ⟨d.s.setFl (d.s.fl.flag (bt t d.i)), d.i + 1, d.k, d.af⟩ else d

/-- behind the flags -/
def dirD (d : D) : Option Bytes :=
  if d.i < t.size ∧ 97 ≤ bt t d.i ∧ bt t d.i ≤ 122 ∧ d.k < l.length then
    if bt t d.i = 119 then none else argD l pa next (bt t d.i) { d with i := d.i + 1 }
  else verbD t l pa next fin (idx2D t l.length (precD t l (widD t l (idxD t l.length d))))

/-- behind the text -/
def pctD (d : D) : Option Bytes :=
  if t.size ≤ d.i then fin d
  else dirD t l pa next fin (flagD t t.size ⟨d.s.setFl {}, d.i + 1, d.k, d.af⟩)

/-- the text -/
def txtD (d : D) : D :=
  let j := txtEnd t (t.size - d.i) d.i
  ⟨({ d.s with good := true }).put ((t.extract d.i j).data.toList), j, d.k, d.af⟩
end

/-- the arguments that are too many -/
def extras (pa : Arg → Int → Fl → Option Bytes) : Bool → List Arg → Option Bytes
  | _, [] => some []
  | first, a :: r =>
    match (match a with | .nil => some (lit "<nil>") | a => (pa a 118 {}).map (fun x => a.name ++ (61 :: x))), extras pa false r with
    | some x, some y => some ((if first then [] else [44, 32]) ++ x ++ y)
    | _, _ => none

/-- behind the format -/
def finD (l : List Arg) (pa : Arg → Int → Fl → Option Bytes) (d : D) : Option Bytes :=
  if d.s.reord = false ∧ d.k < l.length then (extras pa true (l.drop d.k)).map (fun x => d.s.out ++ lit "%!(EXTRA " ++ x ++ [41]) else some d.s.out

/-- doPrintf -/
def dpM (t : ByteArray) (l : List Arg) (pa : Arg → Int → Fl → Option Bytes) : Nat → D → Option Bytes
  | 0, d => if d.i < t.size then none else finD l pa d
  | f + 1, d => if d.i < t.size then pctD t l pa (dpM t l pa f) (finD l pa) (txtD t d) else finD l pa d

/-- the arguments lie in the slice a -/
def ArgsAt (b : Nat) (w : World) (v : Value) (a : Value) (l : List Arg) : Prop :=
  (l = [] ∧ a = .slice none 0 0) ∨ ∃ k o c cs e, a = .slice (some ⟨k, o, none⟩) l.length c ∧ w.heap[k]? = some (.cells cs e (0, 0)) ∧ k ≠ b ∧ (∀ o1 c1, place v ≠ some (k, o1, c1)) ∧ l.length ≤ c ∧
    ∀ j y, l[j]? = some y → ∃ x, cs[o + j]? = some x ∧ ArgIs b w v x y

theorem ArgsAt.step {b : Nat} {w w' : World} {v v' a : Value} {l : List Arg} (h : ArgsAt b w v a l) (hf : Fr b w v w' v') : ArgsAt b w' v' a l := by
  rcases h with h | ⟨k, o, c, cs, e, h1, h2, h3, h4, hc, h5⟩
  · exact .inl h
  · refine .inr ⟨k, o, c, cs, e, h1, by rw [hf.same k (lt_of_heap h2) h3 h4]; exact h2, h3, fun o1 c1 hv => ?_, hc, fun j y hy => ?_⟩
    · rcases hf.plc k o1 c1 hv with ⟨o2, c2, h6⟩ | h6
      · exact h4 o2 c2 h6
      · have := lt_of_heap h2
        omega
    · obtain ⟨x, hx, hA⟩ := h5 j y hy
      exact ⟨x, hx, hA.step hf⟩
theorem ArgsAt.slice {b : Nat} {w : World} {v a : Value} {l : List Arg} (h : ArgsAt b w v a l) : ∃ p c, a = .slice p l.length c := by
  rcases h with ⟨rfl, rfl⟩ | ⟨k, o, c, cs, e, h1, _⟩
  · exact ⟨none, 0, rfl⟩
  · exact ⟨_, _, h1⟩
theorem ArgsAt.cap {b : Nat} {w : World} {v : Value} {p : Option Addr} {n c : Nat} {l : List Arg} (h : ArgsAt b w v (.slice p n c) l) : l.length ≤ c := by
  rcases h with ⟨rfl, h⟩ | ⟨k, o, c, cs, e, h1, _, _, _, h5, _⟩
  · exact Nat.zero_le _
  · cases h1; exact h5
/-- the cell of an argument -/
theorem ArgsAt.at {b : Nat} {w : World} {v : Value} {p : Option Addr} {n c : Nat} {l : List Arg} (h : ArgsAt b w v (.slice p n c) l) {j : Nat} (hj : j < l.length) :
    ∃ k o x, p = some ⟨k, o, none⟩ ∧ k ≠ b ∧ w.cell? ⟨k, o + j, none⟩ = some x ∧ ArgIs b w v x l[j] := by
  rcases h with ⟨rfl, _⟩ | ⟨k, o, c, cs, e, h1, h2, h3, _, _, h5⟩
  · simp at hj
  · obtain ⟨x, hx, hA⟩ := h5 j l[j] (by simp [hj])
    cases h1
    exact ⟨k, o, x, rfl, h3, by simp [World.cell?, h2, hx], hA⟩

theorem parsenumM_le (t : ByteArray) (i e : Nat) : (parsenumM t i e).1 ≤ 100000000 ∧ (i ≤ e → (parsenumM t i e).2.2 ≤ e) := by
  have key : ∀ f i n b, n ≤ 10000009 → (pnum t e f i n b).1 ≤ 100000000 ∧ (i ≤ e → (pnum t e f i n b).2.2 ≤ e) := by
    intro f
    induction f with
    | zero => intro i n b hn; exact ⟨by simp only [pnum]; omega, fun h => h⟩
    | succ f ih =>
      intro i n b hn
      rw [pnum]
      split
      · split
        · exact ⟨by simp, fun _ => Nat.le_refl _⟩
        · rename_i h1 h2
          have := ih (i + 1) (n * 10 + (bt t i - 48).toNat) true (by omega)
          exact ⟨this.1, fun _ => this.2 (by omega)⟩
      · exact ⟨by simp only; omega, fun h => h⟩
  unfold parsenumM
  split
  · exact ⟨by simp, fun _ => Nat.le_refl _⟩
  · exact key _ _ _ _ (by omega)

theorem panM_le (u : ByteArray) : 1 ≤ (panM u).2.1 ∧ ((panM u).2.1 ≤ u.size ∨ ((panM u).2.1 = 1)) ∧ (panM u).1 ≤ 100000000 ∧ -1 ≤ (panM u).1 := by
  have key : ∀ f i, 1 ≤ (panFrom u f i).2.1 ∧ ((panFrom u f i).2.1 ≤ u.size ∨ ((panFrom u f i).2.1 = 1)) ∧ (panFrom u f i).1 ≤ 100000000 ∧ -1 ≤ (panFrom u f i).1 := by
    intro f
    induction f with
    | zero => intro i; simp [panFrom]
    | succ f ih =>
      intro i
      rw [panFrom]
      split
      · split
        · have := (parsenumM_le u 1 i).1
          simp only
          split
          · refine ⟨by simp, ?_, by simp, by simp⟩
            simp only; omega
          · refine ⟨by simp, ?_, ?_, ?_⟩ <;> simp only <;> omega
        · exact ih _
      · simp
  unfold panM
  split
  · simp
  · exact key _ _

/-- what holds of the reader wherever it is -/
structure DOk (t : ByteArray) (l : List Arg) (d : D) : Prop where
  i : d.i ≤ t.size
  k : d.k ≤ l.length
  fl : FlOk d.s.fl
  err : d.s.err = false

theorem idxD_ok {t : ByteArray} {l : List Arg} {d : D} (h : DOk t l d) : DOk t l (idxD t l.length d) := by
  unfold idxD
  split
  · exact ⟨h.i, h.k, h.fl, h.err⟩
  · rename_i hc
    have hp := panM_le (t.extract d.i t.size)
    have hsz : (t.extract d.i t.size).size = t.size - d.i := by rw [ByteArray.size_extract]; omega
    rw [hsz] at hp
    simp only
    split
    · refine ⟨?_, ?_, h.fl, h.err⟩ <;> simp only <;> omega
    · refine ⟨?_, h.k, h.fl, h.err⟩
      simp only; omega

theorem intFrom_le (l : List Arg) (k : Nat) (h : k ≤ l.length) : -1000000 ≤ (intFrom l k).1 ∧ (intFrom l k).1 ≤ 1000000 ∧ k ≤ (intFrom l k).2.2 ∧ (intFrom l k).2.2 ≤ l.length := by
  unfold intFrom
  split
  · simp; omega
  · rename_i a ha
    have hk : k < l.length := by
      rcases Nat.lt_or_ge k l.length with h1 | h1
      · exact h1
      · rw [List.getElem?_eq_none h1] at ha; cases ha
    split
    · simp; omega
    · rename_i n hn
      split
      · simp; omega
      · rename_i ht
        have : tooLargeB n = false := by simpa using ht
        simp only [tooLargeB, Bool.or_eq_false_iff, decide_eq_false_iff_not] at this
        simp only
        omega

theorem FlOk.setWid {f : Fl} (h : FlOk f) (n : Int) (p : Bool) (h1 : -100000000 ≤ n) (h2 : n ≤ 100000000) : FlOk (f.setWid n p).negWid := by
  unfold Fl.negWid
  split <;> rename_i hc <;> simp only [Fl.setWid] at hc ⊢ <;> exact ⟨by simp only; omega, by simp only; omega, h.2.2.1, h.2.2.2⟩
theorem FlOk.setPrec {f : Fl} (h : FlOk f) (n : Int) (p : Bool) (h2 : n ≤ 100000000) : FlOk (f.setPrec n p).negPrec := by
  unfold Fl.negPrec
  split <;> rename_i hc <;> simp only [Fl.setPrec] at hc ⊢ <;> exact ⟨h.1, h.2.1, by simp only; omega, by simp only; omega⟩

theorem PS.bad_fl (s : PS) (c : Bool) : (s.bad c).fl = s.fl := by unfold PS.bad; split <;> rfl
theorem PS.bad_err (s : PS) (c : Bool) : (s.bad c).err = s.err := by unfold PS.bad; split <;> rfl
theorem PS.bad_out (s : PS) (c : Bool) : (s.bad c).out = s.out := by unfold PS.bad; split <;> rfl

theorem widD_ok {t : ByteArray} {l : List Arg} {d : D} (h : DOk t l d) : DOk t l (widD t l d) := by
  unfold widD
  split
  · rename_i hc
    have hi := intFrom_le l d.k h.k
    refine ⟨by simp only; omega, by simp only; omega, ?_, ?_⟩
    · simp only [PS.setFl]
      exact h.fl.setWid _ _ (by omega) (by omega)
    · simp only [PS.setFl]
      split <;> exact h.err
  · have hp := parsenumM_le t d.i t.size
    refine ⟨hp.2 h.i, h.k, ?_, ?_⟩
    · simp only [PS.bad_fl, PS.setFl]
      exact ⟨by simp only [Fl.setWid]; omega, by simp only [Fl.setWid]; omega, h.fl.2.2.1, h.fl.2.2.2⟩
    · simp only [PS.bad_err, PS.setFl]
      exact h.err

theorem precD1_ok {t : ByteArray} {l : List Arg} {d : D} (h : DOk t l d) : DOk t l (precD1 t l d) := by
  unfold precD1
  split
  · rename_i hc
    have hi := intFrom_le l d.k h.k
    refine ⟨by simp only; omega, by simp only; omega, ?_, ?_⟩
    · simp only [PS.setFl]
      exact h.fl.setPrec _ _ (by omega)
    · simp only [PS.setFl]
      split <;> exact h.err
  · have hp := parsenumM_le t d.i t.size
    refine ⟨hp.2 h.i, h.k, ?_, h.err⟩
    simp only [PS.setFl]
    split <;> exact ⟨h.fl.1, h.fl.2.1, by simp only [Fl.setPrec]; omega, by simp only [Fl.setPrec]; omega⟩

theorem precD_ok {t : ByteArray} {l : List Arg} {d : D} (h : DOk t l d) : DOk t l (precD t l d) := by
  unfold precD
  split
  · rename_i hc
    refine precD1_ok (idxD_ok ⟨by simp only; omega, h.k, by simp only [PS.bad_fl]; exact h.fl, by simp only [PS.bad_err]; exact h.err⟩)
  · exact h
theorem idx2D_ok {t : ByteArray} {l : List Arg} {d : D} (h : DOk t l d) : DOk t l (idx2D t l.length d) := by
  unfold idx2D
  split
  · exact h
  · exact idxD_ok h

/-- a continuation only adds -/
def Grows (next : D → Option Bytes) : Prop := ∀ d x, next d = some x → d.s.out.length ≤ x.length

section
variable {t : ByteArray} {l : List Arg} {pa : Arg → Int → Fl → Option Bytes} {next fin : D → Option Bytes}

theorem put_out (d : D) (x : Bytes) : (d.put x).s.out.length = d.s.out.length + x.length := by simp [D.put, PS.put]
theorem idxD_out (n : Nat) (d : D) : (idxD t n d).s.out = d.s.out := by
  unfold idxD
  split
  · rfl
  · simp only
    split <;> rfl
theorem idx2D_out (n : Nat) (d : D) : (idx2D t n d).s.out = d.s.out := by unfold idx2D; split; rfl; exact idxD_out n d
theorem widD_out (d : D) : d.s.out.length ≤ (widD t l d).s.out.length := by
  unfold widD
  split
  · simp only [PS.setFl]; split
    · exact Nat.le_refl _
    · simp [PS.put]
  · simp [PS.bad_out, PS.setFl]
theorem precD_out (d : D) : d.s.out.length ≤ (precD t l d).s.out.length := by
  unfold precD
  split
  · have e : (idxD t l.length ⟨d.s.bad d.af, d.i + 1, d.k, d.af⟩).s.out = d.s.out := by rw [idxD_out]; exact PS.bad_out _ _
    rw [← e]
    unfold precD1
    split
    · simp only [PS.setFl]; split
      · exact Nat.le_refl _
      · simp [PS.put]
    · simp [PS.setFl]
  · exact Nat.le_refl _

theorem argD_some {r : Int} {d : D} {x : Bytes} (h : argD l pa next r d = some x) : ∃ y u, l[d.k]? = some y ∧ pa y r (d.s.fl.forVerb r) = some u ∧ next ⟨(d.s.setFl (d.s.fl.forVerb r)).put u, d.i, d.k + 1, d.af⟩ = some x := by
  unfold argD at h
  split at h
  · cases h
  · rename_i y hy
    split at h
    · cases h
    · rename_i u hu
      exact ⟨y, u, hy, hu, h⟩

theorem argD_out (hn : Grows next) {r : Int} {d : D} {x : Bytes} (h : argD l pa next r d = some x) : d.s.out.length ≤ x.length := by
  obtain ⟨y, u, _, _, h⟩ := argD_some h
  have := hn _ _ h
  simp only [PS.put, PS.setFl, List.length_append] at this
  omega

theorem verbD_out (hn : Grows next) (hf : Grows fin) {d : D} {x : Bytes} (h : verbD t l pa next fin d = some x) : d.s.out.length ≤ x.length := by
  unfold verbD at h
  split at h
  · have := hf _ _ h; rw [put_out] at this; omega
  · split at h
    · cases h
    · simp only at h
      split at h
      · have := hn _ _ h; rw [put_out] at this; simp only at this; omega
      · split at h
        · have := hn _ _ h; rw [put_out] at this; simp only at this; omega
        · split at h
          · have := hn _ _ h; rw [put_out] at this; simp only at this; omega
          · split at h
            · cases h
            · have := argD_out hn h; exact this

theorem dirD_out (hn : Grows next) (hf : Grows fin) {d : D} {x : Bytes} (h : dirD t l pa next fin d = some x) : d.s.out.length ≤ x.length := by
  unfold dirD at h
  split at h
  · split at h
    · cases h
    · have := argD_out hn h; exact this
  · have h1 := verbD_out hn hf h
    rw [idx2D_out] at h1
    have h2 := precD_out (t := t) (l := l) (widD t l (idxD t l.length d))
    have h3 := widD_out (t := t) (l := l) (idxD t l.length d)
    rw [idxD_out] at h3
    omega
theorem flagD_s (f : Nat) (d : D) : (flagD t f d).s.out = d.s.out := by
  induction f generalizing d with
  | zero => rfl
  | succ f ih =>
    rw [flagD]
    split
    · rw [ih]; rfl
    · rfl
theorem pctD_out (hn : Grows next) (hf : Grows fin) {d : D} {x : Bytes} (h : pctD t l pa next fin d = some x) : d.s.out.length ≤ x.length := by
  unfold pctD at h
  split at h
  · exact hf _ _ h
  · have := dirD_out hn hf h
    rw [flagD_s] at this
    exact this
end

theorem txtEnd_le (t : ByteArray) : ∀ (f i : Nat), i ≤ t.size → i ≤ txtEnd t f i ∧ txtEnd t f i ≤ t.size
  | 0, i, h => ⟨Nat.le_refl _, h⟩
  | f + 1, i, h => by
    rw [txtEnd]
    split
    · rename_i hc
      have := txtEnd_le t f (i + 1) hc.1
      omega
    · exact ⟨Nat.le_refl _, h⟩

theorem finD_grows (l : List Arg) (pa : Arg → Int → Fl → Option Bytes) : Grows (finD l pa) := by
  intro d x h
  unfold finD at h
  split at h
  · cases he : extras pa true (l.drop d.k) with
    | none => rw [he] at h; cases h
    | some y =>
      rw [he] at h
      cases h
      simp only [List.length_append]; omega
  · cases h; exact Nat.le_refl _

theorem dpM_grows (t : ByteArray) (l : List Arg) (pa : Arg → Int → Fl → Option Bytes) : ∀ f, Grows (dpM t l pa f)
  | 0 => by
    intro d x h
    rw [dpM] at h
    split at h
    · cases h
    · exact finD_grows l pa d x h
  | f + 1 => by
    intro d x h
    rw [dpM] at h
    split at h
    · have := pctD_out (dpM_grows t l pa f) (finD_grows l pa) h
      simp only [txtD, PS.put, List.length_append] at this
      omega
    · exact finD_grows l pa d x h

theorem list_spread (L : List Value) (u : Nat → Value) (hu : ∀ n, n < L.length → L[n]? = some (u n)) : L = (List.range L.length).map u := by
  apply List.ext_getElem?
  intro n
  by_cases h : n < L.length
  · rw [hu n h, List.getElem?_map, List.getElem?_range h]; rfl
  · rw [List.getElem?_eq_none (by omega), List.getElem?_eq_none (by simp; omega)]

/-- what is known of the frame -/
structure Fm (p0 p1 p2 s6 s7 s8 s9 : Value) (L : List Value) : Prop where
  len : L.length = 560
  h0 : L[0]? = some p0
  h1 : L[1]? = some p1
  h2 : L[2]? = some p2
  h6 : L[6]? = some s6
  h7 : L[7]? = some s7
  h8 : L[8]? = some s8
  h9 : L[9]? = some s9

set_option maxRecDepth 100000 in
theorem spread560 (u : Nat → Value) : (List.range 560).map u = [u 0, u 1, u 2, u 3, u 4, u 5, u 6, u 7, u 8, u 9, u 10, u 11, u 12, u 13, u 14, u 15, u 16, u 17, u 18, u 19, u 20, u 21, u 22, u 23, u 24, u 25, u 26, u 27, u 28, u 29, u 30, u 31, u 32, u 33, u 34, u 35, u 36, u 37, u 38, u 39, u 40, u 41, u 42, u 43, u 44, u 45, u 46, u 47, u 48, u 49, u 50, u 51, u 52, u 53, u 54, u 55, u 56, u 57, u 58, u 59, u 60, u 61, u 62, u 63, u 64, u 65, u 66, u 67, u 68, u 69, u 70, u 71, u 72, u 73, u 74, u 75, u 76, u 77, u 78, u 79, u 80, u 81, u 82, u 83, u 84, u 85, u 86, u 87, u 88, u 89, u 90, u 91, u 92, u 93, u 94, u 95, u 96, u 97, u 98, u 99, u 100, u 101, u 102, u 103, u 104, u 105, u 106, u 107, u 108, u 109, u 110, u 111, u 112, u 113, u 114, u 115, u 116, u 117, u 118, u 119, u 120, u 121, u 122, u 123, u 124, u 125, u 126, u 127, u 128, u 129, u 130, u 131, u 132, u 133, u 134, u 135, u 136, u 137, u 138, u 139, u 140, u 141, u 142, u 143, u 144, u 145, u 146, u 147, u 148, u 149, u 150, u 151, u 152, u 153, u 154, u 155, u 156, u 157, u 158, u 159, u 160, u 161, u 162, u 163, u 164, u 165, u 166, u 167, u 168, u 169, u 170, u 171, u 172, u 173, u 174, u 175, u 176, u 177, u 178, u 179, u 180, u 181, u 182, u 183, u 184, u 185, u 186, u 187, u 188, u 189, u 190, u 191, u 192, u 193, u 194, u 195, u 196, u 197, u 198, u 199, u 200, u 201, u 202, u 203, u 204, u 205, u 206, u 207, u 208, u 209, u 210, u 211, u 212, u 213, u 214, u 215, u 216, u 217, u 218, u 219, u 220, u 221, u 222, u 223, u 224, u 225, u 226, u 227, u 228, u 229, u 230, u 231, u 232, u 233, u 234, u 235, u 236, u 237, u 238, u 239, u 240, u 241, u 242, u 243, u 244, u 245, u 246, u 247, u 248, u 249, u 250, u 251, u 252, u 253, u 254, u 255, u 256, u 257, u 258, u 259, u 260, u 261, u 262, u 263, u 264, u 265, u 266, u 267, u 268, u 269, u 270, u 271, u 272, u 273, u 274, u 275, u 276, u 277, u 278, u 279, u 280, u 281, u 282, u 283, u 284, u 285, u 286, u 287, u 288, u 289, u 290, u 291, u 292, u 293, u 294, u 295, u 296, u 297, u 298, u 299, u 300, u 301, u 302, u 303, u 304, u 305, u 306, u 307, u 308, u 309, u 310, u 311, u 312, u 313, u 314, u 315, u 316, u 317, u 318, u 319, u 320, u 321, u 322, u 323, u 324, u 325, u 326, u 327, u 328, u 329, u 330, u 331, u 332, u 333, u 334, u 335, u 336, u 337, u 338, u 339, u 340, u 341, u 342, u 343, u 344, u 345, u 346, u 347, u 348, u 349, u 350, u 351, u 352, u 353, u 354, u 355, u 356, u 357, u 358, u 359, u 360, u 361, u 362, u 363, u 364, u 365, u 366, u 367, u 368, u 369, u 370, u 371, u 372, u 373, u 374, u 375, u 376, u 377, u 378, u 379, u 380, u 381, u 382, u 383, u 384, u 385, u 386, u 387, u 388, u 389, u 390, u 391, u 392, u 393, u 394, u 395, u 396, u 397, u 398, u 399, u 400, u 401, u 402, u 403, u 404, u 405, u 406, u 407, u 408, u 409, u 410, u 411, u 412, u 413, u 414, u 415, u 416, u 417, u 418, u 419, u 420, u 421, u 422, u 423, u 424, u 425, u 426, u 427, u 428, u 429, u 430, u 431, u 432, u 433, u 434, u 435, u 436, u 437, u 438, u 439, u 440, u 441, u 442, u 443, u 444, u 445, u 446, u 447, u 448, u 449, u 450, u 451, u 452, u 453, u 454, u 455, u 456, u 457, u 458, u 459, u 460, u 461, u 462, u 463, u 464, u 465, u 466, u 467, u 468, u 469, u 470, u 471, u 472, u 473, u 474, u 475, u 476, u 477, u 478, u 479, u 480, u 481, u 482, u 483, u 484, u 485, u 486, u 487, u 488, u 489, u 490, u 491, u 492, u 493, u 494, u 495, u 496, u 497, u 498, u 499, u 500, u 501, u 502, u 503, u 504, u 505, u 506, u 507, u 508, u 509, u 510, u 511, u 512, u 513, u 514, u 515, u 516, u 517, u 518, u 519, u 520, u 521, u 522, u 523, u 524, u 525, u 526, u 527, u 528, u 529, u 530, u 531, u 532, u 533, u 534, u 535, u 536, u 537, u 538, u 539, u 540, u 541, u 542, u 543, u 544, u 545, u 546, u 547, u 548, u 549, u 550, u 551, u 552, u 553, u 554, u 555, u 556, u 557, u 558, u 559] := rfl

set_option maxRecDepth 100000 in
theorem Fm.open {p0 p1 p2 s6 s7 s8 s9 : Value} {L : List Value} (h : Fm p0 p1 p2 s6 s7 s8 s9 L) : ∃ u : Nat → Value, L = [p0, p1, p2, u 3, u 4, u 5, s6, s7, s8, s9, u 10, u 11, u 12, u 13, u 14, u 15, u 16, u 17, u 18, u 19, u 20, u 21, u 22, u 23, u 24, u 25, u 26, u 27, u 28, u 29, u 30, u 31, u 32, u 33, u 34, u 35, u 36, u 37, u 38, u 39, u 40, u 41, u 42, u 43, u 44, u 45, u 46, u 47, u 48, u 49, u 50, u 51, u 52, u 53, u 54, u 55, u 56, u 57, u 58, u 59, u 60, u 61, u 62, u 63, u 64, u 65, u 66, u 67, u 68, u 69, u 70, u 71, u 72, u 73, u 74, u 75, u 76, u 77, u 78, u 79, u 80, u 81, u 82, u 83, u 84, u 85, u 86, u 87, u 88, u 89, u 90, u 91, u 92, u 93, u 94, u 95, u 96, u 97, u 98, u 99, u 100, u 101, u 102, u 103, u 104, u 105, u 106, u 107, u 108, u 109, u 110, u 111, u 112, u 113, u 114, u 115, u 116, u 117, u 118, u 119, u 120, u 121, u 122, u 123, u 124, u 125, u 126, u 127, u 128, u 129, u 130, u 131, u 132, u 133, u 134, u 135, u 136, u 137, u 138, u 139, u 140, u 141, u 142, u 143, u 144, u 145, u 146, u 147, u 148, u 149, u 150, u 151, u 152, u 153, u 154, u 155, u 156, u 157, u 158, u 159, u 160, u 161, u 162, u 163, u 164, u 165, u 166, u 167, u 168, u 169, u 170, u 171, u 172, u 173, u 174, u 175, u 176, u 177, u 178, u 179, u 180, u 181, u 182, u 183, u 184, u 185, u 186, u 187, u 188, u 189, u 190, u 191, u 192, u 193, u 194, u 195, u 196, u 197, u 198, u 199, u 200, u 201, u 202, u 203, u 204, u 205, u 206, u 207, u 208, u 209, u 210, u 211, u 212, u 213, u 214, u 215, u 216, u 217, u 218, u 219, u 220, u 221, u 222, u 223, u 224, u 225, u 226, u 227, u 228, u 229, u 230, u 231, u 232, u 233, u 234, u 235, u 236, u 237, u 238, u 239, u 240, u 241, u 242, u 243, u 244, u 245, u 246, u 247, u 248, u 249, u 250, u 251, u 252, u 253, u 254, u 255, u 256, u 257, u 258, u 259, u 260, u 261, u 262, u 263, u 264, u 265, u 266, u 267, u 268, u 269, u 270, u 271, u 272, u 273, u 274, u 275, u 276, u 277, u 278, u 279, u 280, u 281, u 282, u 283, u 284, u 285, u 286, u 287, u 288, u 289, u 290, u 291, u 292, u 293, u 294, u 295, u 296, u 297, u 298, u 299, u 300, u 301, u 302, u 303, u 304, u 305, u 306, u 307, u 308, u 309, u 310, u 311, u 312, u 313, u 314, u 315, u 316, u 317, u 318, u 319, u 320, u 321, u 322, u 323, u 324, u 325, u 326, u 327, u 328, u 329, u 330, u 331, u 332, u 333, u 334, u 335, u 336, u 337, u 338, u 339, u 340, u 341, u 342, u 343, u 344, u 345, u 346, u 347, u 348, u 349, u 350, u 351, u 352, u 353, u 354, u 355, u 356, u 357, u 358, u 359, u 360, u 361, u 362, u 363, u 364, u 365, u 366, u 367, u 368, u 369, u 370, u 371, u 372, u 373, u 374, u 375, u 376, u 377, u 378, u 379, u 380, u 381, u 382, u 383, u 384, u 385, u 386, u 387, u 388, u 389, u 390, u 391, u 392, u 393, u 394, u 395, u 396, u 397, u 398, u 399, u 400, u 401, u 402, u 403, u 404, u 405, u 406, u 407, u 408, u 409, u 410, u 411, u 412, u 413, u 414, u 415, u 416, u 417, u 418, u 419, u 420, u 421, u 422, u 423, u 424, u 425, u 426, u 427, u 428, u 429, u 430, u 431, u 432, u 433, u 434, u 435, u 436, u 437, u 438, u 439, u 440, u 441, u 442, u 443, u 444, u 445, u 446, u 447, u 448, u 449, u 450, u 451, u 452, u 453, u 454, u 455, u 456, u 457, u 458, u 459, u 460, u 461, u 462, u 463, u 464, u 465, u 466, u 467, u 468, u 469, u 470, u 471, u 472, u 473, u 474, u 475, u 476, u 477, u 478, u 479, u 480, u 481, u 482, u 483, u 484, u 485, u 486, u 487, u 488, u 489, u 490, u 491, u 492, u 493, u 494, u 495, u 496, u 497, u 498, u 499, u 500, u 501, u 502, u 503, u 504, u 505, u 506, u 507, u 508, u 509, u 510, u 511, u 512, u 513, u 514, u 515, u 516, u 517, u 518, u 519, u 520, u 521, u 522, u 523, u 524, u 525, u 526, u 527, u 528, u 529, u 530, u 531, u 532, u 533, u 534, u 535, u 536, u 537, u 538, u 539, u 540, u 541, u 542, u 543, u 544, u 545, u 546, u 547, u 548, u 549, u 550, u 551, u 552, u 553, u 554, u 555, u 556, u 557, u 558, u 559] := by
  obtain ⟨u, hu⟩ : ∃ u : Nat → Value, ∀ n, n < L.length → L[n]? = some (u n) := ⟨fun n => L[n]?.getD undef, fun n hn => by simp [hn]⟩
  refine ⟨u, ?_⟩
  have hl := h.len
  have e0 : u 0 = p0 := by have := hu 0 (by omega); rw [h.h0] at this; cases this; rfl
  have e1 : u 1 = p1 := by have := hu 1 (by omega); rw [h.h1] at this; cases this; rfl
  have e2 : u 2 = p2 := by have := hu 2 (by omega); rw [h.h2] at this; cases this; rfl
  have e6 : u 6 = s6 := by have := hu 6 (by omega); rw [h.h6] at this; cases this; rfl
  have e7 : u 7 = s7 := by have := hu 7 (by omega); rw [h.h7] at this; cases this; rfl
  have e8 : u 8 = s8 := by have := hu 8 (by omega); rw [h.h8] at this; cases this; rfl
  have e9 : u 9 = s9 := by have := hu 9 (by omega); rw [h.h9] at this; cases this; rfl
  have e := list_spread L u hu
  rw [hl, spread560] at e
  rw [e, e0, e1, e2, e6, e7, e8, e9]

set_option maxRecDepth 100000 in
set_option maxHeartbeats 1000000 in
theorem decode_ascii (t : ByteArray) (h : 0 < t.size) (hb : bt t 0 < 128) (w : World) : Calls Tryz.prog 82 #[.string t] w fun e w' => e = .returned (.tuple #[.int .i32 (bt t 0), .int .i64 1]) ∧ w = w' := by
  have hx := bt_eq t 0 h
  have hb0 := bt_nonneg t 0
  have hz0 : (0 : Int) < (t.size : Int) := by omega
  have hne : t.toList.isEmpty = false := by
    rw [Lib.toList_data]
    cases h' : t.data.toList with
    | nil => exact absurd (by rw [Lib.size_eq, h']; rfl) (Nat.pos_iff_ne_zero.1 h)
    | cons _ _ => rfl
  go_enter Tryz.func82, Tryz.ntmps82
  go_wp2
  go_ret2
  exact ⟨rfl, rfl⟩

end Go.Proofs.YtcbliojofnigdaaGreatDoor
