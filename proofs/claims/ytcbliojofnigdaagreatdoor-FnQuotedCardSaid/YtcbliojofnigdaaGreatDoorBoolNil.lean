/- printArg of nothing and of a bool. -/
import Derived.Test.YtcbliojofnigdaaGreatDoorOne
namespace Go.Proofs.YtcbliojofnigdaaGreatDoor
open Go Go.Proofs Go.RowKit

/-- padString of a literal -/
theorem padLit {b : Nat} {w : World} {s : PS} {v : Value} {ib : List Value} (h : PP b w s v ib) (x : String) (a : Array UInt8) (ha : ByteArray.mk (lit x).toArray = ⟨a⟩) (hf : FlOk s.fl) (hl : Fits (s.out.length + (lit x).length + s.fl.wid.toNat)) :
    Calls Tryz.prog 88 #[.pointer (some ⟨b, 1, none⟩), .string ⟨a⟩] w (Wrote b w s v ib (padM s.fl (lit x))) := by
  rw [← ha]
  have e : (ByteArray.mk (lit x).toArray).data.toList = lit x := by simp
  have es : (ByteArray.mk (lit x).toArray).size = (lit x).length := by simp [ByteArray.size]
  have := padString_any h ⟨(lit x).toArray⟩ hf (by rw [es]; exact hl)
  rw [e] at this
  exact this
theorem true_lit : ByteArray.mk (lit "true").toArray = ⟨#[116, 114, 117, 101]⟩ := by decide +kernel
theorem false_lit : ByteArray.mk (lit "false").toArray = ⟨#[102, 97, 108, 115, 101]⟩ := by decide +kernel

/-- a bool's text -/
def boolT (y : Bool) : Bytes := if y then lit "true" else lit "false"
theorem boolT_len (y : Bool) : (boolT y).length ≤ 5 := by cases y <;> decide +kernel

set_option maxRecDepth 100000 in
set_option maxHeartbeats 1000000 in
theorem fmtBoolean_any {b : Nat} {w : World} {s : PS} {v : Value} {ib : List Value} (h : PP b w s v ib) (y : Bool) (hf : FlOk s.fl) (hl : Fits (s.out.length + 5 + s.fl.wid.toNat)) :
    Calls Tryz.prog 108 #[.pointer (some ⟨b, 1, none⟩), .bool y] w (Wrote b w s v ib (padM s.fl (boolT y))) := by
  cases y
  · have C := padLit h "false" _ false_lit hf (hl.le (by have := boolT_len false; simp only [boolT] at this; simp at this; omega))
    have HC := Lib.hid C
    clear C hl hf h
    go_enter Tryz.func108, Tryz.ntmps108
    go_wp2_with (go_at_call 88; refine (HC.out).mono ?_; rintro e w' ⟨rfl, hq⟩)
    go_end0
    exact ⟨rfl, hq⟩
  · have C := padLit h "true" _ true_lit hf (hl.le (by have := boolT_len true; simp only [boolT] at this; simp at this; omega))
    have HC := Lib.hid C
    clear C hl hf h
    go_enter Tryz.func108, Tryz.ntmps108
    go_wp2_with (go_at_call 88; refine (HC.out).mono ?_; rintro e w' ⟨rfl, hq⟩)
    go_end0
    exact ⟨rfl, hq⟩

set_option maxRecDepth 100000 in
set_option maxHeartbeats 1000000 in
theorem fmtBool_any {b : Nat} {w : World} {s : PS} {v : Value} {ib : List Value} (h : PP b w s v ib) (x : Value) (y : Bool) (r : Int) (hr : r = 116 ∨ r = 118) (hf : FlOk s.fl) (hl : Fits (s.out.length + 5 + s.fl.wid.toNat)) :
    Calls Tryz.prog 91 #[.pointer (some ⟨b, 0, none⟩), x, .agg #[], .bool y, .int .i32 r] w (Wrote b w s v ib (padM s.fl (boolT y))) := by
  have C : ∀ W, PP b W s v ib → Fr b w v W v → Calls Tryz.prog 108 #[.pointer (some ⟨b, 1, none⟩), .bool y] W (Wrote b w s v ib (padM s.fl (boolT y))) := by
    intro W h1 h2
    refine (fmtBoolean_any h1 y hf hl).mono ?_
    rintro e w' ⟨rfl, v', hP, hF⟩
    exact ⟨rfl, v', hP, h2.trans hF⟩
  have HC := Lib.hid C
  have HP := Lib.hid h
  clear C hl hf h
  rcases hr with rfl | rfl
  · go_enter Tryz.func91, Tryz.ntmps91
    go_wp2_with (go_at_call 108; refine (HC.out _ (by first | exact HP.out | exact HP.out.alloc _) (by first | exact Fr.refl _ _ _ | exact (Fr.refl _ _ _).alloc _)).mono ?_; rintro e w' ⟨rfl, hq⟩)
    go_end0
    exact ⟨rfl, hq⟩
  · go_enter Tryz.func91, Tryz.ntmps91
    go_wp2_with (go_at_call 108; refine (HC.out _ (by first | exact HP.out | exact HP.out.alloc _) (by first | exact Fr.refl _ _ _ | exact (Fr.refl _ _ _).alloc _)).mono ?_; rintro e w' ⟨rfl, hq⟩)
    go_end0
    exact ⟨rfl, hq⟩

set_option maxRecDepth 100000 in
set_option maxHeartbeats 1000000 in
theorem printArg_bool {b : Nat} {w : World} {s : PS} {v : Value} {ib : List Value} (h : PP b w s v ib) (y : Bool) (r : Int) (hr : r = 116 ∨ r = 118) (hf : FlOk s.fl) (hl : Fits (s.out.length + 5 + s.fl.wid.toNat)) :
    Calls Tryz.prog 78 #[.pointer (some ⟨b, 0, none⟩), .iface 4 (.bool y), .int .i32 r] w (Wrote b w s v ib (padM s.fl (boolT y))) := by
  have C := fmtBool_any h (.iface 4 (.bool y)) y r hr hf hl
  have q := ta_4_4
  have HC := Lib.hid C
  clear C hl hf h
  rcases hr with rfl | rfl
  · go_enter Tryz.func78, Tryz.ntmps78
    go_wp2_with (go_at_call 91; refine (HC.out).mono ?_; rintro e w' ⟨rfl, hq⟩)
    go_end0
    exact ⟨rfl, hq⟩
  · go_enter Tryz.func78, Tryz.ntmps78
    go_wp2_with (go_at_call 91; refine (HC.out).mono ?_; rintro e w' ⟨rfl, hq⟩)
    go_end0
    exact ⟨rfl, hq⟩

set_option maxRecDepth 100000 in
set_option maxHeartbeats 1000000 in
theorem printArg_nil {b : Nat} {w : World} {s : PS} {v : Value} {ib : List Value} (h : PP b w s v ib) (hf : FlOk s.fl) (hl : Fits (s.out.length + 5 + s.fl.wid.toNat)) :
    Calls Tryz.prog 78 #[.pointer (some ⟨b, 0, none⟩), .nilIface, .int .i32 118] w (Wrote b w s v ib (padM s.fl (lit "<nil>"))) := by
  have C := padLit h "<nil>" _ nil_lit hf (hl.le (by rw [show (lit "<nil>").length = 5 by decide +kernel]; omega))
  have HC := Lib.hid C
  clear C hl hf h
  go_enter Tryz.func78, Tryz.ntmps78
  go_wp2_with (go_at_call 88; refine (HC.out).mono ?_; rintro e w' ⟨rfl, hq⟩)
  go_end0
  exact ⟨rfl, hq⟩

/-- what printArg writes of nothing and of a bool -/
def paBN (a : Arg) (r : Int) (f : Fl) : Option Bytes :=
  match a with
  | .nil => if r = 118 then some (padM f (lit "<nil>")) else none
  | .bool y => if r = 116 ∨ r = 118 then some (padM f (boolT y)) else none
  | _ => none
theorem wid_fits {f : Fl} (h : FlOk f) : f.wid.toNat ≤ 100000000 := by have := h.1; have := h.2.1; omega
theorem wroteI {b : Nat} {w : World} {s : PS} {v : Value} {ib : List Value} {t : Bytes} {e : Ending} {w' : World} (h : Wrote b w s v ib t e w') : WroteI b w s v t e w' := by
  obtain ⟨h1, v', h2, h3⟩ := h
  exact ⟨h1, v', ib, h2, h3⟩
theorem paBN_nil (b : Nat) : PaOk b paBN .nil := by
  intro w s v ib x r u hP _ hf hA _ _ hp hl
  have hx : x = .nilIface := hA
  subst hx
  unfold paBN at hp
  simp only at hp
  split at hp
  · rename_i hr
    subst hr
    cases hp
    have := wid_fits hf
    exact (printArg_nil hP hf (hl.le (by omega))).mono fun e w' h => wroteI h
  · cases hp
theorem paBN_bool (b : Nat) (y : Bool) : PaOk b paBN (.bool y) := by
  intro w s v ib x r u hP _ hf hA _ _ hp hl
  have hx : x = .iface 4 (.bool y) := hA
  subst hx
  unfold paBN at hp
  simp only at hp
  split at hp
  · rename_i hr
    cases hp
    have := wid_fits hf
    exact (printArg_bool hP y r hr hf (hl.le (by omega))).mono fun e w' h => wroteI h
  · cases hp

end Go.Proofs.YtcbliojofnigdaaGreatDoor
