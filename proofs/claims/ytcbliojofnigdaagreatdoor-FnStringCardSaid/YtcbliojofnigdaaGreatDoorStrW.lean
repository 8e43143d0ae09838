/- An error's and a Stringer's text, a string and bytes, by the verbs s, v, x and X: handleMethods, fmtString, fmtBytes, printArg (printed by tools/gen_strw.py). -/
import Derived.Test.YtcbliojofnigdaaGreatDoorHexW
import Derived.Test.YtcbliojofnigdaaGreatDoorTrunc
import Derived.Test.YtcbliojofnigdaaGreatDoorBytesW
import Derived.Stop.Asserts
import Derived.Deep.RegionWith
namespace Go.Proofs.YtcbliojofnigdaaGreatDoor
open Go Go.Proofs Go.RowKit

theorem ti_164_182 (v : Value) (w : World) : (Instr.typeAssert (.iface 164 v) 20 182 true).run Tryz.prog w = .ok (.tuple #[.nilIface, .bool false]) w := run_typeAssert_lacksB Tryz.underlying182 (by kernel_rfl) (by kernel_rfl) v 20 w
theorem ti_165_182 (v : Value) (w : World) : (Instr.typeAssert (.iface 165 v) 20 182 true).run Tryz.prog w = .ok (.tuple #[.nilIface, .bool false]) w := run_typeAssert_lacksB Tryz.underlying182 (by kernel_rfl) (by kernel_rfl) v 20 w
theorem ti_165_179 (v : Value) (w : World) : (Instr.typeAssert (.iface 165 v) 20 179 true).run Tryz.prog w = .ok (.tuple #[.nilIface, .bool false]) w := run_typeAssert_lacksB Tryz.underlying179 (by kernel_rfl) (by kernel_rfl) v 20 w
theorem ti_164_179 (v : Value) (w : World) : (Instr.typeAssert (.iface 164 v) 20 179 true).run Tryz.prog w = .ok (.tuple #[.iface 164 v, .bool true]) w := run_typeAssert_hasB Tryz.underlying179 (by kernel_rfl) v 20 w
theorem ti_165_189 (v : Value) (w : World) : (Instr.typeAssert (.iface 165 v) 20 189 true).run Tryz.prog w = .ok (.tuple #[.iface 165 v, .bool true]) w := run_typeAssert_hasB Tryz.underlying189 (by kernel_rfl) v 20 w

set_option maxRecDepth 100000 in
set_option maxHeartbeats 400000 in
theorem Error_any (t : ByteArray) (w : World) : Calls Tryz.prog 211 #[.agg #[.string t]] w fun e w' => e = .returned (.string t) ∧ Only none w w' := by
  go_enter Tryz.func211, Tryz.ntmps211
  go_wp2
  go_ret
  exact ⟨rfl, by first | exact Only.refl _ _ | exact (Only.refl _ _).alloc _⟩
set_option maxRecDepth 100000 in
set_option maxHeartbeats 400000 in
theorem String_text (t : ByteArray) (w : World) : Calls Tryz.prog 212 #[.agg #[.string t]] w fun e w' => e = .returned (.string t) ∧ Only none w w' := by
  go_enter Tryz.func212, Tryz.ntmps212
  go_wp2
  go_ret
  exact ⟨rfl, by first | exact Only.refl _ _ | exact (Only.refl _ _).alloc _⟩

set_option maxRecDepth 100000 in
set_option maxHeartbeats 1000000 in
theorem handleMethods_164 {b : Nat} {w : World} {s : PS} {v : Value} {ib : List Value} (h : PP b w s v ib) (he : s.err = false) (hsv : s.fl.sharpV = false) (t : ByteArray) (r : Int) (hr : r = 118 ∨ r = 115 ∨ r = 120 ∨ r = 88) {T : Bytes}
    (C : ∀ (W : World) (y : Value), Only none w W → Calls Tryz.prog 95 #[.pointer (some ⟨b, 0, none⟩), y, .agg #[], .string t, .int .i32 r] W (WroteI b w s v T)) :
    Calls Tryz.prog 97 #[.pointer (some ⟨b, 0, none⟩), .iface 164 (.agg #[.string t]), .agg #[], .int .i32 r] w fun e w' => e = .returned (.bool true) ∧ ∃ v' ib', PP b w' { s with out := s.out ++ T } v' ib' ∧ Fr b w v w' v' := by
  have c84 := h.c84
  have c10 := h.c10
  have hblt := h.lt
  rw [he] at c84
  rw [hsv] at c10
  have q182 := ti_164_182
  have q179 := ti_164_179
  have HC := Lib.hid C
  clear C h he hsv
  rcases hr with rfl | rfl | rfl | rfl
  all_goals
    go_enter Tryz.func97, Tryz.ntmps97
    go_wp2_with fail
    go_region_with (first
      | (go_at_call 211; refine (Error_any t _).mono ?_; rintro e w1 ⟨rfl, hO1⟩; have HO1 := Lib.hid hO1; clear hO1)
      | (go_at_call 95; refine (HC.out _ _ ((((Only.refl _ _).alloc _).drew).trans HO1.out)).mono ?_; rintro e w2 ⟨rfl, hq⟩; have HQ := Lib.hid hq; clear hq))
    all_goals
      go_wp2_with fail
      go_ret
      exact ⟨rfl, HQ.out⟩

set_option maxRecDepth 100000 in
set_option maxHeartbeats 1000000 in
theorem handleMethods_165 {b : Nat} {w : World} {s : PS} {v : Value} {ib : List Value} (h : PP b w s v ib) (he : s.err = false) (hsv : s.fl.sharpV = false) (t : ByteArray) (r : Int) (hr : r = 118 ∨ r = 115 ∨ r = 120 ∨ r = 88) {T : Bytes}
    (C : ∀ (W : World) (y : Value), Only none w W → Calls Tryz.prog 95 #[.pointer (some ⟨b, 0, none⟩), y, .agg #[], .string t, .int .i32 r] W (WroteI b w s v T)) :
    Calls Tryz.prog 97 #[.pointer (some ⟨b, 0, none⟩), .iface 165 (.agg #[.string t]), .agg #[], .int .i32 r] w fun e w' => e = .returned (.bool true) ∧ ∃ v' ib', PP b w' { s with out := s.out ++ T } v' ib' ∧ Fr b w v w' v' := by
  have c84 := h.c84
  have c10 := h.c10
  have hblt := h.lt
  rw [he] at c84
  rw [hsv] at c10
  have q182 := ti_165_182
  have q179 := ti_165_179
  have q189 := ti_165_189
  have HC := Lib.hid C
  clear C h he hsv
  rcases hr with rfl | rfl | rfl | rfl
  all_goals
    go_enter Tryz.func97, Tryz.ntmps97
    go_wp2_with fail
    go_region_with (first
      | (go_at_call 212; refine (String_text t _).mono ?_; rintro e w1 ⟨rfl, hO1⟩; have HO1 := Lib.hid hO1; clear hO1)
      | (go_at_call 95; refine (HC.out _ _ ((((Only.refl _ _).alloc _).drew).trans HO1.out)).mono ?_; rintro e w2 ⟨rfl, hq⟩; have HQ := Lib.hid hq; clear hq))
    all_goals
      go_wp2_with fail
      go_ret
      exact ⟨rfl, HQ.out⟩

set_option maxRecDepth 100000 in
set_option maxHeartbeats 400000 in
theorem fmtSx_any {b : Nat} {w : World} {s : PS} {v : Value} {ib : List Value} (h : PP b w s v ib) (t : ByteArray) (up : Bool) (hf : FlOk s.fl) (hl : Fits (s.out.length + 5 * t.size + s.fl.wid.toNat + s.fl.wid.toNat)) :
    Calls Tryz.prog 116 #[.pointer (some ⟨b, 1, none⟩), .string t, .string (digS up)] w (Wrote b w s v ib (hexM s.fl up t.data.toList)) := by
  have C := fmtSbx_str h t t.data.toList rfl up hf (by rw [← size_list]; exact hl)
  obtain ⟨dg, hdg⟩ : ∃ dg, dg = digS up := ⟨_, rfl⟩
  rw [← hdg] at C ⊢
  have HC := Lib.hid C
  clear C hdg hl hf h
  go_enter Tryz.func116, Tryz.ntmps116
  go_wp2_with (go_at_call 132; refine (HC.out).mono ?_; rintro e w' ⟨rfl, hq⟩)
  go_end0
  exact ⟨rfl, hq⟩
set_option maxRecDepth 100000 in
set_option maxHeartbeats 400000 in
theorem fmtBx_any {b : Nat} {w : World} {s : PS} {v : Value} {ib : List Value} (h : PP b w s v ib) (x : Value) (t : Bytes) (hx : Out b w v x t) (up : Bool) (hf : FlOk s.fl) (hl : Fits (s.out.length + 5 * t.length + s.fl.wid.toNat + s.fl.wid.toNat)) :
    Calls Tryz.prog 118 #[.pointer (some ⟨b, 1, none⟩), x, .string (digS up)] w (Wrote b w s v ib (hexM s.fl up t)) := by
  have C : Calls Tryz.prog 132 #[.pointer (some ⟨b, 1, none⟩), .string ⟨#[]⟩, x, .string (digS up)] w (Wrote b w s v ib (hexM s.fl up t)) := by
    have hx1 := hx.1
    rcases hx1 with ⟨rfl, rfl⟩ | ⟨k, o, c, cs, e, fr, rfl, _⟩
    · exact fmtSbx_str h ⟨#[]⟩ [] rfl up hf hl
    · exact fmtSbx_sl h k o c t hx up hf hl
  obtain ⟨dg, hdg⟩ : ∃ dg, dg = digS up := ⟨_, rfl⟩
  rw [← hdg] at C ⊢
  have HC := Lib.hid C
  clear C hdg hl hf hx h
  go_enter Tryz.func118, Tryz.ntmps118
  go_wp2_with (go_at_call 132; refine (HC.out).mono ?_; rintro e w' ⟨rfl, hq⟩)
  go_end0
  exact ⟨rfl, hq⟩

/-- a text by the verbs s, v, x and X -/
def strM (f : Fl) (r : Int) (t : Bytes) : Bytes := if r = 118 ∨ r = 115 then padM f (truncB f t) else hexM f (decide (r = 88)) t
/-- the verbs of texts -/
def strV (r : Int) : Prop := r = 118 ∨ r = 115 ∨ r = 120 ∨ r = 88

set_option maxRecDepth 100000 in
set_option maxHeartbeats 1000000 in
theorem fmtString_any {b : Nat} {w : World} {s : PS} {v : Value} {ib : List Value} (h : PP b w s v ib) (x : Value) (t : ByteArray) (r : Int) (hr : strV r) (hsv : s.fl.sharpV = false) (hf : FlOk s.fl) (hp : s.fl.precP = true → 0 ≤ s.fl.prec ∧ s.fl.prec ≤ 1000000) (hl : Fits (s.out.length + 5 * t.size + s.fl.wid.toNat + s.fl.wid.toNat)) :
    Calls Tryz.prog 95 #[.pointer (some ⟨b, 0, none⟩), x, .agg #[], .string t, .int .i32 r] w (WroteI b w s v (strM s.fl r t.data.toList)) := by
  by_cases hr2 : r = 118 ∨ r = 115
  · unfold strM
    rw [if_pos hr2]
    exact fmtString_sv h x t r hr2 hsv hf hp (hl.le (by omega))
  · have e0 : digS false = ⟨#[48, 49, 50, 51, 52, 53, 54, 55, 56, 57, 97, 98, 99, 100, 101, 102, 120]⟩ := rfl
    have e1 : digS true = ⟨#[48, 49, 50, 51, 52, 53, 54, 55, 56, 57, 65, 66, 67, 68, 69, 70, 88]⟩ := rfl
    unfold strM
    rw [if_neg hr2]
    have hblt := h.lt
    have C : ∀ (up : Bool) (W : World), PP b W s v ib → Fr b w v W v → Calls Tryz.prog 116 #[.pointer (some ⟨b, 1, none⟩), .string t, .string (digS up)] W (WroteI b w s v (hexM s.fl up t.data.toList)) := by
      intro up W hP hF
      refine (fmtSx_any hP t up hf hl).mono ?_
      rintro e w' ⟨he, v', h1, h2⟩
      exact ⟨he, v', ib, h1, hF.trans h2⟩
    have HP := Lib.hid h
    unfold strV at hr
    rcases hr with rfl | rfl | rfl | rfl
    · exact absurd (.inl rfl) hr2
    · exact absurd (.inr rfl) hr2
    · have C1 := C false
      rw [e0] at C1
      have HC := Lib.hid C1
      clear C C1 e0 e1 h hl hp hf hsv hr2
      go_enter Tryz.func95, Tryz.ntmps95
      go_wp2_with (go_at_call 116; refine (HC.out _ (by first | exact HP.out | exact HP.out.alloc _) (by first | exact Fr.refl _ _ _ | exact (Fr.refl _ _ _).alloc _)).mono ?_; rintro e w' ⟨rfl, hq⟩)
      go_end0
      exact ⟨rfl, hq⟩
    · have C1 := C true
      rw [e1] at C1
      have HC := Lib.hid C1
      clear C C1 e0 e1 h hl hp hf hsv hr2
      go_enter Tryz.func95, Tryz.ntmps95
      go_wp2_with (go_at_call 116; refine (HC.out _ (by first | exact HP.out | exact HP.out.alloc _) (by first | exact Fr.refl _ _ _ | exact (Fr.refl _ _ _).alloc _)).mono ?_; rintro e w' ⟨rfl, hq⟩)
      go_end0
      exact ⟨rfl, hq⟩

set_option maxRecDepth 100000 in
set_option maxHeartbeats 1000000 in
theorem fmtBytes_sx {b : Nat} {w : World} {s : PS} {v : Value} {ib : List Value} (h : PP b w s v ib) (x : Value) (t : Bytes) (hx : Out b w v x t) (r : Int) (hr : r = 115 ∨ r = 120 ∨ r = 88) (nm : ByteArray) (hf : FlOk s.fl) (hp : s.fl.precP = true → 0 ≤ s.fl.prec ∧ s.fl.prec ≤ 1000000) (hT : Tabs w) (hl : Fits (s.out.length + 5 * t.length + s.fl.wid.toNat + s.fl.wid.toNat)) :
    Calls Tryz.prog 96 #[.pointer (some ⟨b, 0, none⟩), x, .int .i32 r, .string nm] w (WroteI b w s v (strM s.fl r t)) := by
  have e0 : digS false = ⟨#[48, 49, 50, 51, 52, 53, 54, 55, 56, 57, 97, 98, 99, 100, 101, 102, 120]⟩ := rfl
  have e1 : digS true = ⟨#[48, 49, 50, 51, 52, 53, 54, 55, 56, 57, 65, 66, 67, 68, 69, 70, 88]⟩ := rfl
  have hblt := h.lt
  have C117 := (fmtBs_any h x t hx hf hp hT (hl.le (by omega))).mono fun e w' hq => hq.toI
  have C118 := fun up => (fmtBx_any h x t hx up hf hl).mono fun e w' hq => hq.toI
  have HC := Lib.hid C117
  unfold strM
  rcases hr with rfl | rfl | rfl
  · rw [if_pos (.inr rfl)]
    clear C117 C118 e0 e1 h hl hp hf hT hx
    go_enter Tryz.func96, Tryz.ntmps96
    go_wp2_with (go_at_call 117; refine (HC.out).mono ?_; rintro e w' ⟨rfl, hq⟩)
    go_end0
    exact ⟨rfl, hq⟩
  · rw [if_neg (by decide)]
    have C1 := C118 false
    rw [e0] at C1
    have HC1 := Lib.hid C1
    clear C1 C117 C118 e0 e1 h hl hp hf hT hx HC
    go_enter Tryz.func96, Tryz.ntmps96
    go_wp2_with (go_at_call 118; refine (HC1.out).mono ?_; rintro e w' ⟨rfl, hq⟩)
    go_end0
    exact ⟨rfl, hq⟩
  · rw [if_neg (by decide)]
    have C1 := C118 true
    rw [e1] at C1
    have HC1 := Lib.hid C1
    clear C1 C117 C118 e0 e1 h hl hp hf hT hx HC
    go_enter Tryz.func96, Tryz.ntmps96
    go_wp2_with (go_at_call 118; refine (HC1.out).mono ?_; rintro e w' ⟨rfl, hq⟩)
    go_end0
    exact ⟨rfl, hq⟩

set_option maxRecDepth 100000 in
set_option maxHeartbeats 1000000 in
theorem printArg_164 {b : Nat} {w : World} {s : PS} {v : Value} (t : ByteArray) (r : Int) (hv1 : ¬ r = 84) (hv2 : ¬ r = 112) {T : Bytes}
    (C : Calls Tryz.prog 97 #[.pointer (some ⟨b, 0, none⟩), .iface 164 (.agg #[.string t]), .agg #[], .int .i32 r] w fun e w' => e = .returned (.bool true) ∧ ∃ v' ib', PP b w' { s with out := s.out ++ T } v' ib' ∧ Fr b w v w' v') :
    Calls Tryz.prog 78 #[.pointer (some ⟨b, 0, none⟩), .iface 164 (.agg #[.string t]), .int .i32 r] w (WroteI b w s v T) := by
  have q4 := ta_164_4
  have q149 := ta_164_149
  have q151 := ta_164_151
  have q152 := ta_164_152
  have q154 := ta_164_154
  have q3 := ta_164_3
  have q83 := ta_164_83
  have q84 := ta_164_84
  have q21 := ta_164_21
  have q2 := ta_164_2
  have q88 := ta_164_88
  have q5 := ta_164_5
  have q156 := ta_164_156
  have q53 := ta_164_53
  have q22 := ta_164_22
  have q12 := ta_164_12
  have q9 := ta_164_9
  have q26 := ta_164_26
  have HC := Lib.hid C
  clear C
  go_enter Tryz.func78, Tryz.ntmps78
  go_wp2_with (go_at_call 97; refine (HC.out).mono ?_; rintro e w' ⟨rfl, hq⟩)
  go_end0
  exact ⟨rfl, hq⟩

set_option maxRecDepth 100000 in
set_option maxHeartbeats 1000000 in
theorem printArg_165 {b : Nat} {w : World} {s : PS} {v : Value} (t : ByteArray) (r : Int) (hv1 : ¬ r = 84) (hv2 : ¬ r = 112) {T : Bytes}
    (C : Calls Tryz.prog 97 #[.pointer (some ⟨b, 0, none⟩), .iface 165 (.agg #[.string t]), .agg #[], .int .i32 r] w fun e w' => e = .returned (.bool true) ∧ ∃ v' ib', PP b w' { s with out := s.out ++ T } v' ib' ∧ Fr b w v w' v') :
    Calls Tryz.prog 78 #[.pointer (some ⟨b, 0, none⟩), .iface 165 (.agg #[.string t]), .int .i32 r] w (WroteI b w s v T) := by
  have q4 := ta_165_4
  have q149 := ta_165_149
  have q151 := ta_165_151
  have q152 := ta_165_152
  have q154 := ta_165_154
  have q3 := ta_165_3
  have q83 := ta_165_83
  have q84 := ta_165_84
  have q21 := ta_165_21
  have q2 := ta_165_2
  have q88 := ta_165_88
  have q5 := ta_165_5
  have q156 := ta_165_156
  have q53 := ta_165_53
  have q22 := ta_165_22
  have q12 := ta_165_12
  have q9 := ta_165_9
  have q26 := ta_165_26
  have HC := Lib.hid C
  clear C
  go_enter Tryz.func78, Tryz.ntmps78
  go_wp2_with (go_at_call 97; refine (HC.out).mono ?_; rintro e w' ⟨rfl, hq⟩)
  go_end0
  exact ⟨rfl, hq⟩

theorem Tabs.old {w0 w : World} {b : Nat} {v : Value} (h : Tabs w0) (k : Old w0 b w v) : Tabs w := by
  refine ⟨fun c hc => ?_, fun i hi => ?_⟩
  · have h1 := h.1 c hc
    rw [k.cell (a := ⟨0, c, Option.none⟩) (cell_lt h1)]; exact h1
  · have h1 := h.2 i hi
    exact ⟨by rw [k.cell (a := ⟨1, 2 * i, Option.none⟩) (cell_lt h1.1)]; exact h1.1, by rw [k.cell (a := ⟨1, 2 * i + 1, Option.none⟩) (cell_lt h1.2)]; exact h1.2⟩
/-- what printArg writes of texts -/
def paS (a : Arg) (r : Int) (f : Fl) : Option Bytes :=
  match a with
  | .str t | .err t | .strg t => if (r = 118 ∨ r = 115 ∨ r = 120 ∨ r = 88) ∧ f.sharpV = false ∧ t.size ≤ 1000000 ∧ (f.precP = true → 0 ≤ f.prec ∧ f.prec ≤ 1000000) then some (strM f r t.data.toList) else none
  | .bytes t => if (r = 115 ∨ r = 120 ∨ r = 88) ∧ t.length ≤ 1000000 ∧ (f.precP = true → 0 ≤ f.prec ∧ f.prec ≤ 1000000) then some (strM f r t) else none
  | _ => none
theorem paS_rel (w0 : World) (hT : Tabs w0) (a : Arg) : PaRel w0 paS a := by
  intro b w s v ib x r u hP hO he hf hA h0 h127 hp hl
  have hw : s.fl.wid.toNat ≤ 100000000 := by have := hf.2.1; omega
  have hl' : s.out.length + u.length + 1000000000 ≤ 35184372088832 := hl
  cases a with
  | str t =>
    unfold paS at hp
    simp only at hp
    split at hp
    · rename_i hc
      cases hp
      cases hA
      exact printArg_9 t r (by omega) (by omega) fun y => fmtString_any hP y t r hc.1 hc.2.1 hf hc.2.2.2 (show _ ≤ _ by have := hc.2.2.1; omega)
    · cases hp
  | err t =>
    unfold paS at hp
    simp only at hp
    split at hp
    · rename_i hc
      cases hp
      cases hA
      refine printArg_164 t r (by omega) (by omega) (handleMethods_164 hP he hc.2.1 t r hc.1 fun W y hOn => ?_)
      have hF : Fr b w v W v := (Fr.refl b w v).only hOn (fun _ _ _ he => by cases he)
      refine (fmtString_any (hP.only hOn (fun _ _ _ he => by cases he)) y t r hc.1 hc.2.1 hf hc.2.2.2 (show _ ≤ _ by have := hc.2.2.1; omega)).mono ?_
      rintro e w' ⟨he, v', ib', h1, h2⟩
      exact ⟨he, v', ib', h1, hF.trans h2⟩
    · cases hp
  | strg t =>
    unfold paS at hp
    simp only at hp
    split at hp
    · rename_i hc
      cases hp
      cases hA
      refine printArg_165 t r (by omega) (by omega) (handleMethods_165 hP he hc.2.1 t r hc.1 fun W y hOn => ?_)
      have hF : Fr b w v W v := (Fr.refl b w v).only hOn (fun _ _ _ he => by cases he)
      refine (fmtString_any (hP.only hOn (fun _ _ _ he => by cases he)) y t r hc.1 hc.2.1 hf hc.2.2.2 (show _ ≤ _ by have := hc.2.2.1; omega)).mono ?_
      rintro e w' ⟨he, v', ib', h1, h2⟩
      exact ⟨he, v', ib', h1, hF.trans h2⟩
    · cases hp
  | bytes t =>
    unfold paS at hp
    simp only at hp
    split at hp
    · rename_i hc
      cases hp
      obtain ⟨y, rfl, hOut⟩ := hA
      exact printArg_26 y r (by omega) (by omega) fun nm => fmtBytes_sx hP y t hOut r hc.1 nm hf hc.2.2 (hT.old hO) (show _ ≤ _ by have := hc.2.1; omega)
    · cases hp
  | nil => cases hp
  | bool y => cases hp
  | int ty k n => cases hp
  | f32 y => cases hp
  | f64 y => cases hp

end Go.Proofs.YtcbliojofnigdaaGreatDoor
