/- pp.fmtInteger by the verbs of bases, printArg at each type of integers (printed by tools/gen_printint.py). One integer by a format of one verb. -/
import Derived.Test.YtcbliojofnigdaaGreatDoorIntWalk
import Derived.Test.YtcbliojofnigdaaGreatDoorBoolNil
import Derived.Test.YtcbliojofnigdaaGreatDoorIntM
import Derived.Test.YtcbliojofnigdaaGreatDoorFlag0
set_option linter.unusedVariables false
set_option linter.unusedSimpArgs false
namespace Go.Proofs.YtcbliojofnigdaaGreatDoor
open Go Go.Proofs Go.RowKit

/-- the base of a verb -/
def vbase (r : Int) : Nat := if r = 98 then 2 else if r = 111 ∨ r = 79 then 8 else if r = 120 ∨ r = 88 then 16 else 10
/-- the verbs of bases -/
def intVerb (r : Int) : Prop := r = 118 ∨ r = 100 ∨ r = 98 ∨ r = 111 ∨ r = 79 ∨ r = 120 ∨ r = 88
/-- an integer by a verb of a base -/
def intT (f : Fl) (u : Int) (sg : Bool) (r : Int) : Bytes := fmtIntM f (absU sg u) (negU sg u) (vbase r) r (decide (r = 88))
theorem wroteI_from {b : Nat} {w W : World} {s : PS} {v : Value} {t : Bytes} {e : Ending} {w' : World} (hF : Fr b w v W v) (h : WroteI b W s v t e w') : WroteI b w s v t e w' := by
  obtain ⟨h1, v', ib', h2, h3⟩ := h
  exact ⟨h1, v', ib', h2, hF.trans h3⟩

set_option maxRecDepth 100000 in
set_option maxHeartbeats 1000000 in
theorem ppInt_any {b : Nat} {w : World} {s : PS} {v : Value} {ib : List Value} (h : PP b w s v ib) (x : Value) (u : Int) (h0 : 0 ≤ u) (h1 : u ≤ 18446744073709551615) (sg : Bool) (r : Int) (hr : intVerb r) (hsv : s.fl.sharpV = false) (hf : FlOk s.fl) (hl : Fits (s.out.length + 1000000000)) :
    Calls Tryz.prog 94 #[.pointer (some ⟨b, 0, none⟩), x, .agg #[], .int .u64 u, .bool sg, .int .i32 r] w (WroteI b w s v (intT s.fl u sg r)) := by
  have e0 : digS false = ⟨#[48, 49, 50, 51, 52, 53, 54, 55, 56, 57, 97, 98, 99, 100, 101, 102, 120]⟩ := rfl
  have e1 : digS true = ⟨#[48, 49, 50, 51, 52, 53, 54, 55, 56, 57, 65, 66, 67, 68, 69, 70, 88]⟩ := rfl
  have c10 := h.c10
  have hblt := h.lt
  rw [hsv] at c10
  have C : ∀ (base : Nat) (up : Bool) (W : World), (base = 10 ∨ base = 16 ∨ base = 8 ∨ base = 2) → (r = 79 → base = 8) → PP b W s v ib → Fr b w v W v → Calls Tryz.prog 111 #[.pointer (some ⟨b, 1, none⟩), .int .u64 u, .int .i64 base, .bool sg, .int .i32 r, .string (digS up)] W (WroteI b w s v (fmtIntM s.fl (absU sg u) (negU sg u) base r up)) :=
    fun base up W hb hv hP hF => (fmtInteger_any hP hf u h0 h1 base hb sg r hv up hl).mono fun e w' hq => wroteI_from hF hq
  have HP := Lib.hid h
  unfold intVerb at hr
  clear hl hf h0 h1 h hsv
  rcases hr with rfl | rfl | rfl | rfl | rfl | rfl | rfl
  · have C1 := fun W => C 10 false W (by decide) (by decide)
    rw [e0] at C1
    have HC := Lib.hid C1
    clear C C1 e0 e1
    go_enter Tryz.func94, Tryz.ntmps94
    go_wp2_with (go_at_call 111; refine (HC.out _ (by first | exact HP.out | exact HP.out.alloc _) (by first | exact Fr.refl _ _ _ | exact (Fr.refl _ _ _).alloc _)).mono ?_; rintro e w' ⟨rfl, hq⟩)
    go_end0
    exact ⟨rfl, hq⟩
  · have C1 := fun W => C 10 false W (by decide) (by decide)
    rw [e0] at C1
    have HC := Lib.hid C1
    clear C C1 e0 e1
    go_enter Tryz.func94, Tryz.ntmps94
    go_wp2_with (go_at_call 111; refine (HC.out _ (by first | exact HP.out | exact HP.out.alloc _) (by first | exact Fr.refl _ _ _ | exact (Fr.refl _ _ _).alloc _)).mono ?_; rintro e w' ⟨rfl, hq⟩)
    go_end0
    exact ⟨rfl, hq⟩
  · have C1 := fun W => C 2 false W (by decide) (by decide)
    rw [e0] at C1
    have HC := Lib.hid C1
    clear C C1 e0 e1
    go_enter Tryz.func94, Tryz.ntmps94
    go_wp2_with (go_at_call 111; refine (HC.out _ (by first | exact HP.out | exact HP.out.alloc _) (by first | exact Fr.refl _ _ _ | exact (Fr.refl _ _ _).alloc _)).mono ?_; rintro e w' ⟨rfl, hq⟩)
    go_end0
    exact ⟨rfl, hq⟩
  · have C1 := fun W => C 8 false W (by decide) (by decide)
    rw [e0] at C1
    have HC := Lib.hid C1
    clear C C1 e0 e1
    go_enter Tryz.func94, Tryz.ntmps94
    go_wp2_with (go_at_call 111; refine (HC.out _ (by first | exact HP.out | exact HP.out.alloc _) (by first | exact Fr.refl _ _ _ | exact (Fr.refl _ _ _).alloc _)).mono ?_; rintro e w' ⟨rfl, hq⟩)
    go_end0
    exact ⟨rfl, hq⟩
  · have C1 := fun W => C 8 false W (by decide) (by decide)
    rw [e0] at C1
    have HC := Lib.hid C1
    clear C C1 e0 e1
    go_enter Tryz.func94, Tryz.ntmps94
    go_wp2_with (go_at_call 111; refine (HC.out _ (by first | exact HP.out | exact HP.out.alloc _) (by first | exact Fr.refl _ _ _ | exact (Fr.refl _ _ _).alloc _)).mono ?_; rintro e w' ⟨rfl, hq⟩)
    go_end0
    exact ⟨rfl, hq⟩
  · have C1 := fun W => C 16 false W (by decide) (by decide)
    rw [e0] at C1
    have HC := Lib.hid C1
    clear C C1 e0 e1
    go_enter Tryz.func94, Tryz.ntmps94
    go_wp2_with (go_at_call 111; refine (HC.out _ (by first | exact HP.out | exact HP.out.alloc _) (by first | exact Fr.refl _ _ _ | exact (Fr.refl _ _ _).alloc _)).mono ?_; rintro e w' ⟨rfl, hq⟩)
    go_end0
    exact ⟨rfl, hq⟩
  · have C1 := fun W => C 16 true W (by decide) (by decide)
    rw [e1] at C1
    have HC := Lib.hid C1
    clear C C1 e0 e1
    go_enter Tryz.func94, Tryz.ntmps94
    go_wp2_with (go_at_call 111; refine (HC.out _ (by first | exact HP.out | exact HP.out.alloc _) (by first | exact Fr.refl _ _ _ | exact (Fr.refl _ _ _).alloc _)).mono ?_; rintro e w' ⟨rfl, hq⟩)
    go_end0
    exact ⟨rfl, hq⟩

set_option maxRecDepth 100000 in
set_option maxHeartbeats 1000000 in
theorem printArg_3 {b : Nat} {w : World} {s : PS} {v : Value} (n : Int) (r : Int) (hv1 : ¬ r = 84) (hv2 : ¬ r = 112) {T : Bytes} (C : Calls Tryz.prog 94 #[.pointer (some ⟨b, 0, none⟩), .iface 3 (.int .i64 n), .agg #[], .int .u64 (IntKind.u64.wrap n), .bool true, .int .i32 r] w (WroteI b w s v T)) :
    Calls Tryz.prog 78 #[.pointer (some ⟨b, 0, none⟩), .iface 3 (.int .i64 n), .int .i32 r] w (WroteI b w s v T) := by
  have q4 := ta_3_4
  have q149 := ta_3_149
  have q151 := ta_3_151
  have q152 := ta_3_152
  have q154 := ta_3_154
  have q3 := ta_3_3
  have HC := Lib.hid C
  clear C
  go_enter Tryz.func78, Tryz.ntmps78
  go_wp2_with (go_at_call 94; refine (HC.out).mono ?_; rintro e w' ⟨rfl, hq⟩)
  go_end0
  exact ⟨rfl, hq⟩

set_option maxRecDepth 100000 in
set_option maxHeartbeats 1000000 in
theorem printArg_83 {b : Nat} {w : World} {s : PS} {v : Value} (n : Int) (g1 : -128 ≤ n) (g2 : n ≤ 127) (r : Int) (hv1 : ¬ r = 84) (hv2 : ¬ r = 112) {T : Bytes} (C : Calls Tryz.prog 94 #[.pointer (some ⟨b, 0, none⟩), .iface 83 (.int .i8 n), .agg #[], .int .u64 (IntKind.u64.wrap n), .bool true, .int .i32 r] w (WroteI b w s v T)) :
    Calls Tryz.prog 78 #[.pointer (some ⟨b, 0, none⟩), .iface 83 (.int .i8 n), .int .i32 r] w (WroteI b w s v T) := by
  have q4 := ta_83_4
  have q149 := ta_83_149
  have q151 := ta_83_151
  have q152 := ta_83_152
  have q154 := ta_83_154
  have q3 := ta_83_3
  have q83 := ta_83_83
  have HC := Lib.hid C
  clear C
  go_enter Tryz.func78, Tryz.ntmps78
  go_wp2_with (go_at_call 94; refine (HC.out).mono ?_; rintro e w' ⟨rfl, hq⟩)
  go_end0
  exact ⟨rfl, hq⟩

set_option maxRecDepth 100000 in
set_option maxHeartbeats 1000000 in
theorem printArg_84 {b : Nat} {w : World} {s : PS} {v : Value} (n : Int) (g1 : -32768 ≤ n) (g2 : n ≤ 32767) (r : Int) (hv1 : ¬ r = 84) (hv2 : ¬ r = 112) {T : Bytes} (C : Calls Tryz.prog 94 #[.pointer (some ⟨b, 0, none⟩), .iface 84 (.int .i16 n), .agg #[], .int .u64 (IntKind.u64.wrap n), .bool true, .int .i32 r] w (WroteI b w s v T)) :
    Calls Tryz.prog 78 #[.pointer (some ⟨b, 0, none⟩), .iface 84 (.int .i16 n), .int .i32 r] w (WroteI b w s v T) := by
  have q4 := ta_84_4
  have q149 := ta_84_149
  have q151 := ta_84_151
  have q152 := ta_84_152
  have q154 := ta_84_154
  have q3 := ta_84_3
  have q83 := ta_84_83
  have q84 := ta_84_84
  have HC := Lib.hid C
  clear C
  go_enter Tryz.func78, Tryz.ntmps78
  go_wp2_with (go_at_call 94; refine (HC.out).mono ?_; rintro e w' ⟨rfl, hq⟩)
  go_end0
  exact ⟨rfl, hq⟩

set_option maxRecDepth 100000 in
set_option maxHeartbeats 1000000 in
theorem printArg_21 {b : Nat} {w : World} {s : PS} {v : Value} (n : Int) (g1 : -2147483648 ≤ n) (g2 : n ≤ 2147483647) (r : Int) (hv1 : ¬ r = 84) (hv2 : ¬ r = 112) {T : Bytes} (C : Calls Tryz.prog 94 #[.pointer (some ⟨b, 0, none⟩), .iface 21 (.int .i32 n), .agg #[], .int .u64 (IntKind.u64.wrap n), .bool true, .int .i32 r] w (WroteI b w s v T)) :
    Calls Tryz.prog 78 #[.pointer (some ⟨b, 0, none⟩), .iface 21 (.int .i32 n), .int .i32 r] w (WroteI b w s v T) := by
  have q4 := ta_21_4
  have q149 := ta_21_149
  have q151 := ta_21_151
  have q152 := ta_21_152
  have q154 := ta_21_154
  have q3 := ta_21_3
  have q83 := ta_21_83
  have q84 := ta_21_84
  have q21 := ta_21_21
  have HC := Lib.hid C
  clear C
  go_enter Tryz.func78, Tryz.ntmps78
  go_wp2_with (go_at_call 94; refine (HC.out).mono ?_; rintro e w' ⟨rfl, hq⟩)
  go_end0
  exact ⟨rfl, hq⟩

set_option maxRecDepth 100000 in
set_option maxHeartbeats 1000000 in
theorem printArg_2 {b : Nat} {w : World} {s : PS} {v : Value} (n : Int) (r : Int) (hv1 : ¬ r = 84) (hv2 : ¬ r = 112) {T : Bytes} (C : Calls Tryz.prog 94 #[.pointer (some ⟨b, 0, none⟩), .iface 2 (.int .i64 n), .agg #[], .int .u64 (IntKind.u64.wrap n), .bool true, .int .i32 r] w (WroteI b w s v T)) :
    Calls Tryz.prog 78 #[.pointer (some ⟨b, 0, none⟩), .iface 2 (.int .i64 n), .int .i32 r] w (WroteI b w s v T) := by
  have q4 := ta_2_4
  have q149 := ta_2_149
  have q151 := ta_2_151
  have q152 := ta_2_152
  have q154 := ta_2_154
  have q3 := ta_2_3
  have q83 := ta_2_83
  have q84 := ta_2_84
  have q21 := ta_2_21
  have q2 := ta_2_2
  have HC := Lib.hid C
  clear C
  go_enter Tryz.func78, Tryz.ntmps78
  go_wp2_with (go_at_call 94; refine (HC.out).mono ?_; rintro e w' ⟨rfl, hq⟩)
  go_end0
  exact ⟨rfl, hq⟩

set_option maxRecDepth 100000 in
set_option maxHeartbeats 1000000 in
theorem printArg_88 {b : Nat} {w : World} {s : PS} {v : Value} (n : Int) (r : Int) (hv1 : ¬ r = 84) (hv2 : ¬ r = 112) {T : Bytes} (C : Calls Tryz.prog 94 #[.pointer (some ⟨b, 0, none⟩), .iface 88 (.int .u64 n), .agg #[], .int .u64 n, .bool false, .int .i32 r] w (WroteI b w s v T)) :
    Calls Tryz.prog 78 #[.pointer (some ⟨b, 0, none⟩), .iface 88 (.int .u64 n), .int .i32 r] w (WroteI b w s v T) := by
  have q4 := ta_88_4
  have q149 := ta_88_149
  have q151 := ta_88_151
  have q152 := ta_88_152
  have q154 := ta_88_154
  have q3 := ta_88_3
  have q83 := ta_88_83
  have q84 := ta_88_84
  have q21 := ta_88_21
  have q2 := ta_88_2
  have q88 := ta_88_88
  have HC := Lib.hid C
  clear C
  go_enter Tryz.func78, Tryz.ntmps78
  go_wp2_with (go_at_call 94; refine (HC.out).mono ?_; rintro e w' ⟨rfl, hq⟩)
  go_end0
  exact ⟨rfl, hq⟩

set_option maxRecDepth 100000 in
set_option maxHeartbeats 1000000 in
theorem printArg_5 {b : Nat} {w : World} {s : PS} {v : Value} (n : Int) (g1 : 0 ≤ n) (g2 : n ≤ 255) (r : Int) (hv1 : ¬ r = 84) (hv2 : ¬ r = 112) {T : Bytes} (C : Calls Tryz.prog 94 #[.pointer (some ⟨b, 0, none⟩), .iface 5 (.int .u8 n), .agg #[], .int .u64 n, .bool false, .int .i32 r] w (WroteI b w s v T)) :
    Calls Tryz.prog 78 #[.pointer (some ⟨b, 0, none⟩), .iface 5 (.int .u8 n), .int .i32 r] w (WroteI b w s v T) := by
  have q4 := ta_5_4
  have q149 := ta_5_149
  have q151 := ta_5_151
  have q152 := ta_5_152
  have q154 := ta_5_154
  have q3 := ta_5_3
  have q83 := ta_5_83
  have q84 := ta_5_84
  have q21 := ta_5_21
  have q2 := ta_5_2
  have q88 := ta_5_88
  have q5 := ta_5_5
  have HC := Lib.hid C
  clear C
  go_enter Tryz.func78, Tryz.ntmps78
  go_wp2_with (go_at_call 94; refine (HC.out).mono ?_; rintro e w' ⟨rfl, hq⟩)
  go_end0
  exact ⟨rfl, hq⟩

set_option maxRecDepth 100000 in
set_option maxHeartbeats 1000000 in
theorem printArg_156 {b : Nat} {w : World} {s : PS} {v : Value} (n : Int) (g1 : 0 ≤ n) (g2 : n ≤ 65535) (r : Int) (hv1 : ¬ r = 84) (hv2 : ¬ r = 112) {T : Bytes} (C : Calls Tryz.prog 94 #[.pointer (some ⟨b, 0, none⟩), .iface 156 (.int .u16 n), .agg #[], .int .u64 n, .bool false, .int .i32 r] w (WroteI b w s v T)) :
    Calls Tryz.prog 78 #[.pointer (some ⟨b, 0, none⟩), .iface 156 (.int .u16 n), .int .i32 r] w (WroteI b w s v T) := by
  have q4 := ta_156_4
  have q149 := ta_156_149
  have q151 := ta_156_151
  have q152 := ta_156_152
  have q154 := ta_156_154
  have q3 := ta_156_3
  have q83 := ta_156_83
  have q84 := ta_156_84
  have q21 := ta_156_21
  have q2 := ta_156_2
  have q88 := ta_156_88
  have q5 := ta_156_5
  have q156 := ta_156_156
  have HC := Lib.hid C
  clear C
  go_enter Tryz.func78, Tryz.ntmps78
  go_wp2_with (go_at_call 94; refine (HC.out).mono ?_; rintro e w' ⟨rfl, hq⟩)
  go_end0
  exact ⟨rfl, hq⟩

set_option maxRecDepth 100000 in
set_option maxHeartbeats 1000000 in
theorem printArg_53 {b : Nat} {w : World} {s : PS} {v : Value} (n : Int) (g1 : 0 ≤ n) (g2 : n ≤ 4294967295) (r : Int) (hv1 : ¬ r = 84) (hv2 : ¬ r = 112) {T : Bytes} (C : Calls Tryz.prog 94 #[.pointer (some ⟨b, 0, none⟩), .iface 53 (.int .u32 n), .agg #[], .int .u64 n, .bool false, .int .i32 r] w (WroteI b w s v T)) :
    Calls Tryz.prog 78 #[.pointer (some ⟨b, 0, none⟩), .iface 53 (.int .u32 n), .int .i32 r] w (WroteI b w s v T) := by
  have q4 := ta_53_4
  have q149 := ta_53_149
  have q151 := ta_53_151
  have q152 := ta_53_152
  have q154 := ta_53_154
  have q3 := ta_53_3
  have q83 := ta_53_83
  have q84 := ta_53_84
  have q21 := ta_53_21
  have q2 := ta_53_2
  have q88 := ta_53_88
  have q5 := ta_53_5
  have q156 := ta_53_156
  have q53 := ta_53_53
  have HC := Lib.hid C
  clear C
  go_enter Tryz.func78, Tryz.ntmps78
  go_wp2_with (go_at_call 94; refine (HC.out).mono ?_; rintro e w' ⟨rfl, hq⟩)
  go_end0
  exact ⟨rfl, hq⟩

set_option maxRecDepth 100000 in
set_option maxHeartbeats 1000000 in
theorem printArg_22 {b : Nat} {w : World} {s : PS} {v : Value} (n : Int) (r : Int) (hv1 : ¬ r = 84) (hv2 : ¬ r = 112) {T : Bytes} (C : Calls Tryz.prog 94 #[.pointer (some ⟨b, 0, none⟩), .iface 22 (.int .u64 n), .agg #[], .int .u64 n, .bool false, .int .i32 r] w (WroteI b w s v T)) :
    Calls Tryz.prog 78 #[.pointer (some ⟨b, 0, none⟩), .iface 22 (.int .u64 n), .int .i32 r] w (WroteI b w s v T) := by
  have q4 := ta_22_4
  have q149 := ta_22_149
  have q151 := ta_22_151
  have q152 := ta_22_152
  have q154 := ta_22_154
  have q3 := ta_22_3
  have q83 := ta_22_83
  have q84 := ta_22_84
  have q21 := ta_22_21
  have q2 := ta_22_2
  have q88 := ta_22_88
  have q5 := ta_22_5
  have q156 := ta_22_156
  have q53 := ta_22_53
  have q22 := ta_22_22
  have HC := Lib.hid C
  clear C
  go_enter Tryz.func78, Tryz.ntmps78
  go_wp2_with (go_at_call 94; refine (HC.out).mono ?_; rintro e w' ⟨rfl, hq⟩)
  go_end0
  exact ⟨rfl, hq⟩

set_option maxRecDepth 100000 in
set_option maxHeartbeats 1000000 in
theorem printArg_12 {b : Nat} {w : World} {s : PS} {v : Value} (n : Int) (r : Int) (hv1 : ¬ r = 84) (hv2 : ¬ r = 112) {T : Bytes} (C : Calls Tryz.prog 94 #[.pointer (some ⟨b, 0, none⟩), .iface 12 (.int .u64 n), .agg #[], .int .u64 n, .bool false, .int .i32 r] w (WroteI b w s v T)) :
    Calls Tryz.prog 78 #[.pointer (some ⟨b, 0, none⟩), .iface 12 (.int .u64 n), .int .i32 r] w (WroteI b w s v T) := by
  have q4 := ta_12_4
  have q149 := ta_12_149
  have q151 := ta_12_151
  have q152 := ta_12_152
  have q154 := ta_12_154
  have q3 := ta_12_3
  have q83 := ta_12_83
  have q84 := ta_12_84
  have q21 := ta_12_21
  have q2 := ta_12_2
  have q88 := ta_12_88
  have q5 := ta_12_5
  have q156 := ta_12_156
  have q53 := ta_12_53
  have q22 := ta_12_22
  have q12 := ta_12_12
  have HC := Lib.hid C
  clear C
  go_enter Tryz.func78, Tryz.ntmps78
  go_wp2_with (go_at_call 94; refine (HC.out).mono ?_; rintro e w' ⟨rfl, hq⟩)
  go_end0
  exact ⟨rfl, hq⟩

/-- whether a kind of integers has a sign -/
def sgK : IntKind → Bool
  | .i8 | .i16 | .i32 | .i64 => true
  | _ => false
/-- an integer as 64 bits -/
def uN (n : Int) : Int := n % 18446744073709551616
/-- what printArg writes of an integer by a verb of a base -/
def paI (a : Arg) (r : Int) (f : Fl) : Option Bytes :=
  match a with
  | .int _ k n => if (r = 118 ∨ r = 100 ∨ r = 98 ∨ r = 111 ∨ r = 79 ∨ r = 120 ∨ r = 88) ∧ f.sharpV = false then some (intT f (uN n) (sgK k) r) else none
  | _ => none

theorem paI_ok (b : Nat) (ty : Nat) (k : IntKind) (n : Int) : PaOk b paI (.int ty k n) := by
  intro w s v ib x r u hP _ hf hA _ _ hp hl
  obtain ⟨rfl, ⟨nm, hm⟩, g1, g2⟩ := hA
  unfold paI at hp
  simp only at hp
  split at hp
  · rename_i hc
    obtain ⟨hr, hsv⟩ := hc
    cases hp
    have hv1 : ¬ r = 84 := by omega
    have hv2 : ¬ r = 112 := by omega
    have hw : ∀ m : Int, IntKind.u64.wrap m = uN m := fun m => by rw [IntKind.wrap_u64]; rfl
    have h0 : 0 ≤ uN n := by unfold uN; omega
    have h1 : uN n ≤ 18446744073709551615 := by unfold uN; omega
    have C := fun (x : Value) (sg : Bool) => ppInt_any hP x (uN n) h0 h1 sg r hr hsv hf (hl.le (by omega))
    have hu : 0 ≤ n → n ≤ 18446744073709551615 → uN n = n := by intro q1 q2; unfold uN; omega
    simp only [intTypes, List.mem_cons, Prod.mk.injEq, List.not_mem_nil, or_false] at hm
    rcases hm with ⟨rfl, rfl, _⟩ | ⟨rfl, rfl, _⟩ | ⟨rfl, rfl, _⟩ | ⟨rfl, rfl, _⟩ | ⟨rfl, rfl, _⟩ | ⟨rfl, rfl, _⟩ | ⟨rfl, rfl, _⟩ | ⟨rfl, rfl, _⟩ | ⟨rfl, rfl, _⟩ | ⟨rfl, rfl, _⟩ | ⟨rfl, rfl, _⟩
    · exact printArg_3 n r hv1 hv2 (by rw [hw]; exact C _ _)
    · exact printArg_83 n g1 g2 r hv1 hv2 (by rw [hw]; exact C _ _)
    · exact printArg_84 n g1 g2 r hv1 hv2 (by rw [hw]; exact C _ _)
    · exact printArg_21 n g1 g2 r hv1 hv2 (by rw [hw]; exact C _ _)
    · exact printArg_2 n r hv1 hv2 (by rw [hw]; exact C _ _)
    · exact printArg_88 n r hv1 hv2 (by have := C (.iface 88 (.int .u64 n)) false; rw [hu g1 g2] at this ⊢; exact this)
    · exact printArg_5 n g1 g2 r hv1 hv2 (by have := C (.iface 5 (.int .u8 n)) false; rw [hu g1 (Int.le_trans g2 (by decide))] at this ⊢; exact this)
    · exact printArg_156 n g1 g2 r hv1 hv2 (by have := C (.iface 156 (.int .u16 n)) false; rw [hu g1 (Int.le_trans g2 (by decide))] at this ⊢; exact this)
    · exact printArg_53 n g1 g2 r hv1 hv2 (by have := C (.iface 53 (.int .u32 n)) false; rw [hu g1 (Int.le_trans g2 (by decide))] at this ⊢; exact this)
    · exact printArg_22 n r hv1 hv2 (by have := C (.iface 22 (.int .u64 n)) false; rw [hu g1 g2] at this ⊢; exact this)
    · exact printArg_12 n r hv1 hv2 (by have := C (.iface 12 (.int .u64 n)) false; rw [hu g1 g2] at this ⊢; exact this)
  · cases hp

/-- the printer's flags by the laws' format -/
def flOf (b0 b1 b2 b3 b4 : Bool) (r : Nat) (p : Option Nat) : Fl := { minus := b0, plus := b1, sharp := b2, space := b3, zero := b4 && !b0, wid := (r : Int), widP := decide (r ≠ 0), prec := ((p.getD 0 : Nat) : Int), precP := p.isSome }
theorem flOf_ok (b0 b1 b2 b3 b4 : Bool) (r : Nat) (p : Option Nat) (hr : r < 200) (hp : ∀ k, p = some k → k < 200) : FlOk (flOf b0 b1 b2 b3 b4 r p) := by
  have : p.getD 0 < 200 := by
    cases p with
    | none => decide
    | some k => exact hp k rfl
  refine ⟨?_, ?_, ?_, ?_⟩ <;> unfold flOf <;> simp only <;> omega
theorem fmtF_of (b0 b1 b2 b3 b4 : Bool) (r : Nat) (p : Option Nat) (hr : r < 200) (hp : ∀ k, p = some k → k < 200) : fmtF (flagB b0 b1 b2 b3 b4) (widB r) (p.map dec) = flOf b0 b1 b2 b3 b4 r p := by
  have hn := widB_num r (by omega)
  unfold fmtF flOf
  rw [flagsF_bits, hn.1, hn.2.1]
  cases p with
  | none => rfl
  | some k =>
    simp only [Option.map_some]
    rw [dec_num k (by have := hp k rfl; omega)]
    rfl

theorem one_fl_rel (b0 b1 b2 b3 b4 : Bool) (r : Nat) (p : Option Nat) (hr : r < 200) (hp : ∀ k, p = some k → k < 200) (vb : UInt8) (hv : verbB vb) (hvw : vb.toNat ≠ 119) {z : LA} {a : Arg} {pa : Arg → Int → Fl → Option Bytes} (hz : Known [z] [a]) (x : Bytes) (hx : Fits (x.length + 1000000000)) (hq : pa a vb.toNat ((flOf b0 b1 b2 b3 b4 r p).forVerb vb.toNat) = some x) (w : World) (hpa : PaRel w pa a) :
    Calls Tryz.prog 20 #[.string ⟨(fmtOf b0 b1 b2 b3 b4 r p ++ [vb]).toArray⟩, z.val] w fun e w' => e = .returned (.string ⟨x.toArray⟩) ∧ Only none w w' := by
  have hn := widB_num r (by omega)
  have hfl : (flagB b0 b1 b2 b3 b4).length ≤ 5 := by cases b0 <;> cases b1 <;> cases b2 <;> cases b3 <;> cases b4 <;> decide
  have hpl : (precB (p.map dec)).length ≤ 7 := by
    cases p with
    | none => decide
    | some k =>
      have := dec_len k (by have := hp k rfl; omega)
      simp only [Option.map_some, precB, List.length_cons]
      omega
  have hsz : (⟨(fmtOf b0 b1 b2 b3 b4 r p ++ [vb]).toArray⟩ : ByteArray).size ≤ 100 := by
    rw [str_size]
    have := hn.2.2.1
    simp only [fmtOf, List.length_append, List.length_cons, List.length_nil]
    omega
  have hM := dpM_one pa ⟨(fmtOf b0 b1 b2 b3 b4 r p ++ [vb]).toArray⟩ (flagB b0 b1 b2 b3 b4) (widB r) (p.map dec) vb a ps0 (by simp [fmtOf]) rfl (flagB_isFlag _ _ _ _ _) hn.2.2.2.1 hn.2.2.1 hn.2.2.2.2 (fun ds h => by
    cases p with
    | none => cases h
    | some k =>
      cases h
      exact ⟨digits_digit _ _, dec_len k (by have := hp k rfl; omega)⟩) hv hvw
  rw [fmtF_of b0 b1 b2 b3 b4 r p hr hp, hq, Option.map_some] at hM
  have hM' : dpM ⟨(fmtOf b0 b1 b2 b3 b4 r p ++ [vb]).toArray⟩ [a] pa (⟨(fmtOf b0 b1 b2 b3 b4 r p ++ [vb]).toArray⟩ : ByteArray).size ⟨ps0, 0, 0, false⟩ = some x := hM
  exact one_rel hz hpa (show _ ≤ _ by omega) _ hM' hx

theorem one_fl (b0 b1 b2 b3 b4 : Bool) (r : Nat) (p : Option Nat) (hr : r < 200) (hp : ∀ k, p = some k → k < 200) (vb : UInt8) (hv : verbB vb) (hvw : vb.toNat ≠ 119) {z : LA} {a : Arg} {pa : Arg → Int → Fl → Option Bytes} (hz : Known [z] [a]) (hpa : ∀ b, PaOk b pa a) (x : Bytes) (hx : Fits (x.length + 1000000000)) (hq : pa a vb.toNat ((flOf b0 b1 b2 b3 b4 r p).forVerb vb.toNat) = some x) (w : World) :
    Calls Tryz.prog 20 #[.string ⟨(fmtOf b0 b1 b2 b3 b4 r p ++ [vb]).toArray⟩, z.val] w fun e w' => e = .returned (.string ⟨x.toArray⟩) ∧ Only none w w' :=
  one_fl_rel b0 b1 b2 b3 b4 r p hr hp vb hv hvw hz x hx hq w (PaOk.rel hpa w)

end Go.Proofs.YtcbliojofnigdaaGreatDoor
