/- strconv.appendEscapedRune (quote '"', neither ASCII nor graphic alone), onto any slice of bytes: every valid rune (printed by tools/gen_quo2.py). -/
import Derived.Test.YtcbliojofnigdaaGreatDoorPadB
import Derived.Test.YtcbliojofnigdaaGreatDoorFrame
import Derived.Lib.QuoteLoop
import Derived.LoopTactic
import Derived.Deep.DeepCutAuto
import Derived.WalkMore
set_option linter.unusedVariables false
set_option linter.unusedSimpArgs false
namespace Go.Proofs.YtcbliojofnigdaaGreatDoor
open Go Go.Proofs Go.RowKit

theorem esc_lx : (⟨#[48, 49, 50, 51, 52, 53, 54, 55, 56, 57, 97, 98, 99, 100, 101, 102]⟩ : ByteArray).size = 16 := rfl
theorem B_hexd (d : Nat) (h : d < 16) : B (bt ⟨#[48, 49, 50, 51, 52, 53, 54, 55, 56, 57, 97, 98, 99, 100, 101, 102]⟩ d) = B (Lib.hexDigit d) := by
  have key : ∀ x : Fin 16, B (bt ⟨#[48, 49, 50, 51, 52, 53, 54, 55, 56, 57, 97, 98, 99, 100, 101, 102]⟩ x.val) = B (Lib.hexDigit x.val) := by decide
  exact key ⟨d, h⟩
theorem and15_i32 (n : Nat) (h : n < 2147483648) : bits .and .i32 (n : Int) 15 = ((n % 16 : Nat) : Int) := by
  show IntKind.i32.wrap ((BitVec.ofInt 32 n &&& BitVec.ofInt 32 15).toNat : Int) = _
  rw [BitVec.toNat_and, BitVec.ofInt_natCast, BitVec.toNat_ofNat, Nat.mod_eq_of_lt (by omega)]
  show IntKind.i32.wrap ((n &&& 15 : Nat) : Int) = _
  rw [show (15 : Nat) = 2 ^ 4 - 1 from rfl, Nat.and_two_pow_sub_one_eq_mod, IntKind.wrap_i32]
  omega
theorem and15_u8n (m : Nat) (h : m < 256) : bits .and .u8 (m : Int) 15 = ((m % 16 : Nat) : Int) := by
  show IntKind.u8.wrap ((BitVec.ofInt 8 m &&& BitVec.ofInt 8 15).toNat : Int) = _
  rw [BitVec.toNat_and, BitVec.ofInt_natCast, BitVec.toNat_ofNat, Nat.mod_eq_of_lt (by omega)]
  show IntKind.u8.wrap ((m &&& 15 : Nat) : Int) = _
  rw [show (15 : Nat) = 2 ^ 4 - 1 from rfl, Nat.and_two_pow_sub_one_eq_mod, IntKind.wrap_u8]
  omega
theorem App.drewN {W w : World} {V v : Value} {xs : Bytes} (h : App W V w v xs) (q : Nat) : App W V (w.drewN q) v xs := ⟨h.buf, h.only.drewN q, h.plc⟩
set_option maxRecDepth 100000 in
set_option maxHeartbeats 400000 in
theorem ValidRune_yes (r : Nat) (hr : r < 55296 ∨ (57343 < r ∧ r ≤ 1114111)) (w : World) : Calls Tryz.prog 145 #[.int .i32 r] w fun e w' => e = .returned (.bool true) ∧ w' = w := by
  rcases hr with h | ⟨h1, h2⟩
  · have e1 : (0 : Int) ≤ r := by omega
    have e2 : (r : Int) < 55296 := by omega
    go_enter Tryz.func145, Tryz.ntmps145
    go_wp2
    go_ret
    exact ⟨rfl, rfl⟩
  · have e1 : ¬ (r : Int) < 55296 := by omega
    have e2 : (57343 : Int) < r := by omega
    have e3 : (r : Int) ≤ 1114111 := by omega
    go_enter Tryz.func145, Tryz.ntmps145
    go_wp2
    go_ret
    exact ⟨rfl, rfl⟩

set_option maxRecDepth 100000 in
set_option maxHeartbeats 2000000 in
theorem esc_q34 {T : Lib.PrintTabs} {W w : World} {V v : Value} {xs : Bytes} (hb : App W V w v xs)  (hl : Room (xs.length + 10)) :
    Calls Tryz.prog 146 #[v, .int .i32 34, .int .u8 34, .bool false, .bool false] w (Apd W V (xs ++ [92, 34])) := by
  have h1 : Room (xs.length + 1) := hl.le (by omega)
  have h2 : Room ((xs ++ ([92] : List Int).map B).length + 1) := hl.le (by rw [List.length_append]; simp)
  have HB := Lib.hid hb
  have H1 := Lib.hid h1
  have H2 := Lib.hid h2
  have hc1 : ∀ c ∈ ([92] : List Int), 0 ≤ c ∧ c ≤ 255 := by decide
  have hc2 : ∀ c ∈ ([34] : List Int), 0 ≤ c ∧ c ≤ 255 := by decide
  have HC1 := Lib.hid hc1
  have HC2 := Lib.hid hc2
  clear hb hl h1 h2 hc1 hc2
  go_enter Tryz.func146, Tryz.ntmps146
  go_wp2_with (first
    | (at_builtin; refine wpList_app_lit rfl (.tmp 21) (.tmp 22) 26 rfl 5 byte5 Tryz.underlying26 _ _ rfl [92] 1 rfl rfl W V HB.out 5 _ rfl HC1.out H1.out ?_; intro v1 w1 hA1; have HA1 := Lib.hid hA1; clear hA1)
    | (at_builtin; refine wpList_app_lit rfl (.tmp 24) (.tmp 27) 26 rfl 5 byte5 Tryz.underlying26 _ _ rfl [34] 1 rfl rfl W V HA1.out 5 _ rfl HC2.out H2.out ?_; intro v2 w2 hA2; have HA2 := Lib.hid hA2; clear hA2))
  go_ret
  have h := HA2.out
  rw [List.append_assoc] at h
  exact ⟨_, rfl, h⟩

set_option maxRecDepth 100000 in
set_option maxHeartbeats 2000000 in
theorem esc_q92 {T : Lib.PrintTabs} {W w : World} {V v : Value} {xs : Bytes} (hb : App W V w v xs)  (hl : Room (xs.length + 10)) :
    Calls Tryz.prog 146 #[v, .int .i32 92, .int .u8 34, .bool false, .bool false] w (Apd W V (xs ++ [92, 92])) := by
  have h1 : Room (xs.length + 1) := hl.le (by omega)
  have h2 : Room ((xs ++ ([92] : List Int).map B).length + 1) := hl.le (by rw [List.length_append]; simp)
  have HB := Lib.hid hb
  have H1 := Lib.hid h1
  have H2 := Lib.hid h2
  have hc1 : ∀ c ∈ ([92] : List Int), 0 ≤ c ∧ c ≤ 255 := by decide
  have hc2 : ∀ c ∈ ([92] : List Int), 0 ≤ c ∧ c ≤ 255 := by decide
  have HC1 := Lib.hid hc1
  have HC2 := Lib.hid hc2
  clear hb hl h1 h2 hc1 hc2
  go_enter Tryz.func146, Tryz.ntmps146
  go_wp2_with (first
    | (at_builtin; refine wpList_app_lit rfl (.tmp 21) (.tmp 22) 26 rfl 5 byte5 Tryz.underlying26 _ _ rfl [92] 1 rfl rfl W V HB.out 5 _ rfl HC1.out H1.out ?_; intro v1 w1 hA1; have HA1 := Lib.hid hA1; clear hA1)
    | (at_builtin; refine wpList_app_lit rfl (.tmp 24) (.tmp 27) 26 rfl 5 byte5 Tryz.underlying26 _ _ rfl [92] 1 rfl rfl W V HA1.out 5 _ rfl HC2.out H2.out ?_; intro v2 w2 hA2; have HA2 := Lib.hid hA2; clear hA2))
  go_ret
  have h := HA2.out
  rw [List.append_assoc] at h
  exact ⟨_, rfl, h⟩

set_option maxRecDepth 100000 in
set_option maxHeartbeats 2000000 in
theorem esc_print {T : Lib.PrintTabs} {W w : World} {V v : Value} {xs : Bytes} (hb : App W V w v xs) (r : Nat) (hr : r ≤ 1114111) (h34 : r ≠ 34) (h92 : r ≠ 92) (C126 : Calls Tryz.prog 126 #[.int .i32 r] w fun e w' => e = .returned (.bool true) ∧ ∃ q, w' = w.drewN q) (hl : Room (xs.length + 10)) :
    Calls Tryz.prog 146 #[v, .int .i32 r, .int .u8 34, .bool false, .bool false] w (Apd W V (xs ++ encB r)) := by
  have e1 : ¬ (r : Int) = 34 := by omega
  have e2 : ¬ (r : Int) = 92 := by omega
  have CA := fun q => AppendRune_any (hb.drewN q) r (by omega) (by omega) (hl.le (by omega))
  have HCA := Lib.hid CA
  have HC := Lib.hid C126
  clear CA C126 hl hb
  go_enter Tryz.func146, Tryz.ntmps146
  go_wp2_with (first
    | (go_at_call 126; refine (HC.out).mono ?_; rintro e w1 ⟨rfl, q, rfl⟩)
    | (go_at_call 120; refine (HCA.out _).mono ?_; rintro e w2 ⟨v2, rfl, hA⟩; have HA := Lib.hid hA; clear hA))
  go_ret
  exact ⟨_, rfl, HA.out⟩

set_option maxRecDepth 100000 in
set_option maxHeartbeats 2000000 in
theorem esc_n7 {T : Lib.PrintTabs} {W w : World} {V v : Value} {xs : Bytes} (hb : App W V w v xs) (C126 : Calls Tryz.prog 126 #[.int .i32 7] w fun e w' => e = .returned (.bool false) ∧ ∃ q, w' = w.drewN q) (hl : Room (xs.length + 10)) :
    Calls Tryz.prog 146 #[v, .int .i32 7, .int .u8 34, .bool false, .bool false] w (Apd W V (xs ++ [92, 97])) := by
  have h1 : Room (xs.length + (⟨#[92, 97]⟩ : ByteArray).size) := hl.le (by show xs.length + 2 ≤ _; omega)
  have HB := Lib.hid (fun q => hb.drewN q)
  have H1 := Lib.hid h1
  have HC := Lib.hid C126
  clear hb hl h1 C126
  go_enter Tryz.func146, Tryz.ntmps146
  go_wp2_with (first
    | (go_at_call 126; refine (HC.out).mono ?_; rintro e w1 ⟨rfl, q, rfl⟩)
    | (at_builtin; refine wpList_app_str rfl (.tmp 118) _ 26 9 rfl 5 byte5 Tryz.underlying26 Tryz.underlying9 _ xs rfl ⟨#[92, 97]⟩ rfl W V (HB.out _) H1.out ?_; intro v2 w2 hA2; have HA2 := Lib.hid hA2; clear hA2))
  go_ret
  exact ⟨_, rfl, HA2.out⟩

set_option maxRecDepth 100000 in
set_option maxHeartbeats 2000000 in
theorem esc_n8 {T : Lib.PrintTabs} {W w : World} {V v : Value} {xs : Bytes} (hb : App W V w v xs) (C126 : Calls Tryz.prog 126 #[.int .i32 8] w fun e w' => e = .returned (.bool false) ∧ ∃ q, w' = w.drewN q) (hl : Room (xs.length + 10)) :
    Calls Tryz.prog 146 #[v, .int .i32 8, .int .u8 34, .bool false, .bool false] w (Apd W V (xs ++ [92, 98])) := by
  have h1 : Room (xs.length + (⟨#[92, 98]⟩ : ByteArray).size) := hl.le (by show xs.length + 2 ≤ _; omega)
  have HB := Lib.hid (fun q => hb.drewN q)
  have H1 := Lib.hid h1
  have HC := Lib.hid C126
  clear hb hl h1 C126
  go_enter Tryz.func146, Tryz.ntmps146
  go_wp2_with (first
    | (go_at_call 126; refine (HC.out).mono ?_; rintro e w1 ⟨rfl, q, rfl⟩)
    | (at_builtin; refine wpList_app_str rfl (.tmp 122) _ 26 9 rfl 5 byte5 Tryz.underlying26 Tryz.underlying9 _ xs rfl ⟨#[92, 98]⟩ rfl W V (HB.out _) H1.out ?_; intro v2 w2 hA2; have HA2 := Lib.hid hA2; clear hA2))
  go_ret
  exact ⟨_, rfl, HA2.out⟩

set_option maxRecDepth 100000 in
set_option maxHeartbeats 2000000 in
theorem esc_n12 {T : Lib.PrintTabs} {W w : World} {V v : Value} {xs : Bytes} (hb : App W V w v xs) (C126 : Calls Tryz.prog 126 #[.int .i32 12] w fun e w' => e = .returned (.bool false) ∧ ∃ q, w' = w.drewN q) (hl : Room (xs.length + 10)) :
    Calls Tryz.prog 146 #[v, .int .i32 12, .int .u8 34, .bool false, .bool false] w (Apd W V (xs ++ [92, 102])) := by
  have h1 : Room (xs.length + (⟨#[92, 102]⟩ : ByteArray).size) := hl.le (by show xs.length + 2 ≤ _; omega)
  have HB := Lib.hid (fun q => hb.drewN q)
  have H1 := Lib.hid h1
  have HC := Lib.hid C126
  clear hb hl h1 C126
  go_enter Tryz.func146, Tryz.ntmps146
  go_wp2_with (first
    | (go_at_call 126; refine (HC.out).mono ?_; rintro e w1 ⟨rfl, q, rfl⟩)
    | (at_builtin; refine wpList_app_str rfl (.tmp 126) _ 26 9 rfl 5 byte5 Tryz.underlying26 Tryz.underlying9 _ xs rfl ⟨#[92, 102]⟩ rfl W V (HB.out _) H1.out ?_; intro v2 w2 hA2; have HA2 := Lib.hid hA2; clear hA2))
  go_ret
  exact ⟨_, rfl, HA2.out⟩

set_option maxRecDepth 100000 in
set_option maxHeartbeats 2000000 in
theorem esc_n10 {T : Lib.PrintTabs} {W w : World} {V v : Value} {xs : Bytes} (hb : App W V w v xs) (C126 : Calls Tryz.prog 126 #[.int .i32 10] w fun e w' => e = .returned (.bool false) ∧ ∃ q, w' = w.drewN q) (hl : Room (xs.length + 10)) :
    Calls Tryz.prog 146 #[v, .int .i32 10, .int .u8 34, .bool false, .bool false] w (Apd W V (xs ++ [92, 110])) := by
  have h1 : Room (xs.length + (⟨#[92, 110]⟩ : ByteArray).size) := hl.le (by show xs.length + 2 ≤ _; omega)
  have HB := Lib.hid (fun q => hb.drewN q)
  have H1 := Lib.hid h1
  have HC := Lib.hid C126
  clear hb hl h1 C126
  go_enter Tryz.func146, Tryz.ntmps146
  go_wp2_with (first
    | (go_at_call 126; refine (HC.out).mono ?_; rintro e w1 ⟨rfl, q, rfl⟩)
    | (at_builtin; refine wpList_app_str rfl (.tmp 130) _ 26 9 rfl 5 byte5 Tryz.underlying26 Tryz.underlying9 _ xs rfl ⟨#[92, 110]⟩ rfl W V (HB.out _) H1.out ?_; intro v2 w2 hA2; have HA2 := Lib.hid hA2; clear hA2))
  go_ret
  exact ⟨_, rfl, HA2.out⟩

set_option maxRecDepth 100000 in
set_option maxHeartbeats 2000000 in
theorem esc_n13 {T : Lib.PrintTabs} {W w : World} {V v : Value} {xs : Bytes} (hb : App W V w v xs) (C126 : Calls Tryz.prog 126 #[.int .i32 13] w fun e w' => e = .returned (.bool false) ∧ ∃ q, w' = w.drewN q) (hl : Room (xs.length + 10)) :
    Calls Tryz.prog 146 #[v, .int .i32 13, .int .u8 34, .bool false, .bool false] w (Apd W V (xs ++ [92, 114])) := by
  have h1 : Room (xs.length + (⟨#[92, 114]⟩ : ByteArray).size) := hl.le (by show xs.length + 2 ≤ _; omega)
  have HB := Lib.hid (fun q => hb.drewN q)
  have H1 := Lib.hid h1
  have HC := Lib.hid C126
  clear hb hl h1 C126
  go_enter Tryz.func146, Tryz.ntmps146
  go_wp2_with (first
    | (go_at_call 126; refine (HC.out).mono ?_; rintro e w1 ⟨rfl, q, rfl⟩)
    | (at_builtin; refine wpList_app_str rfl (.tmp 134) _ 26 9 rfl 5 byte5 Tryz.underlying26 Tryz.underlying9 _ xs rfl ⟨#[92, 114]⟩ rfl W V (HB.out _) H1.out ?_; intro v2 w2 hA2; have HA2 := Lib.hid hA2; clear hA2))
  go_ret
  exact ⟨_, rfl, HA2.out⟩

set_option maxRecDepth 100000 in
set_option maxHeartbeats 2000000 in
theorem esc_n9 {T : Lib.PrintTabs} {W w : World} {V v : Value} {xs : Bytes} (hb : App W V w v xs) (C126 : Calls Tryz.prog 126 #[.int .i32 9] w fun e w' => e = .returned (.bool false) ∧ ∃ q, w' = w.drewN q) (hl : Room (xs.length + 10)) :
    Calls Tryz.prog 146 #[v, .int .i32 9, .int .u8 34, .bool false, .bool false] w (Apd W V (xs ++ [92, 116])) := by
  have h1 : Room (xs.length + (⟨#[92, 116]⟩ : ByteArray).size) := hl.le (by show xs.length + 2 ≤ _; omega)
  have HB := Lib.hid (fun q => hb.drewN q)
  have H1 := Lib.hid h1
  have HC := Lib.hid C126
  clear hb hl h1 C126
  go_enter Tryz.func146, Tryz.ntmps146
  go_wp2_with (first
    | (go_at_call 126; refine (HC.out).mono ?_; rintro e w1 ⟨rfl, q, rfl⟩)
    | (at_builtin; refine wpList_app_str rfl (.tmp 138) _ 26 9 rfl 5 byte5 Tryz.underlying26 Tryz.underlying9 _ xs rfl ⟨#[92, 116]⟩ rfl W V (HB.out _) H1.out ?_; intro v2 w2 hA2; have HA2 := Lib.hid hA2; clear hA2))
  go_ret
  exact ⟨_, rfl, HA2.out⟩

set_option maxRecDepth 100000 in
set_option maxHeartbeats 2000000 in
theorem esc_n11 {T : Lib.PrintTabs} {W w : World} {V v : Value} {xs : Bytes} (hb : App W V w v xs) (C126 : Calls Tryz.prog 126 #[.int .i32 11] w fun e w' => e = .returned (.bool false) ∧ ∃ q, w' = w.drewN q) (hl : Room (xs.length + 10)) :
    Calls Tryz.prog 146 #[v, .int .i32 11, .int .u8 34, .bool false, .bool false] w (Apd W V (xs ++ [92, 118])) := by
  have h1 : Room (xs.length + (⟨#[92, 118]⟩ : ByteArray).size) := hl.le (by show xs.length + 2 ≤ _; omega)
  have HB := Lib.hid (fun q => hb.drewN q)
  have H1 := Lib.hid h1
  have HC := Lib.hid C126
  clear hb hl h1 C126
  go_enter Tryz.func146, Tryz.ntmps146
  go_wp2_with (first
    | (go_at_call 126; refine (HC.out).mono ?_; rintro e w1 ⟨rfl, q, rfl⟩)
    | (at_builtin; refine wpList_app_str rfl (.tmp 142) _ 26 9 rfl 5 byte5 Tryz.underlying26 Tryz.underlying9 _ xs rfl ⟨#[92, 118]⟩ rfl W V (HB.out _) H1.out ?_; intro v2 w2 hA2; have HA2 := Lib.hid hA2; clear hA2))
  go_ret
  exact ⟨_, rfl, HA2.out⟩

set_option maxRecDepth 100000 in
set_option maxHeartbeats 2000000 in
theorem esc_xlo {T : Lib.PrintTabs} {W w : World} {V v : Value} {xs : Bytes} (hb : App W V w v xs) (r : Nat) (h32 : r < 32) (h34 : r ≠ 34) (h92 : r ≠ 92) (h7 : r ≠ 7) (h8 : r ≠ 8) (h12 : r ≠ 12) (h10 : r ≠ 10) (h13 : r ≠ 13) (h9 : r ≠ 9) (h11 : r ≠ 11) (C126 : Calls Tryz.prog 126 #[.int .i32 r] w fun e w' => e = .returned (.bool false) ∧ ∃ q, w' = w.drewN q) (hl : Room (xs.length + 10)) :
    Calls Tryz.prog 146 #[v, .int .i32 r, .int .u8 34, .bool false, .bool false] w (Apd W V (xs ++ [92, 120, B (Lib.hexDigit (r / 16)), B (Lib.hexDigit (r % 16))])) := by
  have hne : ¬ (r : Int) = 34 ∧ ¬ (r : Int) = 92 ∧ ¬ (r : Int) = 7 ∧ ¬ (r : Int) = 8 ∧ ¬ (r : Int) = 12 ∧ ¬ (r : Int) = 10 ∧ ¬ (r : Int) = 13 ∧ ¬ (r : Int) = 9 ∧ ¬ (r : Int) = 11 := by omega
  obtain ⟨ne34, ne92, ne7, ne8, ne12, ne10, ne13, ne9, ne11⟩ := hne
  obtain ⟨d1, hd1⟩ : ∃ d, d = r / 16 := ⟨_, rfl⟩
  obtain ⟨d2, hd2⟩ : ∃ d, d = r % 16 := ⟨_, rfl⟩
  have hq1 : d1 < 16 := by omega
  have hq2 : d2 < 16 := by omega
  have hdiv : (r : Int) / 16 = (d1 : Int) := by omega
  have hand : bits .and .u8 (r : Int) 15 = (d2 : Int) := by rw [hd2]; exact and15_u8n r (by omega)
  have hw8 : IntKind.u8.wrap (r : Int) = r := by rw [IntKind.wrap_u8]; omega
  have hda := bt_eq ⟨#[48, 49, 50, 51, 52, 53, 54, 55, 56, 57, 97, 98, 99, 100, 101, 102]⟩ d1 hq1
  have hdb := bt_eq ⟨#[48, 49, 50, 51, 52, 53, 54, 55, 56, 57, 97, 98, 99, 100, 101, 102]⟩ d2 hq2
  have hi1 : (d1 : Int) < 16 := by omega
  have hi2 : (d2 : Int) < 16 := by omega
  rw [← hd1, ← hd2, ← B_hexd d1 hq1, ← B_hexd d2 hq2]
  have H32 := Lib.hid (fun _ : Unit => show (r : Int) < 32 from by omega)
  skip
  have h1 : Room (xs.length + (⟨#[92, 120]⟩ : ByteArray).size) := hl.le (by show xs.length + 2 ≤ _; omega)
  have h2 : Room ((xs ++ [92, 120]).length + 1) := hl.le (by rw [List.length_append]; simp)
  have h3 : Room ((xs ++ [92, 120] ++ ([bt ⟨#[48, 49, 50, 51, 52, 53, 54, 55, 56, 57, 97, 98, 99, 100, 101, 102]⟩ d1] : List Int).map B).length + 1) := hl.le (by rw [List.length_append, List.length_append]; simp)
  have hc1 : ∀ c ∈ ([bt ⟨#[48, 49, 50, 51, 52, 53, 54, 55, 56, 57, 97, 98, 99, 100, 101, 102]⟩ d1] : List Int), 0 ≤ c ∧ c ≤ 255 := by intro c hc; rw [List.mem_singleton.1 hc]; exact ⟨bt_nonneg _ _, bt_le _ _⟩
  have hc2 : ∀ c ∈ ([bt ⟨#[48, 49, 50, 51, 52, 53, 54, 55, 56, 57, 97, 98, 99, 100, 101, 102]⟩ d2] : List Int), 0 ≤ c ∧ c ≤ 255 := by intro c hc; rw [List.mem_singleton.1 hc]; exact ⟨bt_nonneg _ _, bt_le _ _⟩
  have HB := Lib.hid (fun q => hb.drewN q)
  have H1 := Lib.hid h1
  have H2 := Lib.hid h2
  have H3 := Lib.hid h3
  have HC1 := Lib.hid hc1
  have HC2 := Lib.hid hc2
  have HC := Lib.hid C126
  clear hb hl h1 h2 h3 C126 hd1 hd2 hc1 hc2 h34 h92 h7 h8 h12 h10 h13 h9 h11 h32
  go_enter Tryz.func146, Tryz.ntmps146
  go_upto_region 12 with (go_at_call 126; refine (HC.out).mono ?_; rintro e w1 ⟨rfl, q, rfl⟩)
  have h32i := H32.out ()
  go_upto_region 15 with fail
  clear h32i
  go_wp2_with (first
    | (go_at_call 126; refine (HC.out).mono ?_; rintro e w1 ⟨rfl, q, rfl⟩)
    | (at_builtin; refine wpList_app_str rfl (.tmp 70) _ 26 9 rfl 5 byte5 Tryz.underlying26 Tryz.underlying9 _ xs rfl ⟨#[92, 120]⟩ rfl W V (HB.out _) H1.out ?_; intro v2 w2 hA2; have HA2 := Lib.hid hA2; clear hA2)
    | (at_builtin; refine wpList_app_lit rfl (.tmp 72) (.tmp 77) 26 rfl 5 byte5 Tryz.underlying26 _ _ rfl [bt ⟨#[48, 49, 50, 51, 52, 53, 54, 55, 56, 57, 97, 98, 99, 100, 101, 102]⟩ d1] 1 rfl rfl W V HA2.out 5 _ rfl HC1.out H2.out ?_; intro v3 w3 hA3; have HA3 := Lib.hid hA3; clear hA3)
    | (at_builtin; refine wpList_app_lit rfl (.tmp 79) (.tmp 84) 26 rfl 5 byte5 Tryz.underlying26 _ _ rfl [bt ⟨#[48, 49, 50, 51, 52, 53, 54, 55, 56, 57, 97, 98, 99, 100, 101, 102]⟩ d2] 1 rfl rfl W V HA3.out 5 _ rfl HC2.out H3.out ?_; intro v4 w4 hA4; have HA4 := Lib.hid hA4; clear hA4))
  go_ret
  have h := HA4.out
  simp only [List.append_assoc] at h
  exact ⟨_, rfl, h⟩

set_option maxRecDepth 100000 in
set_option maxHeartbeats 2000000 in
theorem esc_xdel {T : Lib.PrintTabs} {W w : World} {V v : Value} {xs : Bytes} (hb : App W V w v xs) (C126 : Calls Tryz.prog 126 #[.int .i32 127] w fun e w' => e = .returned (.bool false) ∧ ∃ q, w' = w.drewN q) (hl : Room (xs.length + 10)) :
    Calls Tryz.prog 146 #[v, .int .i32 127, .int .u8 34, .bool false, .bool false] w (Apd W V (xs ++ [92, 120, 55, 102])) := by
  have h1 : Room (xs.length + (⟨#[92, 120]⟩ : ByteArray).size) := hl.le (by show xs.length + 2 ≤ _; omega)
  have h2 : Room ((xs ++ [92, 120]).length + 1) := hl.le (by rw [List.length_append]; simp)
  have h3 : Room ((xs ++ [92, 120] ++ ([55] : List Int).map B).length + 1) := hl.le (by rw [List.length_append, List.length_append]; simp)
  have hc1 : ∀ c ∈ ([55] : List Int), 0 ≤ c ∧ c ≤ 255 := by decide
  have hc2 : ∀ c ∈ ([102] : List Int), 0 ≤ c ∧ c ≤ 255 := by decide
  have HB := Lib.hid (fun q => hb.drewN q)
  have H1 := Lib.hid h1
  have H2 := Lib.hid h2
  have H3 := Lib.hid h3
  have HC1 := Lib.hid hc1
  have HC2 := Lib.hid hc2
  have HC := Lib.hid C126
  clear hb hl h1 h2 h3 C126 hc1 hc2
  go_enter Tryz.func146, Tryz.ntmps146
  go_wp2_with (first
    | (go_at_call 126; refine (HC.out).mono ?_; rintro e w1 ⟨rfl, q, rfl⟩)
    | (at_builtin; refine wpList_app_str rfl (.tmp 70) _ 26 9 rfl 5 byte5 Tryz.underlying26 Tryz.underlying9 _ xs rfl ⟨#[92, 120]⟩ rfl W V (HB.out _) H1.out ?_; intro v2 w2 hA2; have HA2 := Lib.hid hA2; clear hA2)
    | (at_builtin; refine wpList_app_lit rfl (.tmp 72) (.tmp 77) 26 rfl 5 byte5 Tryz.underlying26 _ _ rfl [55] 1 rfl rfl W V HA2.out 5 _ rfl HC1.out H2.out ?_; intro v3 w3 hA3; have HA3 := Lib.hid hA3; clear hA3)
    | (at_builtin; refine wpList_app_lit rfl (.tmp 79) (.tmp 84) 26 rfl 5 byte5 Tryz.underlying26 _ _ rfl [102] 1 rfl rfl W V HA3.out 5 _ rfl HC2.out H3.out ?_; intro v4 w4 hA4; have HA4 := Lib.hid hA4; clear hA4))
  go_ret
  have h := HA4.out
  simp only [List.append_assoc] at h
  exact ⟨_, rfl, h⟩

set_option maxRecDepth 100000 in
set_option maxHeartbeats 2000000 in
theorem esc_u4 {T : Lib.PrintTabs} {W w : World} {V v : Value} {xs : Bytes} (hb : App W V w v xs) (r : Nat) (h128 : 128 ≤ r) (hlt : r < 65536) (hv : r < 55296 ∨ (57343 < r ∧ r ≤ 1114111)) (h34 : r ≠ 34) (h92 : r ≠ 92) (h7 : r ≠ 7) (h8 : r ≠ 8) (h12 : r ≠ 12) (h10 : r ≠ 10) (h13 : r ≠ 13) (h9 : r ≠ 9) (h11 : r ≠ 11) (C126 : Calls Tryz.prog 126 #[.int .i32 r] w fun e w' => e = .returned (.bool false) ∧ ∃ q, w' = w.drewN q) (hl : Room (xs.length + 10)) :
    Calls Tryz.prog 146 #[v, .int .i32 r, .int .u8 34, .bool false, .bool false] w (Apd W V (xs ++ [92, 117, B (Lib.hexDigit (r / 4096 % 16)), B (Lib.hexDigit (r / 256 % 16)), B (Lib.hexDigit (r / 16 % 16)), B (Lib.hexDigit (r / 1 % 16))])) := by
  have hne : ¬ (r : Int) = 34 ∧ ¬ (r : Int) = 92 ∧ ¬ (r : Int) = 7 ∧ ¬ (r : Int) = 8 ∧ ¬ (r : Int) = 12 ∧ ¬ (r : Int) = 10 ∧ ¬ (r : Int) = 13 ∧ ¬ (r : Int) = 9 ∧ ¬ (r : Int) = 11 := by omega
  obtain ⟨ne34, ne92, ne7, ne8, ne12, ne10, ne13, ne9, ne11⟩ := hne
  obtain ⟨d3, hd3⟩ : ∃ d, d = r / 4096 % 16 := ⟨_, rfl⟩
  have hq3 : d3 < 16 := by omega
  have hda3 := bt_eq ⟨#[48, 49, 50, 51, 52, 53, 54, 55, 56, 57, 97, 98, 99, 100, 101, 102]⟩ d3 hq3
  have hi3 : (d3 : Int) < 16 := by omega
  obtain ⟨k3, hk3⟩ : ∃ k, k = r / 4096 := ⟨_, rfl⟩
  have hdiv3 : (r : Int) / 4096 = (k3 : Int) := by omega
  have hand3 : bits .and .i32 (k3 : Int) 15 = (d3 : Int) := by rw [hd3, ← hk3]; exact and15_i32 k3 (by omega)
  obtain ⟨d2, hd2⟩ : ∃ d, d = r / 256 % 16 := ⟨_, rfl⟩
  have hq2 : d2 < 16 := by omega
  have hda2 := bt_eq ⟨#[48, 49, 50, 51, 52, 53, 54, 55, 56, 57, 97, 98, 99, 100, 101, 102]⟩ d2 hq2
  have hi2 : (d2 : Int) < 16 := by omega
  obtain ⟨k2, hk2⟩ : ∃ k, k = r / 256 := ⟨_, rfl⟩
  have hdiv2 : (r : Int) / 256 = (k2 : Int) := by omega
  have hand2 : bits .and .i32 (k2 : Int) 15 = (d2 : Int) := by rw [hd2, ← hk2]; exact and15_i32 k2 (by omega)
  obtain ⟨d1, hd1⟩ : ∃ d, d = r / 16 % 16 := ⟨_, rfl⟩
  have hq1 : d1 < 16 := by omega
  have hda1 := bt_eq ⟨#[48, 49, 50, 51, 52, 53, 54, 55, 56, 57, 97, 98, 99, 100, 101, 102]⟩ d1 hq1
  have hi1 : (d1 : Int) < 16 := by omega
  obtain ⟨k1, hk1⟩ : ∃ k, k = r / 16 := ⟨_, rfl⟩
  have hdiv1 : (r : Int) / 16 = (k1 : Int) := by omega
  have hand1 : bits .and .i32 (k1 : Int) 15 = (d1 : Int) := by rw [hd1, ← hk1]; exact and15_i32 k1 (by omega)
  obtain ⟨d0, hd0⟩ : ∃ d, d = r / 1 % 16 := ⟨_, rfl⟩
  have hq0 : d0 < 16 := by omega
  have hda0 := bt_eq ⟨#[48, 49, 50, 51, 52, 53, 54, 55, 56, 57, 97, 98, 99, 100, 101, 102]⟩ d0 hq0
  have hi0 : (d0 : Int) < 16 := by omega
  have hand00 : bits .and .i32 (r : Int) 15 = (d0 : Int) := by rw [hd0, Nat.div_one]; exact and15_i32 r (by omega)
  rw [← hd3, ← hd2, ← hd1, ← hd0, ← B_hexd d3 hq3, ← B_hexd d2 hq2, ← B_hexd d1 hq1, ← B_hexd d0 hq0]
  have h32i : ¬ (r : Int) < 32 := by omega
  have h127 : ¬ (r : Int) = 127 := by omega
  have H64 := Lib.hid (fun _ : Unit => show (r : Int) < 65536 from by omega)
  have H32 := Lib.hid (fun _ : Unit => And.intro h32i h127)
  clear h32i h127
  have CV := fun W => ValidRune_yes r hv W
  have hl1 : Room (xs.length + (⟨#[92, 117]⟩ : ByteArray).size) := hl.le (by show xs.length + 2 ≤ _; omega)
  have H1 := Lib.hid hl1
  have hbx : ∀ d : Nat, ∀ c ∈ ([bt ⟨#[48, 49, 50, 51, 52, 53, 54, 55, 56, 57, 97, 98, 99, 100, 101, 102]⟩ d] : List Int), 0 ≤ c ∧ c ≤ 255 := by intro d c hc; rw [List.mem_singleton.1 hc]; exact ⟨bt_nonneg _ _, bt_le _ _⟩
  have HBX := Lib.hid hbx
  have hrm : ∀ z : Bytes, z.length ≤ 9 → Room ((xs ++ z).length + 1) := by intro z hz; exact hl.le (by rw [List.length_append]; omega)
  have HRM := Lib.hid hrm
  have hr3 : Room ((xs ++ [92, 117]).length + 1) := by
    have := hrm ([92, 117]) (by simp)
    simpa only [List.append_assoc] using this
  have HR3 := Lib.hid hr3
  have hr2 : Room ((xs ++ [92, 117] ++ ([bt ⟨#[48, 49, 50, 51, 52, 53, 54, 55, 56, 57, 97, 98, 99, 100, 101, 102]⟩ d3] : List Int).map B).length + 1) := by
    have := hrm ([92, 117] ++ ([bt ⟨#[48, 49, 50, 51, 52, 53, 54, 55, 56, 57, 97, 98, 99, 100, 101, 102]⟩ d3] : List Int).map B) (by simp)
    simpa only [List.append_assoc] using this
  have HR2 := Lib.hid hr2
  have hr1 : Room ((xs ++ [92, 117] ++ ([bt ⟨#[48, 49, 50, 51, 52, 53, 54, 55, 56, 57, 97, 98, 99, 100, 101, 102]⟩ d3] : List Int).map B ++ ([bt ⟨#[48, 49, 50, 51, 52, 53, 54, 55, 56, 57, 97, 98, 99, 100, 101, 102]⟩ d2] : List Int).map B).length + 1) := by
    have := hrm ([92, 117] ++ ([bt ⟨#[48, 49, 50, 51, 52, 53, 54, 55, 56, 57, 97, 98, 99, 100, 101, 102]⟩ d3] : List Int).map B ++ ([bt ⟨#[48, 49, 50, 51, 52, 53, 54, 55, 56, 57, 97, 98, 99, 100, 101, 102]⟩ d2] : List Int).map B) (by simp)
    simpa only [List.append_assoc] using this
  have HR1 := Lib.hid hr1
  have hr0 : Room ((xs ++ [92, 117] ++ ([bt ⟨#[48, 49, 50, 51, 52, 53, 54, 55, 56, 57, 97, 98, 99, 100, 101, 102]⟩ d3] : List Int).map B ++ ([bt ⟨#[48, 49, 50, 51, 52, 53, 54, 55, 56, 57, 97, 98, 99, 100, 101, 102]⟩ d2] : List Int).map B ++ ([bt ⟨#[48, 49, 50, 51, 52, 53, 54, 55, 56, 57, 97, 98, 99, 100, 101, 102]⟩ d1] : List Int).map B).length + 1) := by
    have := hrm ([92, 117] ++ ([bt ⟨#[48, 49, 50, 51, 52, 53, 54, 55, 56, 57, 97, 98, 99, 100, 101, 102]⟩ d3] : List Int).map B ++ ([bt ⟨#[48, 49, 50, 51, 52, 53, 54, 55, 56, 57, 97, 98, 99, 100, 101, 102]⟩ d2] : List Int).map B ++ ([bt ⟨#[48, 49, 50, 51, 52, 53, 54, 55, 56, 57, 97, 98, 99, 100, 101, 102]⟩ d1] : List Int).map B) (by simp)
    simpa only [List.append_assoc] using this
  have HR0 := Lib.hid hr0
  have HB := Lib.hid (fun q => hb.drewN q)
  have HC := Lib.hid C126
  have HV := Lib.hid CV
  clear hb hl hl1 hbx hrm C126 CV hv h128 hlt hd3 hr3 hk3 hd2 hr2 hk2 hd1 hr1 hk1 hd0 hr0 h34 h92 h7 h8 h12 h10 h13 h9 h11
  go_enter Tryz.func146, Tryz.ntmps146
  go_upto_region 12 with (go_at_call 126; refine (HC.out).mono ?_; rintro e w1 ⟨rfl, q, rfl⟩)
  obtain ⟨h32i, h127⟩ := H32.out ()
  go_upto_region 13 with fail
  clear h32i h127
  go_upto_region 14 with (go_at_call 145; refine (HV.out _).mono ?_; rintro e w1 ⟨rfl, rfl⟩)
  have h64 := H64.out ()
  go_upto_region 19 with fail
  clear h64
  go_wp2_with (first
    | (at_builtin; refine wpList_app_str rfl (.tmp 86) _ 26 9 rfl 5 byte5 Tryz.underlying26 Tryz.underlying9 _ xs rfl ⟨#[92, 117]⟩ rfl W V (HB.out _) H1.out ?_; intro v2 w2 hA2; have HA := Lib.hid hA2; clear hA2))
  refine wp_loop_rounds 5 ?_
  rw [rounds_succ]
  go_wp2_with (at_builtin; refine wpList_app_lit rfl (.tmp 92) (.tmp 99) 26 rfl 5 byte5 Tryz.underlying26 _ _ rfl [bt ⟨#[48, 49, 50, 51, 52, 53, 54, 55, 56, 57, 97, 98, 99, 100, 101, 102]⟩ d3] 1 rfl rfl W V HA.out 5 _ rfl (HBX.out d3) HR3.out ?_; clear HA; intro v3 w3 hA3; have HA := Lib.hid hA3; clear hA3)
  rw [rounds_succ]
  go_wp2_with (at_builtin; refine wpList_app_lit rfl (.tmp 92) (.tmp 99) 26 rfl 5 byte5 Tryz.underlying26 _ _ rfl [bt ⟨#[48, 49, 50, 51, 52, 53, 54, 55, 56, 57, 97, 98, 99, 100, 101, 102]⟩ d2] 1 rfl rfl W V HA.out 5 _ rfl (HBX.out d2) HR2.out ?_; clear HA; intro v3 w3 hA3; have HA := Lib.hid hA3; clear hA3)
  rw [rounds_succ]
  go_wp2_with (at_builtin; refine wpList_app_lit rfl (.tmp 92) (.tmp 99) 26 rfl 5 byte5 Tryz.underlying26 _ _ rfl [bt ⟨#[48, 49, 50, 51, 52, 53, 54, 55, 56, 57, 97, 98, 99, 100, 101, 102]⟩ d1] 1 rfl rfl W V HA.out 5 _ rfl (HBX.out d1) HR1.out ?_; clear HA; intro v3 w3 hA3; have HA := Lib.hid hA3; clear hA3)
  rw [rounds_succ]
  go_wp2_with (at_builtin; refine wpList_app_lit rfl (.tmp 92) (.tmp 99) 26 rfl 5 byte5 Tryz.underlying26 _ _ rfl [bt ⟨#[48, 49, 50, 51, 52, 53, 54, 55, 56, 57, 97, 98, 99, 100, 101, 102]⟩ d0] 1 rfl rfl W V HA.out 5 _ rfl (HBX.out d0) HR0.out ?_; clear HA; intro v3 w3 hA3; have HA := Lib.hid hA3; clear hA3)
  rw [rounds_succ]
  go_wp2_with fail
  try rw [Exit.noGoto_ret]
  go_ret
  have h := HA.out
  simp only [List.append_assoc] at h
  exact ⟨_, rfl, h⟩

set_option maxRecDepth 100000 in
set_option maxHeartbeats 2000000 in
theorem esc_u8 {T : Lib.PrintTabs} {W w : World} {V v : Value} {xs : Bytes} (hb : App W V w v xs) (r : Nat) (h128 : 65536 ≤ r) (hlt : r ≤ 1114111) (hv : r < 55296 ∨ (57343 < r ∧ r ≤ 1114111)) (h34 : r ≠ 34) (h92 : r ≠ 92) (h7 : r ≠ 7) (h8 : r ≠ 8) (h12 : r ≠ 12) (h10 : r ≠ 10) (h13 : r ≠ 13) (h9 : r ≠ 9) (h11 : r ≠ 11) (C126 : Calls Tryz.prog 126 #[.int .i32 r] w fun e w' => e = .returned (.bool false) ∧ ∃ q, w' = w.drewN q) (hl : Room (xs.length + 10)) :
    Calls Tryz.prog 146 #[v, .int .i32 r, .int .u8 34, .bool false, .bool false] w (Apd W V (xs ++ [92, 85, B (Lib.hexDigit (r / 268435456 % 16)), B (Lib.hexDigit (r / 16777216 % 16)), B (Lib.hexDigit (r / 1048576 % 16)), B (Lib.hexDigit (r / 65536 % 16)), B (Lib.hexDigit (r / 4096 % 16)), B (Lib.hexDigit (r / 256 % 16)), B (Lib.hexDigit (r / 16 % 16)), B (Lib.hexDigit (r / 1 % 16))])) := by
  have hne : ¬ (r : Int) = 34 ∧ ¬ (r : Int) = 92 ∧ ¬ (r : Int) = 7 ∧ ¬ (r : Int) = 8 ∧ ¬ (r : Int) = 12 ∧ ¬ (r : Int) = 10 ∧ ¬ (r : Int) = 13 ∧ ¬ (r : Int) = 9 ∧ ¬ (r : Int) = 11 := by omega
  obtain ⟨ne34, ne92, ne7, ne8, ne12, ne10, ne13, ne9, ne11⟩ := hne
  obtain ⟨d7, hd7⟩ : ∃ d, d = r / 268435456 % 16 := ⟨_, rfl⟩
  have hq7 : d7 < 16 := by omega
  have hda7 := bt_eq ⟨#[48, 49, 50, 51, 52, 53, 54, 55, 56, 57, 97, 98, 99, 100, 101, 102]⟩ d7 hq7
  have hi7 : (d7 : Int) < 16 := by omega
  obtain ⟨k7, hk7⟩ : ∃ k, k = r / 268435456 := ⟨_, rfl⟩
  have hdiv7 : (r : Int) / 268435456 = (k7 : Int) := by omega
  have hand7 : bits .and .i32 (k7 : Int) 15 = (d7 : Int) := by rw [hd7, ← hk7]; exact and15_i32 k7 (by omega)
  obtain ⟨d6, hd6⟩ : ∃ d, d = r / 16777216 % 16 := ⟨_, rfl⟩
  have hq6 : d6 < 16 := by omega
  have hda6 := bt_eq ⟨#[48, 49, 50, 51, 52, 53, 54, 55, 56, 57, 97, 98, 99, 100, 101, 102]⟩ d6 hq6
  have hi6 : (d6 : Int) < 16 := by omega
  obtain ⟨k6, hk6⟩ : ∃ k, k = r / 16777216 := ⟨_, rfl⟩
  have hdiv6 : (r : Int) / 16777216 = (k6 : Int) := by omega
  have hand6 : bits .and .i32 (k6 : Int) 15 = (d6 : Int) := by rw [hd6, ← hk6]; exact and15_i32 k6 (by omega)
  obtain ⟨d5, hd5⟩ : ∃ d, d = r / 1048576 % 16 := ⟨_, rfl⟩
  have hq5 : d5 < 16 := by omega
  have hda5 := bt_eq ⟨#[48, 49, 50, 51, 52, 53, 54, 55, 56, 57, 97, 98, 99, 100, 101, 102]⟩ d5 hq5
  have hi5 : (d5 : Int) < 16 := by omega
  obtain ⟨k5, hk5⟩ : ∃ k, k = r / 1048576 := ⟨_, rfl⟩
  have hdiv5 : (r : Int) / 1048576 = (k5 : Int) := by omega
  have hand5 : bits .and .i32 (k5 : Int) 15 = (d5 : Int) := by rw [hd5, ← hk5]; exact and15_i32 k5 (by omega)
  obtain ⟨d4, hd4⟩ : ∃ d, d = r / 65536 % 16 := ⟨_, rfl⟩
  have hq4 : d4 < 16 := by omega
  have hda4 := bt_eq ⟨#[48, 49, 50, 51, 52, 53, 54, 55, 56, 57, 97, 98, 99, 100, 101, 102]⟩ d4 hq4
  have hi4 : (d4 : Int) < 16 := by omega
  obtain ⟨k4, hk4⟩ : ∃ k, k = r / 65536 := ⟨_, rfl⟩
  have hdiv4 : (r : Int) / 65536 = (k4 : Int) := by omega
  have hand4 : bits .and .i32 (k4 : Int) 15 = (d4 : Int) := by rw [hd4, ← hk4]; exact and15_i32 k4 (by omega)
  obtain ⟨d3, hd3⟩ : ∃ d, d = r / 4096 % 16 := ⟨_, rfl⟩
  have hq3 : d3 < 16 := by omega
  have hda3 := bt_eq ⟨#[48, 49, 50, 51, 52, 53, 54, 55, 56, 57, 97, 98, 99, 100, 101, 102]⟩ d3 hq3
  have hi3 : (d3 : Int) < 16 := by omega
  obtain ⟨k3, hk3⟩ : ∃ k, k = r / 4096 := ⟨_, rfl⟩
  have hdiv3 : (r : Int) / 4096 = (k3 : Int) := by omega
  have hand3 : bits .and .i32 (k3 : Int) 15 = (d3 : Int) := by rw [hd3, ← hk3]; exact and15_i32 k3 (by omega)
  obtain ⟨d2, hd2⟩ : ∃ d, d = r / 256 % 16 := ⟨_, rfl⟩
  have hq2 : d2 < 16 := by omega
  have hda2 := bt_eq ⟨#[48, 49, 50, 51, 52, 53, 54, 55, 56, 57, 97, 98, 99, 100, 101, 102]⟩ d2 hq2
  have hi2 : (d2 : Int) < 16 := by omega
  obtain ⟨k2, hk2⟩ : ∃ k, k = r / 256 := ⟨_, rfl⟩
  have hdiv2 : (r : Int) / 256 = (k2 : Int) := by omega
  have hand2 : bits .and .i32 (k2 : Int) 15 = (d2 : Int) := by rw [hd2, ← hk2]; exact and15_i32 k2 (by omega)
  obtain ⟨d1, hd1⟩ : ∃ d, d = r / 16 % 16 := ⟨_, rfl⟩
  have hq1 : d1 < 16 := by omega
  have hda1 := bt_eq ⟨#[48, 49, 50, 51, 52, 53, 54, 55, 56, 57, 97, 98, 99, 100, 101, 102]⟩ d1 hq1
  have hi1 : (d1 : Int) < 16 := by omega
  obtain ⟨k1, hk1⟩ : ∃ k, k = r / 16 := ⟨_, rfl⟩
  have hdiv1 : (r : Int) / 16 = (k1 : Int) := by omega
  have hand1 : bits .and .i32 (k1 : Int) 15 = (d1 : Int) := by rw [hd1, ← hk1]; exact and15_i32 k1 (by omega)
  obtain ⟨d0, hd0⟩ : ∃ d, d = r / 1 % 16 := ⟨_, rfl⟩
  have hq0 : d0 < 16 := by omega
  have hda0 := bt_eq ⟨#[48, 49, 50, 51, 52, 53, 54, 55, 56, 57, 97, 98, 99, 100, 101, 102]⟩ d0 hq0
  have hi0 : (d0 : Int) < 16 := by omega
  have hand00 : bits .and .i32 (r : Int) 15 = (d0 : Int) := by rw [hd0, Nat.div_one]; exact and15_i32 r (by omega)
  rw [← hd7, ← hd6, ← hd5, ← hd4, ← hd3, ← hd2, ← hd1, ← hd0, ← B_hexd d7 hq7, ← B_hexd d6 hq6, ← B_hexd d5 hq5, ← B_hexd d4 hq4, ← B_hexd d3 hq3, ← B_hexd d2 hq2, ← B_hexd d1 hq1, ← B_hexd d0 hq0]
  have h32i : ¬ (r : Int) < 32 := by omega
  have h127 : ¬ (r : Int) = 127 := by omega
  have H64 := Lib.hid (fun _ : Unit => show ¬ (r : Int) < 65536 from by omega)
  have H32 := Lib.hid (fun _ : Unit => And.intro h32i h127)
  clear h32i h127
  have CV := fun W => ValidRune_yes r hv W
  have hl1 : Room (xs.length + (⟨#[92, 85]⟩ : ByteArray).size) := hl.le (by show xs.length + 2 ≤ _; omega)
  have H1 := Lib.hid hl1
  have hbx : ∀ d : Nat, ∀ c ∈ ([bt ⟨#[48, 49, 50, 51, 52, 53, 54, 55, 56, 57, 97, 98, 99, 100, 101, 102]⟩ d] : List Int), 0 ≤ c ∧ c ≤ 255 := by intro d c hc; rw [List.mem_singleton.1 hc]; exact ⟨bt_nonneg _ _, bt_le _ _⟩
  have HBX := Lib.hid hbx
  have hrm : ∀ z : Bytes, z.length ≤ 9 → Room ((xs ++ z).length + 1) := by intro z hz; exact hl.le (by rw [List.length_append]; omega)
  have HRM := Lib.hid hrm
  have hr7 : Room ((xs ++ [92, 85]).length + 1) := by
    have := hrm ([92, 85]) (by simp)
    simpa only [List.append_assoc] using this
  have HR7 := Lib.hid hr7
  have hr6 : Room ((xs ++ [92, 85] ++ ([bt ⟨#[48, 49, 50, 51, 52, 53, 54, 55, 56, 57, 97, 98, 99, 100, 101, 102]⟩ d7] : List Int).map B).length + 1) := by
    have := hrm ([92, 85] ++ ([bt ⟨#[48, 49, 50, 51, 52, 53, 54, 55, 56, 57, 97, 98, 99, 100, 101, 102]⟩ d7] : List Int).map B) (by simp)
    simpa only [List.append_assoc] using this
  have HR6 := Lib.hid hr6
  have hr5 : Room ((xs ++ [92, 85] ++ ([bt ⟨#[48, 49, 50, 51, 52, 53, 54, 55, 56, 57, 97, 98, 99, 100, 101, 102]⟩ d7] : List Int).map B ++ ([bt ⟨#[48, 49, 50, 51, 52, 53, 54, 55, 56, 57, 97, 98, 99, 100, 101, 102]⟩ d6] : List Int).map B).length + 1) := by
    have := hrm ([92, 85] ++ ([bt ⟨#[48, 49, 50, 51, 52, 53, 54, 55, 56, 57, 97, 98, 99, 100, 101, 102]⟩ d7] : List Int).map B ++ ([bt ⟨#[48, 49, 50, 51, 52, 53, 54, 55, 56, 57, 97, 98, 99, 100, 101, 102]⟩ d6] : List Int).map B) (by simp)
    simpa only [List.append_assoc] using this
  have HR5 := Lib.hid hr5
  have hr4 : Room ((xs ++ [92, 85] ++ ([bt ⟨#[48, 49, 50, 51, 52, 53, 54, 55, 56, 57, 97, 98, 99, 100, 101, 102]⟩ d7] : List Int).map B ++ ([bt ⟨#[48, 49, 50, 51, 52, 53, 54, 55, 56, 57, 97, 98, 99, 100, 101, 102]⟩ d6] : List Int).map B ++ ([bt ⟨#[48, 49, 50, 51, 52, 53, 54, 55, 56, 57, 97, 98, 99, 100, 101, 102]⟩ d5] : List Int).map B).length + 1) := by
    have := hrm ([92, 85] ++ ([bt ⟨#[48, 49, 50, 51, 52, 53, 54, 55, 56, 57, 97, 98, 99, 100, 101, 102]⟩ d7] : List Int).map B ++ ([bt ⟨#[48, 49, 50, 51, 52, 53, 54, 55, 56, 57, 97, 98, 99, 100, 101, 102]⟩ d6] : List Int).map B ++ ([bt ⟨#[48, 49, 50, 51, 52, 53, 54, 55, 56, 57, 97, 98, 99, 100, 101, 102]⟩ d5] : List Int).map B) (by simp)
    simpa only [List.append_assoc] using this
  have HR4 := Lib.hid hr4
  have hr3 : Room ((xs ++ [92, 85] ++ ([bt ⟨#[48, 49, 50, 51, 52, 53, 54, 55, 56, 57, 97, 98, 99, 100, 101, 102]⟩ d7] : List Int).map B ++ ([bt ⟨#[48, 49, 50, 51, 52, 53, 54, 55, 56, 57, 97, 98, 99, 100, 101, 102]⟩ d6] : List Int).map B ++ ([bt ⟨#[48, 49, 50, 51, 52, 53, 54, 55, 56, 57, 97, 98, 99, 100, 101, 102]⟩ d5] : List Int).map B ++ ([bt ⟨#[48, 49, 50, 51, 52, 53, 54, 55, 56, 57, 97, 98, 99, 100, 101, 102]⟩ d4] : List Int).map B).length + 1) := by
    have := hrm ([92, 85] ++ ([bt ⟨#[48, 49, 50, 51, 52, 53, 54, 55, 56, 57, 97, 98, 99, 100, 101, 102]⟩ d7] : List Int).map B ++ ([bt ⟨#[48, 49, 50, 51, 52, 53, 54, 55, 56, 57, 97, 98, 99, 100, 101, 102]⟩ d6] : List Int).map B ++ ([bt ⟨#[48, 49, 50, 51, 52, 53, 54, 55, 56, 57, 97, 98, 99, 100, 101, 102]⟩ d5] : List Int).map B ++ ([bt ⟨#[48, 49, 50, 51, 52, 53, 54, 55, 56, 57, 97, 98, 99, 100, 101, 102]⟩ d4] : List Int).map B) (by simp)
    simpa only [List.append_assoc] using this
  have HR3 := Lib.hid hr3
  have hr2 : Room ((xs ++ [92, 85] ++ ([bt ⟨#[48, 49, 50, 51, 52, 53, 54, 55, 56, 57, 97, 98, 99, 100, 101, 102]⟩ d7] : List Int).map B ++ ([bt ⟨#[48, 49, 50, 51, 52, 53, 54, 55, 56, 57, 97, 98, 99, 100, 101, 102]⟩ d6] : List Int).map B ++ ([bt ⟨#[48, 49, 50, 51, 52, 53, 54, 55, 56, 57, 97, 98, 99, 100, 101, 102]⟩ d5] : List Int).map B ++ ([bt ⟨#[48, 49, 50, 51, 52, 53, 54, 55, 56, 57, 97, 98, 99, 100, 101, 102]⟩ d4] : List Int).map B ++ ([bt ⟨#[48, 49, 50, 51, 52, 53, 54, 55, 56, 57, 97, 98, 99, 100, 101, 102]⟩ d3] : List Int).map B).length + 1) := by
    have := hrm ([92, 85] ++ ([bt ⟨#[48, 49, 50, 51, 52, 53, 54, 55, 56, 57, 97, 98, 99, 100, 101, 102]⟩ d7] : List Int).map B ++ ([bt ⟨#[48, 49, 50, 51, 52, 53, 54, 55, 56, 57, 97, 98, 99, 100, 101, 102]⟩ d6] : List Int).map B ++ ([bt ⟨#[48, 49, 50, 51, 52, 53, 54, 55, 56, 57, 97, 98, 99, 100, 101, 102]⟩ d5] : List Int).map B ++ ([bt ⟨#[48, 49, 50, 51, 52, 53, 54, 55, 56, 57, 97, 98, 99, 100, 101, 102]⟩ d4] : List Int).map B ++ ([bt ⟨#[48, 49, 50, 51, 52, 53, 54, 55, 56, 57, 97, 98, 99, 100, 101, 102]⟩ d3] : List Int).map B) (by simp)
    simpa only [List.append_assoc] using this
  have HR2 := Lib.hid hr2
  have hr1 : Room ((xs ++ [92, 85] ++ ([bt ⟨#[48, 49, 50, 51, 52, 53, 54, 55, 56, 57, 97, 98, 99, 100, 101, 102]⟩ d7] : List Int).map B ++ ([bt ⟨#[48, 49, 50, 51, 52, 53, 54, 55, 56, 57, 97, 98, 99, 100, 101, 102]⟩ d6] : List Int).map B ++ ([bt ⟨#[48, 49, 50, 51, 52, 53, 54, 55, 56, 57, 97, 98, 99, 100, 101, 102]⟩ d5] : List Int).map B ++ ([bt ⟨#[48, 49, 50, 51, 52, 53, 54, 55, 56, 57, 97, 98, 99, 100, 101, 102]⟩ d4] : List Int).map B ++ ([bt ⟨#[48, 49, 50, 51, 52, 53, 54, 55, 56, 57, 97, 98, 99, 100, 101, 102]⟩ d3] : List Int).map B ++ ([bt ⟨#[48, 49, 50, 51, 52, 53, 54, 55, 56, 57, 97, 98, 99, 100, 101, 102]⟩ d2] : List Int).map B).length + 1) := by
    have := hrm ([92, 85] ++ ([bt ⟨#[48, 49, 50, 51, 52, 53, 54, 55, 56, 57, 97, 98, 99, 100, 101, 102]⟩ d7] : List Int).map B ++ ([bt ⟨#[48, 49, 50, 51, 52, 53, 54, 55, 56, 57, 97, 98, 99, 100, 101, 102]⟩ d6] : List Int).map B ++ ([bt ⟨#[48, 49, 50, 51, 52, 53, 54, 55, 56, 57, 97, 98, 99, 100, 101, 102]⟩ d5] : List Int).map B ++ ([bt ⟨#[48, 49, 50, 51, 52, 53, 54, 55, 56, 57, 97, 98, 99, 100, 101, 102]⟩ d4] : List Int).map B ++ ([bt ⟨#[48, 49, 50, 51, 52, 53, 54, 55, 56, 57, 97, 98, 99, 100, 101, 102]⟩ d3] : List Int).map B ++ ([bt ⟨#[48, 49, 50, 51, 52, 53, 54, 55, 56, 57, 97, 98, 99, 100, 101, 102]⟩ d2] : List Int).map B) (by simp)
    simpa only [List.append_assoc] using this
  have HR1 := Lib.hid hr1
  have hr0 : Room ((xs ++ [92, 85] ++ ([bt ⟨#[48, 49, 50, 51, 52, 53, 54, 55, 56, 57, 97, 98, 99, 100, 101, 102]⟩ d7] : List Int).map B ++ ([bt ⟨#[48, 49, 50, 51, 52, 53, 54, 55, 56, 57, 97, 98, 99, 100, 101, 102]⟩ d6] : List Int).map B ++ ([bt ⟨#[48, 49, 50, 51, 52, 53, 54, 55, 56, 57, 97, 98, 99, 100, 101, 102]⟩ d5] : List Int).map B ++ ([bt ⟨#[48, 49, 50, 51, 52, 53, 54, 55, 56, 57, 97, 98, 99, 100, 101, 102]⟩ d4] : List Int).map B ++ ([bt ⟨#[48, 49, 50, 51, 52, 53, 54, 55, 56, 57, 97, 98, 99, 100, 101, 102]⟩ d3] : List Int).map B ++ ([bt ⟨#[48, 49, 50, 51, 52, 53, 54, 55, 56, 57, 97, 98, 99, 100, 101, 102]⟩ d2] : List Int).map B ++ ([bt ⟨#[48, 49, 50, 51, 52, 53, 54, 55, 56, 57, 97, 98, 99, 100, 101, 102]⟩ d1] : List Int).map B).length + 1) := by
    have := hrm ([92, 85] ++ ([bt ⟨#[48, 49, 50, 51, 52, 53, 54, 55, 56, 57, 97, 98, 99, 100, 101, 102]⟩ d7] : List Int).map B ++ ([bt ⟨#[48, 49, 50, 51, 52, 53, 54, 55, 56, 57, 97, 98, 99, 100, 101, 102]⟩ d6] : List Int).map B ++ ([bt ⟨#[48, 49, 50, 51, 52, 53, 54, 55, 56, 57, 97, 98, 99, 100, 101, 102]⟩ d5] : List Int).map B ++ ([bt ⟨#[48, 49, 50, 51, 52, 53, 54, 55, 56, 57, 97, 98, 99, 100, 101, 102]⟩ d4] : List Int).map B ++ ([bt ⟨#[48, 49, 50, 51, 52, 53, 54, 55, 56, 57, 97, 98, 99, 100, 101, 102]⟩ d3] : List Int).map B ++ ([bt ⟨#[48, 49, 50, 51, 52, 53, 54, 55, 56, 57, 97, 98, 99, 100, 101, 102]⟩ d2] : List Int).map B ++ ([bt ⟨#[48, 49, 50, 51, 52, 53, 54, 55, 56, 57, 97, 98, 99, 100, 101, 102]⟩ d1] : List Int).map B) (by simp)
    simpa only [List.append_assoc] using this
  have HR0 := Lib.hid hr0
  have HB := Lib.hid (fun q => hb.drewN q)
  have HC := Lib.hid C126
  have HV := Lib.hid CV
  clear hb hl hl1 hbx hrm C126 CV hv h128 hlt hd7 hr7 hk7 hd6 hr6 hk6 hd5 hr5 hk5 hd4 hr4 hk4 hd3 hr3 hk3 hd2 hr2 hk2 hd1 hr1 hk1 hd0 hr0 h34 h92 h7 h8 h12 h10 h13 h9 h11
  go_enter Tryz.func146, Tryz.ntmps146
  go_upto_region 12 with (go_at_call 126; refine (HC.out).mono ?_; rintro e w1 ⟨rfl, q, rfl⟩)
  obtain ⟨h32i, h127⟩ := H32.out ()
  go_upto_region 13 with fail
  clear h32i h127
  go_upto_region 14 with (go_at_call 145; refine (HV.out _).mono ?_; rintro e w1 ⟨rfl, rfl⟩)
  go_upto_if 67 with fail
  rw [show decide ((r : Int) < 65536) = false from decide_eq_false (by have := H64.out (); omega)]
  skip
  go_wp2_with (first
    | (at_builtin; refine wpList_app_str rfl (.tmp 101) _ 26 9 rfl 5 byte5 Tryz.underlying26 Tryz.underlying9 _ xs rfl ⟨#[92, 85]⟩ rfl W V (HB.out _) H1.out ?_; intro v2 w2 hA2; have HA := Lib.hid hA2; clear hA2))
  refine wp_loop_rounds 9 ?_
  rw [rounds_succ]
  go_wp2_with (at_builtin; refine wpList_app_lit rfl (.tmp 107) (.tmp 114) 26 rfl 5 byte5 Tryz.underlying26 _ _ rfl [bt ⟨#[48, 49, 50, 51, 52, 53, 54, 55, 56, 57, 97, 98, 99, 100, 101, 102]⟩ d7] 1 rfl rfl W V HA.out 5 _ rfl (HBX.out d7) HR7.out ?_; clear HA; intro v3 w3 hA3; have HA := Lib.hid hA3; clear hA3)
  rw [rounds_succ]
  go_wp2_with (at_builtin; refine wpList_app_lit rfl (.tmp 107) (.tmp 114) 26 rfl 5 byte5 Tryz.underlying26 _ _ rfl [bt ⟨#[48, 49, 50, 51, 52, 53, 54, 55, 56, 57, 97, 98, 99, 100, 101, 102]⟩ d6] 1 rfl rfl W V HA.out 5 _ rfl (HBX.out d6) HR6.out ?_; clear HA; intro v3 w3 hA3; have HA := Lib.hid hA3; clear hA3)
  rw [rounds_succ]
  go_wp2_with (at_builtin; refine wpList_app_lit rfl (.tmp 107) (.tmp 114) 26 rfl 5 byte5 Tryz.underlying26 _ _ rfl [bt ⟨#[48, 49, 50, 51, 52, 53, 54, 55, 56, 57, 97, 98, 99, 100, 101, 102]⟩ d5] 1 rfl rfl W V HA.out 5 _ rfl (HBX.out d5) HR5.out ?_; clear HA; intro v3 w3 hA3; have HA := Lib.hid hA3; clear hA3)
  rw [rounds_succ]
  go_wp2_with (at_builtin; refine wpList_app_lit rfl (.tmp 107) (.tmp 114) 26 rfl 5 byte5 Tryz.underlying26 _ _ rfl [bt ⟨#[48, 49, 50, 51, 52, 53, 54, 55, 56, 57, 97, 98, 99, 100, 101, 102]⟩ d4] 1 rfl rfl W V HA.out 5 _ rfl (HBX.out d4) HR4.out ?_; clear HA; intro v3 w3 hA3; have HA := Lib.hid hA3; clear hA3)
  rw [rounds_succ]
  go_wp2_with (at_builtin; refine wpList_app_lit rfl (.tmp 107) (.tmp 114) 26 rfl 5 byte5 Tryz.underlying26 _ _ rfl [bt ⟨#[48, 49, 50, 51, 52, 53, 54, 55, 56, 57, 97, 98, 99, 100, 101, 102]⟩ d3] 1 rfl rfl W V HA.out 5 _ rfl (HBX.out d3) HR3.out ?_; clear HA; intro v3 w3 hA3; have HA := Lib.hid hA3; clear hA3)
  rw [rounds_succ]
  go_wp2_with (at_builtin; refine wpList_app_lit rfl (.tmp 107) (.tmp 114) 26 rfl 5 byte5 Tryz.underlying26 _ _ rfl [bt ⟨#[48, 49, 50, 51, 52, 53, 54, 55, 56, 57, 97, 98, 99, 100, 101, 102]⟩ d2] 1 rfl rfl W V HA.out 5 _ rfl (HBX.out d2) HR2.out ?_; clear HA; intro v3 w3 hA3; have HA := Lib.hid hA3; clear hA3)
  rw [rounds_succ]
  go_wp2_with (at_builtin; refine wpList_app_lit rfl (.tmp 107) (.tmp 114) 26 rfl 5 byte5 Tryz.underlying26 _ _ rfl [bt ⟨#[48, 49, 50, 51, 52, 53, 54, 55, 56, 57, 97, 98, 99, 100, 101, 102]⟩ d1] 1 rfl rfl W V HA.out 5 _ rfl (HBX.out d1) HR1.out ?_; clear HA; intro v3 w3 hA3; have HA := Lib.hid hA3; clear hA3)
  rw [rounds_succ]
  go_wp2_with (at_builtin; refine wpList_app_lit rfl (.tmp 107) (.tmp 114) 26 rfl 5 byte5 Tryz.underlying26 _ _ rfl [bt ⟨#[48, 49, 50, 51, 52, 53, 54, 55, 56, 57, 97, 98, 99, 100, 101, 102]⟩ d0] 1 rfl rfl W V HA.out 5 _ rfl (HBX.out d0) HR0.out ?_; clear HA; intro v3 w3 hA3; have HA := Lib.hid hA3; clear hA3)
  rw [rounds_succ]
  go_wp2_with fail
  try rw [Exit.noGoto_ret]
  go_ret
  have h := HA.out
  simp only [List.append_assoc] at h
  exact ⟨_, rfl, h⟩

end Go.Proofs.YtcbliojofnigdaaGreatDoor
