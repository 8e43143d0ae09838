/- spec.Bytes: bytes in base 16, as the reference has them (printed by tools/gen_hexspec.py). -/
import Derived.Test.YtcbliojofnigdaaGreatDoorHexM
import Derived.Test.YtcbliojofnigdaaGreatDoorStrSpec
import Derived.Test.YtcbliojofnigdaaGreatDoorDigits
import Derived.Test.YtcbliojofnigdaaGreatDoorArgs
import Derived.Lib.Strings
set_option linter.unusedVariables false
set_option linter.unusedSimpArgs false
namespace Go.Proofs.YtcbliojofnigdaaGreatDoor
open Go Go.Proofs Go.RowKit

theorem Digits_hex (up : Bool) (n : Int) (h0 : 0 ≤ n) (h1 : n ≤ 255) (w : World) : Calls Tryz.prog 23 #[.int .u64 (n + 256), .int .i64 16, .bool up] w fun e w' => e = .returned (.string ⟨(49 :: hex2 up (UInt8.ofNat n.toNat)).toArray⟩) ∧ w = w' := by
  obtain ⟨m, rfl⟩ := Int.eq_ofNat_of_zero_le h0
  have hm : m < 256 := by omega
  have e : digits 16 up 64 (m + 256) = 49 :: hex2 up (UInt8.ofNat (m : Int).toNat) := by
    rw [digits_byte up m hm]
    unfold hex2
    have : (UInt8.ofNat (m : Int).toNat).toNat = m := by rw [Int.toNat_natCast, UInt8.toNat_ofNat']; omega
    rw [this]
  have hC : Calls Tryz.prog 23 #[.int .u64 ((m + 256 : Nat) : Int), .int .i64 16, .bool up] w fun e w' => e = .returned (.string ⟨(digits 16 up 64 (m + 256)).toArray⟩) ∧ w = w' := by
    cases up
    · exact Digits_16 (m + 256) (by omega) w
    · exact Digits_16u (m + 256) (by omega) w
  rw [e] at hC
  exact hC

set_option maxRecDepth 100000 in
set_option maxHeartbeats 4000000 in
theorem Bytes_a_n (wid : Int) (prec : Int) (S : ByteArray) (hasWid minus plus zero : Bool) (up : Bool) (hS : S.size ≤ 4096) (hw0 : 0 ≤ wid) (hw1 : wid ≤ 1000000) (w : World) :
    Calls Tryz.prog 42 #[(⟨wid, prec, hasWid, false, minus, plus, false, false, zero⟩ : SF).val, .string S, .bool up] w fun e w' => e = .returned (.tuple #[.string ⟨(specPad ⟨wid, prec, hasWid, false, minus, plus, false, false, zero⟩ ([] ++ hexes up [] S.data.toList)).toArray⟩, .int .i64 1]) ∧ Only none w w' := by
  obtain ⟨g, hg⟩ : ∃ g : SF, g = ⟨wid, prec, hasWid, false, minus, plus, false, false, zero⟩ := ⟨_, rfl⟩
  obtain ⟨L, hL⟩ : ∃ L : Bytes, L = S.data.toList := ⟨_, rfl⟩
  have hLs : L.length = S.size := by rw [hL, ← size_list]
  have hDl : ∀ (D : ByteArray) (i : Nat), i ≤ S.size → D.data.toList = [] ++ hexes up [] (L.take i) → D.size ≤ 20000 := by
    intro D i hi hD
    rw [size_list, hD, List.length_append]
    have h1 := hexes_len up [] L i (by omega)
    have h2 : ([] : Bytes).length ≤ 2 := by decide
    have h3 : ([] : Bytes).length ≤ 1 := by decide
    have h4 : (2 + ([] : Bytes).length) * i ≤ 3 * i := Nat.mul_le_mul_right _ (by omega)
    omega
  have C22 : ∀ (D : ByteArray), D.size ≤ 20000 → D.data.toList = [] ++ hexes up [] L → ∀ W, Calls Tryz.prog 22 #[g.val, .string D] W fun e w' => e = .returned (.string ⟨(specPad g ([] ++ hexes up [] L)).toArray⟩) ∧ Only none W w' := by
    intro D hD he W
    rw [← he]
    exact Pad_wide g D (by omega) (by rw [hg]; exact hw0) (by rw [hg]; exact hw1) W
  rw [← hL, ← hg]
  obtain ⟨X, hX⟩ : ∃ X : ByteArray, X = ⟨(specPad g ([] ++ hexes up [] L)).toArray⟩ := ⟨_, rfl⟩
  rw [← hX] at C22 ⊢
  have hgv : g.val = .agg #[.int .i64 wid, .int .i64 prec, .bool hasWid, .bool false, .bool minus, .bool plus, .bool false, .bool false, .bool zero] := by rw [hg]; rfl
  rw [hgv] at C22 ⊢
  have C23 := fun n h0 h1 W => Digits_hex up n h0 h1 W
  have H22 := Lib.hid C22
  have H23 := Lib.hid C23
  have HD := Lib.hid hDl
  have HL := Lib.hid (And.intro hL hLs)
  have HT := Lib.hid (fun i h => hexes_take up [] L i h)
  clear C22 C23 hX hgv hg hL hLs hDl
  go_enter Tryz.func42, Tryz.ntmps42
  go_wp2
  go_loopw [8, 43] (fun a c W => ∃ (D : ByteArray) (i : Nat), a = .string D ∧ c = .int .i64 i ∧ i ≤ S.size ∧ Only none (w.alloc (.cells #[.int .i64 wid, .int .i64 prec, .bool hasWid, .bool false, .bool minus, .bool plus, .bool false, .bool false, .bool zero] 35)) W ∧ Hid (D.data.toList = [] ++ hexes up [] (L.take i))) (fun _ c _ => S.size - (intOf c).toNat)
  case atStart => exact ⟨_, 0, rfl, rfl, Nat.zero_le _, by first | exact Only.refl _ _ | exact (Only.refl _ _).alloc _, by show _ = _; simp [hexes]⟩
  case round =>
    obtain ⟨D, i, rfl, rfl, hi, hO, HI⟩ := hrel
    have hDs := HD.out D i hi HI.out
    have hcl := fun j => only_cellAt hO (k := w.heap.size) (by simp) j
    by_cases hlt2 : i < S.size
    · have hb := bt_eq S i hlt2
      have hb0 := bt_nonneg S i
      have hb1 := bt_le S i
      obtain ⟨n, hn⟩ : ∃ n, n = bt S i := ⟨_, rfl⟩
      rw [← hn] at hb hb0 hb1
      have hnx := HT.out i (by rw [HL.out.2]; exact hlt2)
      have hby : UInt8.ofNat n.toNat = L[i]'(by rw [HL.out.2]; exact hlt2) := by
        have e : L[i]'(by rw [HL.out.2]; exact hlt2) = S[i] := by simp only [HL.out.1]; rfl
        rw [e, ← hb]
        simp
      rw [← hby] at hnx
      have C := H23.out n hb0 hb1
      obtain ⟨Q, hQ⟩ : ∃ Q : ByteArray, Q = ⟨(49 :: hex2 up (UInt8.ofNat n.toNat)).toArray⟩ := ⟨_, rfl⟩
      have hQs : Q.size = 3 := by rw [hQ, str_size]; rfl
      obtain ⟨R, hR⟩ : ∃ R : ByteArray, R = Q.extract 1 3 := ⟨_, rfl⟩
      have hRd : R.data.toList = hex2 up (UInt8.ofNat n.toNat) := by rw [hR, hQ]; rfl
      have hRs : R.size = 2 := by rw [size_list, hRd]; rfl
      rw [← hQ] at C
      rw [← hRd] at hnx
      have HC := Lib.hid C
      have HN := Lib.hid hnx
      have HR := Lib.hid hR
      clear C hnx hby hRd hR hn hQ H22 H23 HT
      have q1 : ¬ 9223372036854775807 < D.size + 1 := by omega
      have q2 : ¬ 9223372036854775807 < D.size + R.size := by omega
      have q3 : ¬ 9223372036854775807 < D.size + 1 + R.size := by omega
      have q4 : ¬ 9223372036854775807 < D.size + 2 := by omega
      have q5 : ¬ 9223372036854775807 < D.size + 1 + 2 := by omega
      have hE : Q.extract 1 3 = R := HR.out.symm
      by_cases hi0 : i = 0
      · subst hi0
        go_wp2_with (go_at_call 23; refine (HC.out _).mono ?_; rintro e w2 ⟨rfl, rfl⟩)
        go_roundw
        case rel =>
          refine ⟨_, 1, rfl, rfl, by omega, hO, ?_⟩
          show _ = _
          rw [append_list, HI.out, HN.out]
          simp
        case measure => simp [intOf]; omega
      · have hi1 : (0 : Int) < i := by omega
        have hi2 : 0 < i := by omega
        go_wp2_with (go_at_call 23; refine (HC.out _).mono ?_; rintro e w2 ⟨rfl, rfl⟩)
        go_roundw
        case rel =>
          refine ⟨_, i + 1, rfl, by go_num, by omega, hO, ?_⟩
          show _ = _
          rw [HN.out, if_neg hi0]
          simp [append_list, HI.out]
        case measure => simp [intOf]; omega
    · obtain rfl : i = S.size := by omega
      have hI := HI.out
      rw [← HL.out.2, List.take_length] at hI
      have C := H22.out D hDs hI
      have HC := Lib.hid C
      clear C hI H22 H23 HT HI HL
      go_wp2_with (go_at_call 22; refine (HC.out _).mono ?_; rintro e w2 ⟨rfl, hO2⟩)
      go_ret2
      exact ⟨rfl, (((Only.refl _ _).alloc _).trans hO).trans hO2⟩

set_option maxRecDepth 100000 in
set_option maxHeartbeats 4000000 in
theorem Bytes_a_s (wid : Int) (prec : Int) (S : ByteArray) (hasWid minus plus zero : Bool) (up : Bool) (hS : S.size ≤ 4096) (hw0 : 0 ≤ wid) (hw1 : wid ≤ 1000000) (w : World) :
    Calls Tryz.prog 42 #[(⟨wid, prec, hasWid, false, minus, plus, false, true, zero⟩ : SF).val, .string S, .bool up] w fun e w' => e = .returned (.tuple #[.string ⟨(specPad ⟨wid, prec, hasWid, false, minus, plus, false, true, zero⟩ ([] ++ hexes up [32] S.data.toList)).toArray⟩, .int .i64 1]) ∧ Only none w w' := by
  obtain ⟨g, hg⟩ : ∃ g : SF, g = ⟨wid, prec, hasWid, false, minus, plus, false, true, zero⟩ := ⟨_, rfl⟩
  obtain ⟨L, hL⟩ : ∃ L : Bytes, L = S.data.toList := ⟨_, rfl⟩
  have hLs : L.length = S.size := by rw [hL, ← size_list]
  have hDl : ∀ (D : ByteArray) (i : Nat), i ≤ S.size → D.data.toList = [] ++ hexes up [32] (L.take i) → D.size ≤ 20000 := by
    intro D i hi hD
    rw [size_list, hD, List.length_append]
    have h1 := hexes_len up [32] L i (by omega)
    have h2 : ([] : Bytes).length ≤ 2 := by decide
    have h3 : ([32] : Bytes).length ≤ 1 := by decide
    have h4 : (2 + ([32] : Bytes).length) * i ≤ 3 * i := Nat.mul_le_mul_right _ (by omega)
    omega
  have C22 : ∀ (D : ByteArray), D.size ≤ 20000 → D.data.toList = [] ++ hexes up [32] L → ∀ W, Calls Tryz.prog 22 #[g.val, .string D] W fun e w' => e = .returned (.string ⟨(specPad g ([] ++ hexes up [32] L)).toArray⟩) ∧ Only none W w' := by
    intro D hD he W
    rw [← he]
    exact Pad_wide g D (by omega) (by rw [hg]; exact hw0) (by rw [hg]; exact hw1) W
  rw [← hL, ← hg]
  obtain ⟨X, hX⟩ : ∃ X : ByteArray, X = ⟨(specPad g ([] ++ hexes up [32] L)).toArray⟩ := ⟨_, rfl⟩
  rw [← hX] at C22 ⊢
  have hgv : g.val = .agg #[.int .i64 wid, .int .i64 prec, .bool hasWid, .bool false, .bool minus, .bool plus, .bool false, .bool true, .bool zero] := by rw [hg]; rfl
  rw [hgv] at C22 ⊢
  have C23 := fun n h0 h1 W => Digits_hex up n h0 h1 W
  have H22 := Lib.hid C22
  have H23 := Lib.hid C23
  have HD := Lib.hid hDl
  have HL := Lib.hid (And.intro hL hLs)
  have HT := Lib.hid (fun i h => hexes_take up [32] L i h)
  clear C22 C23 hX hgv hg hL hLs hDl
  go_enter Tryz.func42, Tryz.ntmps42
  go_wp2
  go_loopw [8, 43] (fun a c W => ∃ (D : ByteArray) (i : Nat), a = .string D ∧ c = .int .i64 i ∧ i ≤ S.size ∧ Only none (w.alloc (.cells #[.int .i64 wid, .int .i64 prec, .bool hasWid, .bool false, .bool minus, .bool plus, .bool false, .bool true, .bool zero] 35)) W ∧ Hid (D.data.toList = [] ++ hexes up [32] (L.take i))) (fun _ c _ => S.size - (intOf c).toNat)
  case atStart => exact ⟨_, 0, rfl, rfl, Nat.zero_le _, by first | exact Only.refl _ _ | exact (Only.refl _ _).alloc _, by show _ = _; simp [hexes]⟩
  case round =>
    obtain ⟨D, i, rfl, rfl, hi, hO, HI⟩ := hrel
    have hDs := HD.out D i hi HI.out
    have hcl := fun j => only_cellAt hO (k := w.heap.size) (by simp) j
    by_cases hlt2 : i < S.size
    · have hb := bt_eq S i hlt2
      have hb0 := bt_nonneg S i
      have hb1 := bt_le S i
      obtain ⟨n, hn⟩ : ∃ n, n = bt S i := ⟨_, rfl⟩
      rw [← hn] at hb hb0 hb1
      have hnx := HT.out i (by rw [HL.out.2]; exact hlt2)
      have hby : UInt8.ofNat n.toNat = L[i]'(by rw [HL.out.2]; exact hlt2) := by
        have e : L[i]'(by rw [HL.out.2]; exact hlt2) = S[i] := by simp only [HL.out.1]; rfl
        rw [e, ← hb]
        simp
      rw [← hby] at hnx
      have C := H23.out n hb0 hb1
      obtain ⟨Q, hQ⟩ : ∃ Q : ByteArray, Q = ⟨(49 :: hex2 up (UInt8.ofNat n.toNat)).toArray⟩ := ⟨_, rfl⟩
      have hQs : Q.size = 3 := by rw [hQ, str_size]; rfl
      obtain ⟨R, hR⟩ : ∃ R : ByteArray, R = Q.extract 1 3 := ⟨_, rfl⟩
      have hRd : R.data.toList = hex2 up (UInt8.ofNat n.toNat) := by rw [hR, hQ]; rfl
      have hRs : R.size = 2 := by rw [size_list, hRd]; rfl
      rw [← hQ] at C
      rw [← hRd] at hnx
      have HC := Lib.hid C
      have HN := Lib.hid hnx
      have HR := Lib.hid hR
      clear C hnx hby hRd hR hn hQ H22 H23 HT
      have q1 : ¬ 9223372036854775807 < D.size + 1 := by omega
      have q2 : ¬ 9223372036854775807 < D.size + R.size := by omega
      have q3 : ¬ 9223372036854775807 < D.size + 1 + R.size := by omega
      have q4 : ¬ 9223372036854775807 < D.size + 2 := by omega
      have q5 : ¬ 9223372036854775807 < D.size + 1 + 2 := by omega
      have hE : Q.extract 1 3 = R := HR.out.symm
      by_cases hi0 : i = 0
      · subst hi0
        go_wp2_with (go_at_call 23; refine (HC.out _).mono ?_; rintro e w2 ⟨rfl, rfl⟩)
        go_roundw
        case rel =>
          refine ⟨_, 1, rfl, rfl, by omega, hO, ?_⟩
          show _ = _
          rw [append_list, HI.out, HN.out]
          simp
        case measure => simp [intOf]; omega
      · have hi1 : (0 : Int) < i := by omega
        have hi2 : 0 < i := by omega
        go_wp2_with (go_at_call 23; refine (HC.out _).mono ?_; rintro e w2 ⟨rfl, rfl⟩)
        go_roundw
        case rel =>
          refine ⟨_, i + 1, rfl, by go_num, by omega, hO, ?_⟩
          show _ = _
          rw [HN.out, if_neg hi0]
          simp [append_list, HI.out]
        case measure => simp [intOf]; omega
    · obtain rfl : i = S.size := by omega
      have hI := HI.out
      rw [← HL.out.2, List.take_length] at hI
      have C := H22.out D hDs hI
      have HC := Lib.hid C
      clear C hI H22 H23 HT HI HL
      go_wp2_with (go_at_call 22; refine (HC.out _).mono ?_; rintro e w2 ⟨rfl, hO2⟩)
      go_ret2
      exact ⟨rfl, (((Only.refl _ _).alloc _).trans hO).trans hO2⟩

set_option maxRecDepth 100000 in
set_option maxHeartbeats 4000000 in
theorem Bytes_a_x0 (wid : Int) (prec : Int) (S : ByteArray) (hasWid minus plus zero : Bool) (hne : 0 < S.size) (hS : S.size ≤ 4096) (hw0 : 0 ≤ wid) (hw1 : wid ≤ 1000000) (w : World) :
    Calls Tryz.prog 42 #[(⟨wid, prec, hasWid, false, minus, plus, true, false, zero⟩ : SF).val, .string S, .bool false] w fun e w' => e = .returned (.tuple #[.string ⟨(specPad ⟨wid, prec, hasWid, false, minus, plus, true, false, zero⟩ ([48, 120] ++ hexes false [] S.data.toList)).toArray⟩, .int .i64 1]) ∧ Only none w w' := by
  obtain ⟨g, hg⟩ : ∃ g : SF, g = ⟨wid, prec, hasWid, false, minus, plus, true, false, zero⟩ := ⟨_, rfl⟩
  obtain ⟨L, hL⟩ : ∃ L : Bytes, L = S.data.toList := ⟨_, rfl⟩
  have hLs : L.length = S.size := by rw [hL, ← size_list]
  have hDl : ∀ (D : ByteArray) (i : Nat), i ≤ S.size → D.data.toList = [48, 120] ++ hexes false [] (L.take i) → D.size ≤ 20000 := by
    intro D i hi hD
    rw [size_list, hD, List.length_append]
    have h1 := hexes_len false [] L i (by omega)
    have h2 : ([48, 120] : Bytes).length ≤ 2 := by decide
    have h3 : ([] : Bytes).length ≤ 1 := by decide
    have h4 : (2 + ([] : Bytes).length) * i ≤ 3 * i := Nat.mul_le_mul_right _ (by omega)
    omega
  have C22 : ∀ (D : ByteArray), D.size ≤ 20000 → D.data.toList = [48, 120] ++ hexes false [] L → ∀ W, Calls Tryz.prog 22 #[g.val, .string D] W fun e w' => e = .returned (.string ⟨(specPad g ([48, 120] ++ hexes false [] L)).toArray⟩) ∧ Only none W w' := by
    intro D hD he W
    rw [← he]
    exact Pad_wide g D (by omega) (by rw [hg]; exact hw0) (by rw [hg]; exact hw1) W
  rw [← hL, ← hg]
  obtain ⟨X, hX⟩ : ∃ X : ByteArray, X = ⟨(specPad g ([48, 120] ++ hexes false [] L)).toArray⟩ := ⟨_, rfl⟩
  rw [← hX] at C22 ⊢
  have hgv : g.val = .agg #[.int .i64 wid, .int .i64 prec, .bool hasWid, .bool false, .bool minus, .bool plus, .bool true, .bool false, .bool zero] := by rw [hg]; rfl
  rw [hgv] at C22 ⊢
  have C23 := fun n h0 h1 W => Digits_hex false n h0 h1 W
  have H22 := Lib.hid C22
  have H23 := Lib.hid C23
  have HD := Lib.hid hDl
  have HL := Lib.hid (And.intro hL hLs)
  have HT := Lib.hid (fun i h => hexes_take false [] L i h)
  have hne1 : S.toList.isEmpty = false := by
    rw [Lib.toList_data]
    cases h : S.data.toList with
    | nil => rw [size_list, h] at hne; exact absurd hne (by decide)
    | cons _ _ => rfl
  clear C22 C23 hX hgv hg hL hLs hDl
  go_enter Tryz.func42, Tryz.ntmps42
  go_wp2
  go_loopw [8, 43] (fun a c W => ∃ (D : ByteArray) (i : Nat), a = .string D ∧ c = .int .i64 i ∧ i ≤ S.size ∧ Only none (w.alloc (.cells #[.int .i64 wid, .int .i64 prec, .bool hasWid, .bool false, .bool minus, .bool plus, .bool true, .bool false, .bool zero] 35)) W ∧ Hid (D.data.toList = [48, 120] ++ hexes false [] (L.take i))) (fun _ c _ => S.size - (intOf c).toNat)
  case atStart => exact ⟨_, 0, rfl, rfl, Nat.zero_le _, by first | exact Only.refl _ _ | exact (Only.refl _ _).alloc _, by show _ = _; simp [hexes]⟩
  case round =>
    obtain ⟨D, i, rfl, rfl, hi, hO, HI⟩ := hrel
    have hDs := HD.out D i hi HI.out
    have hcl := fun j => only_cellAt hO (k := w.heap.size) (by simp) j
    by_cases hlt2 : i < S.size
    · have hb := bt_eq S i hlt2
      have hb0 := bt_nonneg S i
      have hb1 := bt_le S i
      obtain ⟨n, hn⟩ : ∃ n, n = bt S i := ⟨_, rfl⟩
      rw [← hn] at hb hb0 hb1
      have hnx := HT.out i (by rw [HL.out.2]; exact hlt2)
      have hby : UInt8.ofNat n.toNat = L[i]'(by rw [HL.out.2]; exact hlt2) := by
        have e : L[i]'(by rw [HL.out.2]; exact hlt2) = S[i] := by simp only [HL.out.1]; rfl
        rw [e, ← hb]
        simp
      rw [← hby] at hnx
      have C := H23.out n hb0 hb1
      obtain ⟨Q, hQ⟩ : ∃ Q : ByteArray, Q = ⟨(49 :: hex2 false (UInt8.ofNat n.toNat)).toArray⟩ := ⟨_, rfl⟩
      have hQs : Q.size = 3 := by rw [hQ, str_size]; rfl
      obtain ⟨R, hR⟩ : ∃ R : ByteArray, R = Q.extract 1 3 := ⟨_, rfl⟩
      have hRd : R.data.toList = hex2 false (UInt8.ofNat n.toNat) := by rw [hR, hQ]; rfl
      have hRs : R.size = 2 := by rw [size_list, hRd]; rfl
      rw [← hQ] at C
      rw [← hRd] at hnx
      have HC := Lib.hid C
      have HN := Lib.hid hnx
      have HR := Lib.hid hR
      clear C hnx hby hRd hR hn hQ H22 H23 HT
      have q1 : ¬ 9223372036854775807 < D.size + 1 := by omega
      have q2 : ¬ 9223372036854775807 < D.size + R.size := by omega
      have q3 : ¬ 9223372036854775807 < D.size + 1 + R.size := by omega
      have q4 : ¬ 9223372036854775807 < D.size + 2 := by omega
      have q5 : ¬ 9223372036854775807 < D.size + 1 + 2 := by omega
      have hE : Q.extract 1 3 = R := HR.out.symm
      by_cases hi0 : i = 0
      · subst hi0
        go_wp2_with (go_at_call 23; refine (HC.out _).mono ?_; rintro e w2 ⟨rfl, rfl⟩)
        go_roundw
        case rel =>
          refine ⟨_, 1, rfl, rfl, by omega, hO, ?_⟩
          show _ = _
          rw [append_list, HI.out, HN.out]
          simp
        case measure => simp [intOf]; omega
      · have hi1 : (0 : Int) < i := by omega
        have hi2 : 0 < i := by omega
        go_wp2_with (go_at_call 23; refine (HC.out _).mono ?_; rintro e w2 ⟨rfl, rfl⟩)
        go_roundw
        case rel =>
          refine ⟨_, i + 1, rfl, by go_num, by omega, hO, ?_⟩
          show _ = _
          rw [HN.out, if_neg hi0]
          simp [append_list, HI.out]
        case measure => simp [intOf]; omega
    · obtain rfl : i = S.size := by omega
      have hI := HI.out
      rw [← HL.out.2, List.take_length] at hI
      have C := H22.out D hDs hI
      have HC := Lib.hid C
      clear C hI H22 H23 HT HI HL
      go_wp2_with (go_at_call 22; refine (HC.out _).mono ?_; rintro e w2 ⟨rfl, hO2⟩)
      go_ret2
      exact ⟨rfl, (((Only.refl _ _).alloc _).trans hO).trans hO2⟩

set_option maxRecDepth 100000 in
set_option maxHeartbeats 4000000 in
theorem Bytes_a_X (wid : Int) (prec : Int) (S : ByteArray) (hasWid minus plus zero : Bool) (hne : 0 < S.size) (hS : S.size ≤ 4096) (hw0 : 0 ≤ wid) (hw1 : wid ≤ 1000000) (w : World) :
    Calls Tryz.prog 42 #[(⟨wid, prec, hasWid, false, minus, plus, true, false, zero⟩ : SF).val, .string S, .bool true] w fun e w' => e = .returned (.tuple #[.string ⟨(specPad ⟨wid, prec, hasWid, false, minus, plus, true, false, zero⟩ ([48, 88] ++ hexes true [] S.data.toList)).toArray⟩, .int .i64 1]) ∧ Only none w w' := by
  obtain ⟨g, hg⟩ : ∃ g : SF, g = ⟨wid, prec, hasWid, false, minus, plus, true, false, zero⟩ := ⟨_, rfl⟩
  obtain ⟨L, hL⟩ : ∃ L : Bytes, L = S.data.toList := ⟨_, rfl⟩
  have hLs : L.length = S.size := by rw [hL, ← size_list]
  have hDl : ∀ (D : ByteArray) (i : Nat), i ≤ S.size → D.data.toList = [48, 88] ++ hexes true [] (L.take i) → D.size ≤ 20000 := by
    intro D i hi hD
    rw [size_list, hD, List.length_append]
    have h1 := hexes_len true [] L i (by omega)
    have h2 : ([48, 88] : Bytes).length ≤ 2 := by decide
    have h3 : ([] : Bytes).length ≤ 1 := by decide
    have h4 : (2 + ([] : Bytes).length) * i ≤ 3 * i := Nat.mul_le_mul_right _ (by omega)
    omega
  have C22 : ∀ (D : ByteArray), D.size ≤ 20000 → D.data.toList = [48, 88] ++ hexes true [] L → ∀ W, Calls Tryz.prog 22 #[g.val, .string D] W fun e w' => e = .returned (.string ⟨(specPad g ([48, 88] ++ hexes true [] L)).toArray⟩) ∧ Only none W w' := by
    intro D hD he W
    rw [← he]
    exact Pad_wide g D (by omega) (by rw [hg]; exact hw0) (by rw [hg]; exact hw1) W
  rw [← hL, ← hg]
  obtain ⟨X, hX⟩ : ∃ X : ByteArray, X = ⟨(specPad g ([48, 88] ++ hexes true [] L)).toArray⟩ := ⟨_, rfl⟩
  rw [← hX] at C22 ⊢
  have hgv : g.val = .agg #[.int .i64 wid, .int .i64 prec, .bool hasWid, .bool false, .bool minus, .bool plus, .bool true, .bool false, .bool zero] := by rw [hg]; rfl
  rw [hgv] at C22 ⊢
  have C23 := fun n h0 h1 W => Digits_hex true n h0 h1 W
  have H22 := Lib.hid C22
  have H23 := Lib.hid C23
  have HD := Lib.hid hDl
  have HL := Lib.hid (And.intro hL hLs)
  have HT := Lib.hid (fun i h => hexes_take true [] L i h)
  have hne1 : S.toList.isEmpty = false := by
    rw [Lib.toList_data]
    cases h : S.data.toList with
    | nil => rw [size_list, h] at hne; exact absurd hne (by decide)
    | cons _ _ => rfl
  clear C22 C23 hX hgv hg hL hLs hDl
  go_enter Tryz.func42, Tryz.ntmps42
  go_wp2
  go_loopw [8, 43] (fun a c W => ∃ (D : ByteArray) (i : Nat), a = .string D ∧ c = .int .i64 i ∧ i ≤ S.size ∧ Only none (w.alloc (.cells #[.int .i64 wid, .int .i64 prec, .bool hasWid, .bool false, .bool minus, .bool plus, .bool true, .bool false, .bool zero] 35)) W ∧ Hid (D.data.toList = [48, 88] ++ hexes true [] (L.take i))) (fun _ c _ => S.size - (intOf c).toNat)
  case atStart => exact ⟨_, 0, rfl, rfl, Nat.zero_le _, by first | exact Only.refl _ _ | exact (Only.refl _ _).alloc _, by show _ = _; simp [hexes]⟩
  case round =>
    obtain ⟨D, i, rfl, rfl, hi, hO, HI⟩ := hrel
    have hDs := HD.out D i hi HI.out
    have hcl := fun j => only_cellAt hO (k := w.heap.size) (by simp) j
    by_cases hlt2 : i < S.size
    · have hb := bt_eq S i hlt2
      have hb0 := bt_nonneg S i
      have hb1 := bt_le S i
      obtain ⟨n, hn⟩ : ∃ n, n = bt S i := ⟨_, rfl⟩
      rw [← hn] at hb hb0 hb1
      have hnx := HT.out i (by rw [HL.out.2]; exact hlt2)
      have hby : UInt8.ofNat n.toNat = L[i]'(by rw [HL.out.2]; exact hlt2) := by
        have e : L[i]'(by rw [HL.out.2]; exact hlt2) = S[i] := by simp only [HL.out.1]; rfl
        rw [e, ← hb]
        simp
      rw [← hby] at hnx
      have C := H23.out n hb0 hb1
      obtain ⟨Q, hQ⟩ : ∃ Q : ByteArray, Q = ⟨(49 :: hex2 true (UInt8.ofNat n.toNat)).toArray⟩ := ⟨_, rfl⟩
      have hQs : Q.size = 3 := by rw [hQ, str_size]; rfl
      obtain ⟨R, hR⟩ : ∃ R : ByteArray, R = Q.extract 1 3 := ⟨_, rfl⟩
      have hRd : R.data.toList = hex2 true (UInt8.ofNat n.toNat) := by rw [hR, hQ]; rfl
      have hRs : R.size = 2 := by rw [size_list, hRd]; rfl
      rw [← hQ] at C
      rw [← hRd] at hnx
      have HC := Lib.hid C
      have HN := Lib.hid hnx
      have HR := Lib.hid hR
      clear C hnx hby hRd hR hn hQ H22 H23 HT
      have q1 : ¬ 9223372036854775807 < D.size + 1 := by omega
      have q2 : ¬ 9223372036854775807 < D.size + R.size := by omega
      have q3 : ¬ 9223372036854775807 < D.size + 1 + R.size := by omega
      have q4 : ¬ 9223372036854775807 < D.size + 2 := by omega
      have q5 : ¬ 9223372036854775807 < D.size + 1 + 2 := by omega
      have hE : Q.extract 1 3 = R := HR.out.symm
      by_cases hi0 : i = 0
      · subst hi0
        go_wp2_with (go_at_call 23; refine (HC.out _).mono ?_; rintro e w2 ⟨rfl, rfl⟩)
        go_roundw
        case rel =>
          refine ⟨_, 1, rfl, rfl, by omega, hO, ?_⟩
          show _ = _
          rw [append_list, HI.out, HN.out]
          simp
        case measure => simp [intOf]; omega
      · have hi1 : (0 : Int) < i := by omega
        have hi2 : 0 < i := by omega
        go_wp2_with (go_at_call 23; refine (HC.out _).mono ?_; rintro e w2 ⟨rfl, rfl⟩)
        go_roundw
        case rel =>
          refine ⟨_, i + 1, rfl, by go_num, by omega, hO, ?_⟩
          show _ = _
          rw [HN.out, if_neg hi0]
          simp [append_list, HI.out]
        case measure => simp [intOf]; omega
    · obtain rfl : i = S.size := by omega
      have hI := HI.out
      rw [← HL.out.2, List.take_length] at hI
      have C := H22.out D hDs hI
      have HC := Lib.hid C
      clear C hI H22 H23 HT HI HL
      go_wp2_with (go_at_call 22; refine (HC.out _).mono ?_; rintro e w2 ⟨rfl, hO2⟩)
      go_ret2
      exact ⟨rfl, (((Only.refl _ _).alloc _).trans hO).trans hO2⟩

set_option maxRecDepth 100000 in
set_option maxHeartbeats 4000000 in
theorem Bytes_b_n (wid : Int) (prec : Int) (S : ByteArray) (hge : (S.size : Int) ≤ prec) (hasWid minus plus zero : Bool) (up : Bool) (hS : S.size ≤ 4096) (hw0 : 0 ≤ wid) (hw1 : wid ≤ 1000000) (w : World) :
    Calls Tryz.prog 42 #[(⟨wid, prec, hasWid, true, minus, plus, false, false, zero⟩ : SF).val, .string S, .bool up] w fun e w' => e = .returned (.tuple #[.string ⟨(specPad ⟨wid, prec, hasWid, true, minus, plus, false, false, zero⟩ ([] ++ hexes up [] S.data.toList)).toArray⟩, .int .i64 1]) ∧ Only none w w' := by
  obtain ⟨g, hg⟩ : ∃ g : SF, g = ⟨wid, prec, hasWid, true, minus, plus, false, false, zero⟩ := ⟨_, rfl⟩
  obtain ⟨L, hL⟩ : ∃ L : Bytes, L = S.data.toList := ⟨_, rfl⟩
  have hLs : L.length = S.size := by rw [hL, ← size_list]
  have hDl : ∀ (D : ByteArray) (i : Nat), i ≤ S.size → D.data.toList = [] ++ hexes up [] (L.take i) → D.size ≤ 20000 := by
    intro D i hi hD
    rw [size_list, hD, List.length_append]
    have h1 := hexes_len up [] L i (by omega)
    have h2 : ([] : Bytes).length ≤ 2 := by decide
    have h3 : ([] : Bytes).length ≤ 1 := by decide
    have h4 : (2 + ([] : Bytes).length) * i ≤ 3 * i := Nat.mul_le_mul_right _ (by omega)
    omega
  have C22 : ∀ (D : ByteArray), D.size ≤ 20000 → D.data.toList = [] ++ hexes up [] L → ∀ W, Calls Tryz.prog 22 #[g.val, .string D] W fun e w' => e = .returned (.string ⟨(specPad g ([] ++ hexes up [] L)).toArray⟩) ∧ Only none W w' := by
    intro D hD he W
    rw [← he]
    exact Pad_wide g D (by omega) (by rw [hg]; exact hw0) (by rw [hg]; exact hw1) W
  rw [← hL, ← hg]
  obtain ⟨X, hX⟩ : ∃ X : ByteArray, X = ⟨(specPad g ([] ++ hexes up [] L)).toArray⟩ := ⟨_, rfl⟩
  rw [← hX] at C22 ⊢
  have hgv : g.val = .agg #[.int .i64 wid, .int .i64 prec, .bool hasWid, .bool true, .bool minus, .bool plus, .bool false, .bool false, .bool zero] := by rw [hg]; rfl
  rw [hgv] at C22 ⊢
  have C23 := fun n h0 h1 W => Digits_hex up n h0 h1 W
  have H22 := Lib.hid C22
  have H23 := Lib.hid C23
  have HD := Lib.hid hDl
  have HL := Lib.hid (And.intro hL hLs)
  have HT := Lib.hid (fun i h => hexes_take up [] L i h)
  clear C22 C23 hX hgv hg hL hLs hDl
  go_enter Tryz.func42, Tryz.ntmps42
  go_wp2
  go_loopw [8, 43] (fun a c W => ∃ (D : ByteArray) (i : Nat), a = .string D ∧ c = .int .i64 i ∧ i ≤ S.size ∧ Only none (w.alloc (.cells #[.int .i64 wid, .int .i64 prec, .bool hasWid, .bool true, .bool minus, .bool plus, .bool false, .bool false, .bool zero] 35)) W ∧ Hid (D.data.toList = [] ++ hexes up [] (L.take i))) (fun _ c _ => S.size - (intOf c).toNat)
  case atStart => exact ⟨_, 0, rfl, rfl, Nat.zero_le _, by first | exact Only.refl _ _ | exact (Only.refl _ _).alloc _, by show _ = _; simp [hexes]⟩
  case round =>
    obtain ⟨D, i, rfl, rfl, hi, hO, HI⟩ := hrel
    have hDs := HD.out D i hi HI.out
    have hcl := fun j => only_cellAt hO (k := w.heap.size) (by simp) j
    by_cases hlt2 : i < S.size
    · have hb := bt_eq S i hlt2
      have hb0 := bt_nonneg S i
      have hb1 := bt_le S i
      obtain ⟨n, hn⟩ : ∃ n, n = bt S i := ⟨_, rfl⟩
      rw [← hn] at hb hb0 hb1
      have hnx := HT.out i (by rw [HL.out.2]; exact hlt2)
      have hby : UInt8.ofNat n.toNat = L[i]'(by rw [HL.out.2]; exact hlt2) := by
        have e : L[i]'(by rw [HL.out.2]; exact hlt2) = S[i] := by simp only [HL.out.1]; rfl
        rw [e, ← hb]
        simp
      rw [← hby] at hnx
      have C := H23.out n hb0 hb1
      obtain ⟨Q, hQ⟩ : ∃ Q : ByteArray, Q = ⟨(49 :: hex2 up (UInt8.ofNat n.toNat)).toArray⟩ := ⟨_, rfl⟩
      have hQs : Q.size = 3 := by rw [hQ, str_size]; rfl
      obtain ⟨R, hR⟩ : ∃ R : ByteArray, R = Q.extract 1 3 := ⟨_, rfl⟩
      have hRd : R.data.toList = hex2 up (UInt8.ofNat n.toNat) := by rw [hR, hQ]; rfl
      have hRs : R.size = 2 := by rw [size_list, hRd]; rfl
      rw [← hQ] at C
      rw [← hRd] at hnx
      have HC := Lib.hid C
      have HN := Lib.hid hnx
      have HR := Lib.hid hR
      clear C hnx hby hRd hR hn hQ H22 H23 HT
      have q1 : ¬ 9223372036854775807 < D.size + 1 := by omega
      have q2 : ¬ 9223372036854775807 < D.size + R.size := by omega
      have q3 : ¬ 9223372036854775807 < D.size + 1 + R.size := by omega
      have q4 : ¬ 9223372036854775807 < D.size + 2 := by omega
      have q5 : ¬ 9223372036854775807 < D.size + 1 + 2 := by omega
      have hE : Q.extract 1 3 = R := HR.out.symm
      by_cases hi0 : i = 0
      · subst hi0
        go_wp2_with (go_at_call 23; refine (HC.out _).mono ?_; rintro e w2 ⟨rfl, rfl⟩)
        go_roundw
        case rel =>
          refine ⟨_, 1, rfl, rfl, by omega, hO, ?_⟩
          show _ = _
          rw [append_list, HI.out, HN.out]
          simp
        case measure => simp [intOf]; omega
      · have hi1 : (0 : Int) < i := by omega
        have hi2 : 0 < i := by omega
        go_wp2_with (go_at_call 23; refine (HC.out _).mono ?_; rintro e w2 ⟨rfl, rfl⟩)
        go_roundw
        case rel =>
          refine ⟨_, i + 1, rfl, by go_num, by omega, hO, ?_⟩
          show _ = _
          rw [HN.out, if_neg hi0]
          simp [append_list, HI.out]
        case measure => simp [intOf]; omega
    · obtain rfl : i = S.size := by omega
      have hI := HI.out
      rw [← HL.out.2, List.take_length] at hI
      have C := H22.out D hDs hI
      have HC := Lib.hid C
      clear C hI H22 H23 HT HI HL
      go_wp2_with (go_at_call 22; refine (HC.out _).mono ?_; rintro e w2 ⟨rfl, hO2⟩)
      go_ret2
      exact ⟨rfl, (((Only.refl _ _).alloc _).trans hO).trans hO2⟩

set_option maxRecDepth 100000 in
set_option maxHeartbeats 4000000 in
theorem Bytes_b_s (wid : Int) (prec : Int) (S : ByteArray) (hge : (S.size : Int) ≤ prec) (hasWid minus plus zero : Bool) (up : Bool) (hS : S.size ≤ 4096) (hw0 : 0 ≤ wid) (hw1 : wid ≤ 1000000) (w : World) :
    Calls Tryz.prog 42 #[(⟨wid, prec, hasWid, true, minus, plus, false, true, zero⟩ : SF).val, .string S, .bool up] w fun e w' => e = .returned (.tuple #[.string ⟨(specPad ⟨wid, prec, hasWid, true, minus, plus, false, true, zero⟩ ([] ++ hexes up [32] S.data.toList)).toArray⟩, .int .i64 1]) ∧ Only none w w' := by
  obtain ⟨g, hg⟩ : ∃ g : SF, g = ⟨wid, prec, hasWid, true, minus, plus, false, true, zero⟩ := ⟨_, rfl⟩
  obtain ⟨L, hL⟩ : ∃ L : Bytes, L = S.data.toList := ⟨_, rfl⟩
  have hLs : L.length = S.size := by rw [hL, ← size_list]
  have hDl : ∀ (D : ByteArray) (i : Nat), i ≤ S.size → D.data.toList = [] ++ hexes up [32] (L.take i) → D.size ≤ 20000 := by
    intro D i hi hD
    rw [size_list, hD, List.length_append]
    have h1 := hexes_len up [32] L i (by omega)
    have h2 : ([] : Bytes).length ≤ 2 := by decide
    have h3 : ([32] : Bytes).length ≤ 1 := by decide
    have h4 : (2 + ([32] : Bytes).length) * i ≤ 3 * i := Nat.mul_le_mul_right _ (by omega)
    omega
  have C22 : ∀ (D : ByteArray), D.size ≤ 20000 → D.data.toList = [] ++ hexes up [32] L → ∀ W, Calls Tryz.prog 22 #[g.val, .string D] W fun e w' => e = .returned (.string ⟨(specPad g ([] ++ hexes up [32] L)).toArray⟩) ∧ Only none W w' := by
    intro D hD he W
    rw [← he]
    exact Pad_wide g D (by omega) (by rw [hg]; exact hw0) (by rw [hg]; exact hw1) W
  rw [← hL, ← hg]
  obtain ⟨X, hX⟩ : ∃ X : ByteArray, X = ⟨(specPad g ([] ++ hexes up [32] L)).toArray⟩ := ⟨_, rfl⟩
  rw [← hX] at C22 ⊢
  have hgv : g.val = .agg #[.int .i64 wid, .int .i64 prec, .bool hasWid, .bool true, .bool minus, .bool plus, .bool false, .bool true, .bool zero] := by rw [hg]; rfl
  rw [hgv] at C22 ⊢
  have C23 := fun n h0 h1 W => Digits_hex up n h0 h1 W
  have H22 := Lib.hid C22
  have H23 := Lib.hid C23
  have HD := Lib.hid hDl
  have HL := Lib.hid (And.intro hL hLs)
  have HT := Lib.hid (fun i h => hexes_take up [32] L i h)
  clear C22 C23 hX hgv hg hL hLs hDl
  go_enter Tryz.func42, Tryz.ntmps42
  go_wp2
  go_loopw [8, 43] (fun a c W => ∃ (D : ByteArray) (i : Nat), a = .string D ∧ c = .int .i64 i ∧ i ≤ S.size ∧ Only none (w.alloc (.cells #[.int .i64 wid, .int .i64 prec, .bool hasWid, .bool true, .bool minus, .bool plus, .bool false, .bool true, .bool zero] 35)) W ∧ Hid (D.data.toList = [] ++ hexes up [32] (L.take i))) (fun _ c _ => S.size - (intOf c).toNat)
  case atStart => exact ⟨_, 0, rfl, rfl, Nat.zero_le _, by first | exact Only.refl _ _ | exact (Only.refl _ _).alloc _, by show _ = _; simp [hexes]⟩
  case round =>
    obtain ⟨D, i, rfl, rfl, hi, hO, HI⟩ := hrel
    have hDs := HD.out D i hi HI.out
    have hcl := fun j => only_cellAt hO (k := w.heap.size) (by simp) j
    by_cases hlt2 : i < S.size
    · have hb := bt_eq S i hlt2
      have hb0 := bt_nonneg S i
      have hb1 := bt_le S i
      obtain ⟨n, hn⟩ : ∃ n, n = bt S i := ⟨_, rfl⟩
      rw [← hn] at hb hb0 hb1
      have hnx := HT.out i (by rw [HL.out.2]; exact hlt2)
      have hby : UInt8.ofNat n.toNat = L[i]'(by rw [HL.out.2]; exact hlt2) := by
        have e : L[i]'(by rw [HL.out.2]; exact hlt2) = S[i] := by simp only [HL.out.1]; rfl
        rw [e, ← hb]
        simp
      rw [← hby] at hnx
      have C := H23.out n hb0 hb1
      obtain ⟨Q, hQ⟩ : ∃ Q : ByteArray, Q = ⟨(49 :: hex2 up (UInt8.ofNat n.toNat)).toArray⟩ := ⟨_, rfl⟩
      have hQs : Q.size = 3 := by rw [hQ, str_size]; rfl
      obtain ⟨R, hR⟩ : ∃ R : ByteArray, R = Q.extract 1 3 := ⟨_, rfl⟩
      have hRd : R.data.toList = hex2 up (UInt8.ofNat n.toNat) := by rw [hR, hQ]; rfl
      have hRs : R.size = 2 := by rw [size_list, hRd]; rfl
      rw [← hQ] at C
      rw [← hRd] at hnx
      have HC := Lib.hid C
      have HN := Lib.hid hnx
      have HR := Lib.hid hR
      clear C hnx hby hRd hR hn hQ H22 H23 HT
      have q1 : ¬ 9223372036854775807 < D.size + 1 := by omega
      have q2 : ¬ 9223372036854775807 < D.size + R.size := by omega
      have q3 : ¬ 9223372036854775807 < D.size + 1 + R.size := by omega
      have q4 : ¬ 9223372036854775807 < D.size + 2 := by omega
      have q5 : ¬ 9223372036854775807 < D.size + 1 + 2 := by omega
      have hE : Q.extract 1 3 = R := HR.out.symm
      by_cases hi0 : i = 0
      · subst hi0
        go_wp2_with (go_at_call 23; refine (HC.out _).mono ?_; rintro e w2 ⟨rfl, rfl⟩)
        go_roundw
        case rel =>
          refine ⟨_, 1, rfl, rfl, by omega, hO, ?_⟩
          show _ = _
          rw [append_list, HI.out, HN.out]
          simp
        case measure => simp [intOf]; omega
      · have hi1 : (0 : Int) < i := by omega
        have hi2 : 0 < i := by omega
        go_wp2_with (go_at_call 23; refine (HC.out _).mono ?_; rintro e w2 ⟨rfl, rfl⟩)
        go_roundw
        case rel =>
          refine ⟨_, i + 1, rfl, by go_num, by omega, hO, ?_⟩
          show _ = _
          rw [HN.out, if_neg hi0]
          simp [append_list, HI.out]
        case measure => simp [intOf]; omega
    · obtain rfl : i = S.size := by omega
      have hI := HI.out
      rw [← HL.out.2, List.take_length] at hI
      have C := H22.out D hDs hI
      have HC := Lib.hid C
      clear C hI H22 H23 HT HI HL
      go_wp2_with (go_at_call 22; refine (HC.out _).mono ?_; rintro e w2 ⟨rfl, hO2⟩)
      go_ret2
      exact ⟨rfl, (((Only.refl _ _).alloc _).trans hO).trans hO2⟩

set_option maxRecDepth 100000 in
set_option maxHeartbeats 4000000 in
theorem Bytes_b_x0 (wid : Int) (prec : Int) (S : ByteArray) (hge : (S.size : Int) ≤ prec) (hasWid minus plus zero : Bool) (hne : 0 < S.size) (hS : S.size ≤ 4096) (hw0 : 0 ≤ wid) (hw1 : wid ≤ 1000000) (w : World) :
    Calls Tryz.prog 42 #[(⟨wid, prec, hasWid, true, minus, plus, true, false, zero⟩ : SF).val, .string S, .bool false] w fun e w' => e = .returned (.tuple #[.string ⟨(specPad ⟨wid, prec, hasWid, true, minus, plus, true, false, zero⟩ ([48, 120] ++ hexes false [] S.data.toList)).toArray⟩, .int .i64 1]) ∧ Only none w w' := by
  obtain ⟨g, hg⟩ : ∃ g : SF, g = ⟨wid, prec, hasWid, true, minus, plus, true, false, zero⟩ := ⟨_, rfl⟩
  obtain ⟨L, hL⟩ : ∃ L : Bytes, L = S.data.toList := ⟨_, rfl⟩
  have hLs : L.length = S.size := by rw [hL, ← size_list]
  have hDl : ∀ (D : ByteArray) (i : Nat), i ≤ S.size → D.data.toList = [48, 120] ++ hexes false [] (L.take i) → D.size ≤ 20000 := by
    intro D i hi hD
    rw [size_list, hD, List.length_append]
    have h1 := hexes_len false [] L i (by omega)
    have h2 : ([48, 120] : Bytes).length ≤ 2 := by decide
    have h3 : ([] : Bytes).length ≤ 1 := by decide
    have h4 : (2 + ([] : Bytes).length) * i ≤ 3 * i := Nat.mul_le_mul_right _ (by omega)
    omega
  have C22 : ∀ (D : ByteArray), D.size ≤ 20000 → D.data.toList = [48, 120] ++ hexes false [] L → ∀ W, Calls Tryz.prog 22 #[g.val, .string D] W fun e w' => e = .returned (.string ⟨(specPad g ([48, 120] ++ hexes false [] L)).toArray⟩) ∧ Only none W w' := by
    intro D hD he W
    rw [← he]
    exact Pad_wide g D (by omega) (by rw [hg]; exact hw0) (by rw [hg]; exact hw1) W
  rw [← hL, ← hg]
  obtain ⟨X, hX⟩ : ∃ X : ByteArray, X = ⟨(specPad g ([48, 120] ++ hexes false [] L)).toArray⟩ := ⟨_, rfl⟩
  rw [← hX] at C22 ⊢
  have hgv : g.val = .agg #[.int .i64 wid, .int .i64 prec, .bool hasWid, .bool true, .bool minus, .bool plus, .bool true, .bool false, .bool zero] := by rw [hg]; rfl
  rw [hgv] at C22 ⊢
  have C23 := fun n h0 h1 W => Digits_hex false n h0 h1 W
  have H22 := Lib.hid C22
  have H23 := Lib.hid C23
  have HD := Lib.hid hDl
  have HL := Lib.hid (And.intro hL hLs)
  have HT := Lib.hid (fun i h => hexes_take false [] L i h)
  have hne1 : S.toList.isEmpty = false := by
    rw [Lib.toList_data]
    cases h : S.data.toList with
    | nil => rw [size_list, h] at hne; exact absurd hne (by decide)
    | cons _ _ => rfl
  clear C22 C23 hX hgv hg hL hLs hDl
  go_enter Tryz.func42, Tryz.ntmps42
  go_wp2
  go_loopw [8, 43] (fun a c W => ∃ (D : ByteArray) (i : Nat), a = .string D ∧ c = .int .i64 i ∧ i ≤ S.size ∧ Only none (w.alloc (.cells #[.int .i64 wid, .int .i64 prec, .bool hasWid, .bool true, .bool minus, .bool plus, .bool true, .bool false, .bool zero] 35)) W ∧ Hid (D.data.toList = [48, 120] ++ hexes false [] (L.take i))) (fun _ c _ => S.size - (intOf c).toNat)
  case atStart => exact ⟨_, 0, rfl, rfl, Nat.zero_le _, by first | exact Only.refl _ _ | exact (Only.refl _ _).alloc _, by show _ = _; simp [hexes]⟩
  case round =>
    obtain ⟨D, i, rfl, rfl, hi, hO, HI⟩ := hrel
    have hDs := HD.out D i hi HI.out
    have hcl := fun j => only_cellAt hO (k := w.heap.size) (by simp) j
    by_cases hlt2 : i < S.size
    · have hb := bt_eq S i hlt2
      have hb0 := bt_nonneg S i
      have hb1 := bt_le S i
      obtain ⟨n, hn⟩ : ∃ n, n = bt S i := ⟨_, rfl⟩
      rw [← hn] at hb hb0 hb1
      have hnx := HT.out i (by rw [HL.out.2]; exact hlt2)
      have hby : UInt8.ofNat n.toNat = L[i]'(by rw [HL.out.2]; exact hlt2) := by
        have e : L[i]'(by rw [HL.out.2]; exact hlt2) = S[i] := by simp only [HL.out.1]; rfl
        rw [e, ← hb]
        simp
      rw [← hby] at hnx
      have C := H23.out n hb0 hb1
      obtain ⟨Q, hQ⟩ : ∃ Q : ByteArray, Q = ⟨(49 :: hex2 false (UInt8.ofNat n.toNat)).toArray⟩ := ⟨_, rfl⟩
      have hQs : Q.size = 3 := by rw [hQ, str_size]; rfl
      obtain ⟨R, hR⟩ : ∃ R : ByteArray, R = Q.extract 1 3 := ⟨_, rfl⟩
      have hRd : R.data.toList = hex2 false (UInt8.ofNat n.toNat) := by rw [hR, hQ]; rfl
      have hRs : R.size = 2 := by rw [size_list, hRd]; rfl
      rw [← hQ] at C
      rw [← hRd] at hnx
      have HC := Lib.hid C
      have HN := Lib.hid hnx
      have HR := Lib.hid hR
      clear C hnx hby hRd hR hn hQ H22 H23 HT
      have q1 : ¬ 9223372036854775807 < D.size + 1 := by omega
      have q2 : ¬ 9223372036854775807 < D.size + R.size := by omega
      have q3 : ¬ 9223372036854775807 < D.size + 1 + R.size := by omega
      have q4 : ¬ 9223372036854775807 < D.size + 2 := by omega
      have q5 : ¬ 9223372036854775807 < D.size + 1 + 2 := by omega
      have hE : Q.extract 1 3 = R := HR.out.symm
      by_cases hi0 : i = 0
      · subst hi0
        go_wp2_with (go_at_call 23; refine (HC.out _).mono ?_; rintro e w2 ⟨rfl, rfl⟩)
        go_roundw
        case rel =>
          refine ⟨_, 1, rfl, rfl, by omega, hO, ?_⟩
          show _ = _
          rw [append_list, HI.out, HN.out]
          simp
        case measure => simp [intOf]; omega
      · have hi1 : (0 : Int) < i := by omega
        have hi2 : 0 < i := by omega
        go_wp2_with (go_at_call 23; refine (HC.out _).mono ?_; rintro e w2 ⟨rfl, rfl⟩)
        go_roundw
        case rel =>
          refine ⟨_, i + 1, rfl, by go_num, by omega, hO, ?_⟩
          show _ = _
          rw [HN.out, if_neg hi0]
          simp [append_list, HI.out]
        case measure => simp [intOf]; omega
    · obtain rfl : i = S.size := by omega
      have hI := HI.out
      rw [← HL.out.2, List.take_length] at hI
      have C := H22.out D hDs hI
      have HC := Lib.hid C
      clear C hI H22 H23 HT HI HL
      go_wp2_with (go_at_call 22; refine (HC.out _).mono ?_; rintro e w2 ⟨rfl, hO2⟩)
      go_ret2
      exact ⟨rfl, (((Only.refl _ _).alloc _).trans hO).trans hO2⟩

set_option maxRecDepth 100000 in
set_option maxHeartbeats 4000000 in
theorem Bytes_b_X (wid : Int) (prec : Int) (S : ByteArray) (hge : (S.size : Int) ≤ prec) (hasWid minus plus zero : Bool) (hne : 0 < S.size) (hS : S.size ≤ 4096) (hw0 : 0 ≤ wid) (hw1 : wid ≤ 1000000) (w : World) :
    Calls Tryz.prog 42 #[(⟨wid, prec, hasWid, true, minus, plus, true, false, zero⟩ : SF).val, .string S, .bool true] w fun e w' => e = .returned (.tuple #[.string ⟨(specPad ⟨wid, prec, hasWid, true, minus, plus, true, false, zero⟩ ([48, 88] ++ hexes true [] S.data.toList)).toArray⟩, .int .i64 1]) ∧ Only none w w' := by
  obtain ⟨g, hg⟩ : ∃ g : SF, g = ⟨wid, prec, hasWid, true, minus, plus, true, false, zero⟩ := ⟨_, rfl⟩
  obtain ⟨L, hL⟩ : ∃ L : Bytes, L = S.data.toList := ⟨_, rfl⟩
  have hLs : L.length = S.size := by rw [hL, ← size_list]
  have hDl : ∀ (D : ByteArray) (i : Nat), i ≤ S.size → D.data.toList = [48, 88] ++ hexes true [] (L.take i) → D.size ≤ 20000 := by
    intro D i hi hD
    rw [size_list, hD, List.length_append]
    have h1 := hexes_len true [] L i (by omega)
    have h2 : ([48, 88] : Bytes).length ≤ 2 := by decide
    have h3 : ([] : Bytes).length ≤ 1 := by decide
    have h4 : (2 + ([] : Bytes).length) * i ≤ 3 * i := Nat.mul_le_mul_right _ (by omega)
    omega
  have C22 : ∀ (D : ByteArray), D.size ≤ 20000 → D.data.toList = [48, 88] ++ hexes true [] L → ∀ W, Calls Tryz.prog 22 #[g.val, .string D] W fun e w' => e = .returned (.string ⟨(specPad g ([48, 88] ++ hexes true [] L)).toArray⟩) ∧ Only none W w' := by
    intro D hD he W
    rw [← he]
    exact Pad_wide g D (by omega) (by rw [hg]; exact hw0) (by rw [hg]; exact hw1) W
  rw [← hL, ← hg]
  obtain ⟨X, hX⟩ : ∃ X : ByteArray, X = ⟨(specPad g ([48, 88] ++ hexes true [] L)).toArray⟩ := ⟨_, rfl⟩
  rw [← hX] at C22 ⊢
  have hgv : g.val = .agg #[.int .i64 wid, .int .i64 prec, .bool hasWid, .bool true, .bool minus, .bool plus, .bool true, .bool false, .bool zero] := by rw [hg]; rfl
  rw [hgv] at C22 ⊢
  have C23 := fun n h0 h1 W => Digits_hex true n h0 h1 W
  have H22 := Lib.hid C22
  have H23 := Lib.hid C23
  have HD := Lib.hid hDl
  have HL := Lib.hid (And.intro hL hLs)
  have HT := Lib.hid (fun i h => hexes_take true [] L i h)
  have hne1 : S.toList.isEmpty = false := by
    rw [Lib.toList_data]
    cases h : S.data.toList with
    | nil => rw [size_list, h] at hne; exact absurd hne (by decide)
    | cons _ _ => rfl
  clear C22 C23 hX hgv hg hL hLs hDl
  go_enter Tryz.func42, Tryz.ntmps42
  go_wp2
  go_loopw [8, 43] (fun a c W => ∃ (D : ByteArray) (i : Nat), a = .string D ∧ c = .int .i64 i ∧ i ≤ S.size ∧ Only none (w.alloc (.cells #[.int .i64 wid, .int .i64 prec, .bool hasWid, .bool true, .bool minus, .bool plus, .bool true, .bool false, .bool zero] 35)) W ∧ Hid (D.data.toList = [48, 88] ++ hexes true [] (L.take i))) (fun _ c _ => S.size - (intOf c).toNat)
  case atStart => exact ⟨_, 0, rfl, rfl, Nat.zero_le _, by first | exact Only.refl _ _ | exact (Only.refl _ _).alloc _, by show _ = _; simp [hexes]⟩
  case round =>
    obtain ⟨D, i, rfl, rfl, hi, hO, HI⟩ := hrel
    have hDs := HD.out D i hi HI.out
    have hcl := fun j => only_cellAt hO (k := w.heap.size) (by simp) j
    by_cases hlt2 : i < S.size
    · have hb := bt_eq S i hlt2
      have hb0 := bt_nonneg S i
      have hb1 := bt_le S i
      obtain ⟨n, hn⟩ : ∃ n, n = bt S i := ⟨_, rfl⟩
      rw [← hn] at hb hb0 hb1
      have hnx := HT.out i (by rw [HL.out.2]; exact hlt2)
      have hby : UInt8.ofNat n.toNat = L[i]'(by rw [HL.out.2]; exact hlt2) := by
        have e : L[i]'(by rw [HL.out.2]; exact hlt2) = S[i] := by simp only [HL.out.1]; rfl
        rw [e, ← hb]
        simp
      rw [← hby] at hnx
      have C := H23.out n hb0 hb1
      obtain ⟨Q, hQ⟩ : ∃ Q : ByteArray, Q = ⟨(49 :: hex2 true (UInt8.ofNat n.toNat)).toArray⟩ := ⟨_, rfl⟩
      have hQs : Q.size = 3 := by rw [hQ, str_size]; rfl
      obtain ⟨R, hR⟩ : ∃ R : ByteArray, R = Q.extract 1 3 := ⟨_, rfl⟩
      have hRd : R.data.toList = hex2 true (UInt8.ofNat n.toNat) := by rw [hR, hQ]; rfl
      have hRs : R.size = 2 := by rw [size_list, hRd]; rfl
      rw [← hQ] at C
      rw [← hRd] at hnx
      have HC := Lib.hid C
      have HN := Lib.hid hnx
      have HR := Lib.hid hR
      clear C hnx hby hRd hR hn hQ H22 H23 HT
      have q1 : ¬ 9223372036854775807 < D.size + 1 := by omega
      have q2 : ¬ 9223372036854775807 < D.size + R.size := by omega
      have q3 : ¬ 9223372036854775807 < D.size + 1 + R.size := by omega
      have q4 : ¬ 9223372036854775807 < D.size + 2 := by omega
      have q5 : ¬ 9223372036854775807 < D.size + 1 + 2 := by omega
      have hE : Q.extract 1 3 = R := HR.out.symm
      by_cases hi0 : i = 0
      · subst hi0
        go_wp2_with (go_at_call 23; refine (HC.out _).mono ?_; rintro e w2 ⟨rfl, rfl⟩)
        go_roundw
        case rel =>
          refine ⟨_, 1, rfl, rfl, by omega, hO, ?_⟩
          show _ = _
          rw [append_list, HI.out, HN.out]
          simp
        case measure => simp [intOf]; omega
      · have hi1 : (0 : Int) < i := by omega
        have hi2 : 0 < i := by omega
        go_wp2_with (go_at_call 23; refine (HC.out _).mono ?_; rintro e w2 ⟨rfl, rfl⟩)
        go_roundw
        case rel =>
          refine ⟨_, i + 1, rfl, by go_num, by omega, hO, ?_⟩
          show _ = _
          rw [HN.out, if_neg hi0]
          simp [append_list, HI.out]
        case measure => simp [intOf]; omega
    · obtain rfl : i = S.size := by omega
      have hI := HI.out
      rw [← HL.out.2, List.take_length] at hI
      have C := H22.out D hDs hI
      have HC := Lib.hid C
      clear C hI H22 H23 HT HI HL
      go_wp2_with (go_at_call 22; refine (HC.out _).mono ?_; rintro e w2 ⟨rfl, hO2⟩)
      go_ret2
      exact ⟨rfl, (((Only.refl _ _).alloc _).trans hO).trans hO2⟩

set_option maxRecDepth 100000 in
set_option maxHeartbeats 4000000 in
theorem Bytes_c_n (wid : Int) (p : Nat) (t S : ByteArray) (hlt : (p : Int) < t.size) (hS2 : t.extract 0 p = S) (hasWid minus plus zero : Bool) (up : Bool) (hS : S.size ≤ 4096) (hw0 : 0 ≤ wid) (hw1 : wid ≤ 1000000) (w : World) :
    Calls Tryz.prog 42 #[(⟨wid, (p : Int), hasWid, true, minus, plus, false, false, zero⟩ : SF).val, .string t, .bool up] w fun e w' => e = .returned (.tuple #[.string ⟨(specPad ⟨wid, (p : Int), hasWid, true, minus, plus, false, false, zero⟩ ([] ++ hexes up [] S.data.toList)).toArray⟩, .int .i64 1]) ∧ Only none w w' := by
  obtain ⟨g, hg⟩ : ∃ g : SF, g = ⟨wid, (p : Int), hasWid, true, minus, plus, false, false, zero⟩ := ⟨_, rfl⟩
  obtain ⟨L, hL⟩ : ∃ L : Bytes, L = S.data.toList := ⟨_, rfl⟩
  have hLs : L.length = S.size := by rw [hL, ← size_list]
  have hDl : ∀ (D : ByteArray) (i : Nat), i ≤ S.size → D.data.toList = [] ++ hexes up [] (L.take i) → D.size ≤ 20000 := by
    intro D i hi hD
    rw [size_list, hD, List.length_append]
    have h1 := hexes_len up [] L i (by omega)
    have h2 : ([] : Bytes).length ≤ 2 := by decide
    have h3 : ([] : Bytes).length ≤ 1 := by decide
    have h4 : (2 + ([] : Bytes).length) * i ≤ 3 * i := Nat.mul_le_mul_right _ (by omega)
    omega
  have C22 : ∀ (D : ByteArray), D.size ≤ 20000 → D.data.toList = [] ++ hexes up [] L → ∀ W, Calls Tryz.prog 22 #[g.val, .string D] W fun e w' => e = .returned (.string ⟨(specPad g ([] ++ hexes up [] L)).toArray⟩) ∧ Only none W w' := by
    intro D hD he W
    rw [← he]
    exact Pad_wide g D (by omega) (by rw [hg]; exact hw0) (by rw [hg]; exact hw1) W
  rw [← hL, ← hg]
  obtain ⟨X, hX⟩ : ∃ X : ByteArray, X = ⟨(specPad g ([] ++ hexes up [] L)).toArray⟩ := ⟨_, rfl⟩
  rw [← hX] at C22 ⊢
  have hgv : g.val = .agg #[.int .i64 wid, .int .i64 (p : Int), .bool hasWid, .bool true, .bool minus, .bool plus, .bool false, .bool false, .bool zero] := by rw [hg]; rfl
  rw [hgv] at C22 ⊢
  have C23 := fun n h0 h1 W => Digits_hex up n h0 h1 W
  have H22 := Lib.hid C22
  have H23 := Lib.hid C23
  have HD := Lib.hid hDl
  have HL := Lib.hid (And.intro hL hLs)
  have HT := Lib.hid (fun i h => hexes_take up [] L i h)
  have HS2 := Lib.hid hS2
  clear C22 C23 hX hgv hg hL hLs hDl hS2
  go_enter Tryz.func42, Tryz.ntmps42
  go_upto_region 3 with fail
  rw [HS2.out]
  clear HS2 hlt
  go_wp2
  go_loopw [8, 43] (fun a c W => ∃ (D : ByteArray) (i : Nat), a = .string D ∧ c = .int .i64 i ∧ i ≤ S.size ∧ Only none (w.alloc (.cells #[.int .i64 wid, .int .i64 (p : Int), .bool hasWid, .bool true, .bool minus, .bool plus, .bool false, .bool false, .bool zero] 35)) W ∧ Hid (D.data.toList = [] ++ hexes up [] (L.take i))) (fun _ c _ => S.size - (intOf c).toNat)
  case atStart => exact ⟨_, 0, rfl, rfl, Nat.zero_le _, by first | exact Only.refl _ _ | exact (Only.refl _ _).alloc _, by show _ = _; simp [hexes]⟩
  case round =>
    obtain ⟨D, i, rfl, rfl, hi, hO, HI⟩ := hrel
    have hDs := HD.out D i hi HI.out
    have hcl := fun j => only_cellAt hO (k := w.heap.size) (by simp) j
    by_cases hlt2 : i < S.size
    · have hb := bt_eq S i hlt2
      have hb0 := bt_nonneg S i
      have hb1 := bt_le S i
      obtain ⟨n, hn⟩ : ∃ n, n = bt S i := ⟨_, rfl⟩
      rw [← hn] at hb hb0 hb1
      have hnx := HT.out i (by rw [HL.out.2]; exact hlt2)
      have hby : UInt8.ofNat n.toNat = L[i]'(by rw [HL.out.2]; exact hlt2) := by
        have e : L[i]'(by rw [HL.out.2]; exact hlt2) = S[i] := by simp only [HL.out.1]; rfl
        rw [e, ← hb]
        simp
      rw [← hby] at hnx
      have C := H23.out n hb0 hb1
      obtain ⟨Q, hQ⟩ : ∃ Q : ByteArray, Q = ⟨(49 :: hex2 up (UInt8.ofNat n.toNat)).toArray⟩ := ⟨_, rfl⟩
      have hQs : Q.size = 3 := by rw [hQ, str_size]; rfl
      obtain ⟨R, hR⟩ : ∃ R : ByteArray, R = Q.extract 1 3 := ⟨_, rfl⟩
      have hRd : R.data.toList = hex2 up (UInt8.ofNat n.toNat) := by rw [hR, hQ]; rfl
      have hRs : R.size = 2 := by rw [size_list, hRd]; rfl
      rw [← hQ] at C
      rw [← hRd] at hnx
      have HC := Lib.hid C
      have HN := Lib.hid hnx
      have HR := Lib.hid hR
      clear C hnx hby hRd hR hn hQ H22 H23 HT
      have q1 : ¬ 9223372036854775807 < D.size + 1 := by omega
      have q2 : ¬ 9223372036854775807 < D.size + R.size := by omega
      have q3 : ¬ 9223372036854775807 < D.size + 1 + R.size := by omega
      have q4 : ¬ 9223372036854775807 < D.size + 2 := by omega
      have q5 : ¬ 9223372036854775807 < D.size + 1 + 2 := by omega
      have hE : Q.extract 1 3 = R := HR.out.symm
      by_cases hi0 : i = 0
      · subst hi0
        go_wp2_with (go_at_call 23; refine (HC.out _).mono ?_; rintro e w2 ⟨rfl, rfl⟩)
        go_roundw
        case rel =>
          refine ⟨_, 1, rfl, rfl, by omega, hO, ?_⟩
          show _ = _
          rw [append_list, HI.out, HN.out]
          simp
        case measure => simp [intOf]; omega
      · have hi1 : (0 : Int) < i := by omega
        have hi2 : 0 < i := by omega
        go_wp2_with (go_at_call 23; refine (HC.out _).mono ?_; rintro e w2 ⟨rfl, rfl⟩)
        go_roundw
        case rel =>
          refine ⟨_, i + 1, rfl, by go_num, by omega, hO, ?_⟩
          show _ = _
          rw [HN.out, if_neg hi0]
          simp [append_list, HI.out]
        case measure => simp [intOf]; omega
    · obtain rfl : i = S.size := by omega
      have hI := HI.out
      rw [← HL.out.2, List.take_length] at hI
      have C := H22.out D hDs hI
      have HC := Lib.hid C
      clear C hI H22 H23 HT HI HL
      go_wp2_with (go_at_call 22; refine (HC.out _).mono ?_; rintro e w2 ⟨rfl, hO2⟩)
      go_ret2
      exact ⟨rfl, (((Only.refl _ _).alloc _).trans hO).trans hO2⟩

set_option maxRecDepth 100000 in
set_option maxHeartbeats 4000000 in
theorem Bytes_c_s (wid : Int) (p : Nat) (t S : ByteArray) (hlt : (p : Int) < t.size) (hS2 : t.extract 0 p = S) (hasWid minus plus zero : Bool) (up : Bool) (hS : S.size ≤ 4096) (hw0 : 0 ≤ wid) (hw1 : wid ≤ 1000000) (w : World) :
    Calls Tryz.prog 42 #[(⟨wid, (p : Int), hasWid, true, minus, plus, false, true, zero⟩ : SF).val, .string t, .bool up] w fun e w' => e = .returned (.tuple #[.string ⟨(specPad ⟨wid, (p : Int), hasWid, true, minus, plus, false, true, zero⟩ ([] ++ hexes up [32] S.data.toList)).toArray⟩, .int .i64 1]) ∧ Only none w w' := by
  obtain ⟨g, hg⟩ : ∃ g : SF, g = ⟨wid, (p : Int), hasWid, true, minus, plus, false, true, zero⟩ := ⟨_, rfl⟩
  obtain ⟨L, hL⟩ : ∃ L : Bytes, L = S.data.toList := ⟨_, rfl⟩
  have hLs : L.length = S.size := by rw [hL, ← size_list]
  have hDl : ∀ (D : ByteArray) (i : Nat), i ≤ S.size → D.data.toList = [] ++ hexes up [32] (L.take i) → D.size ≤ 20000 := by
    intro D i hi hD
    rw [size_list, hD, List.length_append]
    have h1 := hexes_len up [32] L i (by omega)
    have h2 : ([] : Bytes).length ≤ 2 := by decide
    have h3 : ([32] : Bytes).length ≤ 1 := by decide
    have h4 : (2 + ([32] : Bytes).length) * i ≤ 3 * i := Nat.mul_le_mul_right _ (by omega)
    omega
  have C22 : ∀ (D : ByteArray), D.size ≤ 20000 → D.data.toList = [] ++ hexes up [32] L → ∀ W, Calls Tryz.prog 22 #[g.val, .string D] W fun e w' => e = .returned (.string ⟨(specPad g ([] ++ hexes up [32] L)).toArray⟩) ∧ Only none W w' := by
    intro D hD he W
    rw [← he]
    exact Pad_wide g D (by omega) (by rw [hg]; exact hw0) (by rw [hg]; exact hw1) W
  rw [← hL, ← hg]
  obtain ⟨X, hX⟩ : ∃ X : ByteArray, X = ⟨(specPad g ([] ++ hexes up [32] L)).toArray⟩ := ⟨_, rfl⟩
  rw [← hX] at C22 ⊢
  have hgv : g.val = .agg #[.int .i64 wid, .int .i64 (p : Int), .bool hasWid, .bool true, .bool minus, .bool plus, .bool false, .bool true, .bool zero] := by rw [hg]; rfl
  rw [hgv] at C22 ⊢
  have C23 := fun n h0 h1 W => Digits_hex up n h0 h1 W
  have H22 := Lib.hid C22
  have H23 := Lib.hid C23
  have HD := Lib.hid hDl
  have HL := Lib.hid (And.intro hL hLs)
  have HT := Lib.hid (fun i h => hexes_take up [32] L i h)
  have HS2 := Lib.hid hS2
  clear C22 C23 hX hgv hg hL hLs hDl hS2
  go_enter Tryz.func42, Tryz.ntmps42
  go_upto_region 3 with fail
  rw [HS2.out]
  clear HS2 hlt
  go_wp2
  go_loopw [8, 43] (fun a c W => ∃ (D : ByteArray) (i : Nat), a = .string D ∧ c = .int .i64 i ∧ i ≤ S.size ∧ Only none (w.alloc (.cells #[.int .i64 wid, .int .i64 (p : Int), .bool hasWid, .bool true, .bool minus, .bool plus, .bool false, .bool true, .bool zero] 35)) W ∧ Hid (D.data.toList = [] ++ hexes up [32] (L.take i))) (fun _ c _ => S.size - (intOf c).toNat)
  case atStart => exact ⟨_, 0, rfl, rfl, Nat.zero_le _, by first | exact Only.refl _ _ | exact (Only.refl _ _).alloc _, by show _ = _; simp [hexes]⟩
  case round =>
    obtain ⟨D, i, rfl, rfl, hi, hO, HI⟩ := hrel
    have hDs := HD.out D i hi HI.out
    have hcl := fun j => only_cellAt hO (k := w.heap.size) (by simp) j
    by_cases hlt2 : i < S.size
    · have hb := bt_eq S i hlt2
      have hb0 := bt_nonneg S i
      have hb1 := bt_le S i
      obtain ⟨n, hn⟩ : ∃ n, n = bt S i := ⟨_, rfl⟩
      rw [← hn] at hb hb0 hb1
      have hnx := HT.out i (by rw [HL.out.2]; exact hlt2)
      have hby : UInt8.ofNat n.toNat = L[i]'(by rw [HL.out.2]; exact hlt2) := by
        have e : L[i]'(by rw [HL.out.2]; exact hlt2) = S[i] := by simp only [HL.out.1]; rfl
        rw [e, ← hb]
        simp
      rw [← hby] at hnx
      have C := H23.out n hb0 hb1
      obtain ⟨Q, hQ⟩ : ∃ Q : ByteArray, Q = ⟨(49 :: hex2 up (UInt8.ofNat n.toNat)).toArray⟩ := ⟨_, rfl⟩
      have hQs : Q.size = 3 := by rw [hQ, str_size]; rfl
      obtain ⟨R, hR⟩ : ∃ R : ByteArray, R = Q.extract 1 3 := ⟨_, rfl⟩
      have hRd : R.data.toList = hex2 up (UInt8.ofNat n.toNat) := by rw [hR, hQ]; rfl
      have hRs : R.size = 2 := by rw [size_list, hRd]; rfl
      rw [← hQ] at C
      rw [← hRd] at hnx
      have HC := Lib.hid C
      have HN := Lib.hid hnx
      have HR := Lib.hid hR
      clear C hnx hby hRd hR hn hQ H22 H23 HT
      have q1 : ¬ 9223372036854775807 < D.size + 1 := by omega
      have q2 : ¬ 9223372036854775807 < D.size + R.size := by omega
      have q3 : ¬ 9223372036854775807 < D.size + 1 + R.size := by omega
      have q4 : ¬ 9223372036854775807 < D.size + 2 := by omega
      have q5 : ¬ 9223372036854775807 < D.size + 1 + 2 := by omega
      have hE : Q.extract 1 3 = R := HR.out.symm
      by_cases hi0 : i = 0
      · subst hi0
        go_wp2_with (go_at_call 23; refine (HC.out _).mono ?_; rintro e w2 ⟨rfl, rfl⟩)
        go_roundw
        case rel =>
          refine ⟨_, 1, rfl, rfl, by omega, hO, ?_⟩
          show _ = _
          rw [append_list, HI.out, HN.out]
          simp
        case measure => simp [intOf]; omega
      · have hi1 : (0 : Int) < i := by omega
        have hi2 : 0 < i := by omega
        go_wp2_with (go_at_call 23; refine (HC.out _).mono ?_; rintro e w2 ⟨rfl, rfl⟩)
        go_roundw
        case rel =>
          refine ⟨_, i + 1, rfl, by go_num, by omega, hO, ?_⟩
          show _ = _
          rw [HN.out, if_neg hi0]
          simp [append_list, HI.out]
        case measure => simp [intOf]; omega
    · obtain rfl : i = S.size := by omega
      have hI := HI.out
      rw [← HL.out.2, List.take_length] at hI
      have C := H22.out D hDs hI
      have HC := Lib.hid C
      clear C hI H22 H23 HT HI HL
      go_wp2_with (go_at_call 22; refine (HC.out _).mono ?_; rintro e w2 ⟨rfl, hO2⟩)
      go_ret2
      exact ⟨rfl, (((Only.refl _ _).alloc _).trans hO).trans hO2⟩

set_option maxRecDepth 100000 in
set_option maxHeartbeats 4000000 in
theorem Bytes_c_x0 (wid : Int) (p : Nat) (t S : ByteArray) (hlt : (p : Int) < t.size) (hS2 : t.extract 0 p = S) (hasWid minus plus zero : Bool) (hne : 0 < S.size) (hS : S.size ≤ 4096) (hw0 : 0 ≤ wid) (hw1 : wid ≤ 1000000) (w : World) :
    Calls Tryz.prog 42 #[(⟨wid, (p : Int), hasWid, true, minus, plus, true, false, zero⟩ : SF).val, .string t, .bool false] w fun e w' => e = .returned (.tuple #[.string ⟨(specPad ⟨wid, (p : Int), hasWid, true, minus, plus, true, false, zero⟩ ([48, 120] ++ hexes false [] S.data.toList)).toArray⟩, .int .i64 1]) ∧ Only none w w' := by
  obtain ⟨g, hg⟩ : ∃ g : SF, g = ⟨wid, (p : Int), hasWid, true, minus, plus, true, false, zero⟩ := ⟨_, rfl⟩
  obtain ⟨L, hL⟩ : ∃ L : Bytes, L = S.data.toList := ⟨_, rfl⟩
  have hLs : L.length = S.size := by rw [hL, ← size_list]
  have hDl : ∀ (D : ByteArray) (i : Nat), i ≤ S.size → D.data.toList = [48, 120] ++ hexes false [] (L.take i) → D.size ≤ 20000 := by
    intro D i hi hD
    rw [size_list, hD, List.length_append]
    have h1 := hexes_len false [] L i (by omega)
    have h2 : ([48, 120] : Bytes).length ≤ 2 := by decide
    have h3 : ([] : Bytes).length ≤ 1 := by decide
    have h4 : (2 + ([] : Bytes).length) * i ≤ 3 * i := Nat.mul_le_mul_right _ (by omega)
    omega
  have C22 : ∀ (D : ByteArray), D.size ≤ 20000 → D.data.toList = [48, 120] ++ hexes false [] L → ∀ W, Calls Tryz.prog 22 #[g.val, .string D] W fun e w' => e = .returned (.string ⟨(specPad g ([48, 120] ++ hexes false [] L)).toArray⟩) ∧ Only none W w' := by
    intro D hD he W
    rw [← he]
    exact Pad_wide g D (by omega) (by rw [hg]; exact hw0) (by rw [hg]; exact hw1) W
  rw [← hL, ← hg]
  obtain ⟨X, hX⟩ : ∃ X : ByteArray, X = ⟨(specPad g ([48, 120] ++ hexes false [] L)).toArray⟩ := ⟨_, rfl⟩
  rw [← hX] at C22 ⊢
  have hgv : g.val = .agg #[.int .i64 wid, .int .i64 (p : Int), .bool hasWid, .bool true, .bool minus, .bool plus, .bool true, .bool false, .bool zero] := by rw [hg]; rfl
  rw [hgv] at C22 ⊢
  have C23 := fun n h0 h1 W => Digits_hex false n h0 h1 W
  have H22 := Lib.hid C22
  have H23 := Lib.hid C23
  have HD := Lib.hid hDl
  have HL := Lib.hid (And.intro hL hLs)
  have HT := Lib.hid (fun i h => hexes_take false [] L i h)
  have hne1 : S.toList.isEmpty = false := by
    rw [Lib.toList_data]
    cases h : S.data.toList with
    | nil => rw [size_list, h] at hne; exact absurd hne (by decide)
    | cons _ _ => rfl
  have HS2 := Lib.hid hS2
  clear C22 C23 hX hgv hg hL hLs hDl hS2
  go_enter Tryz.func42, Tryz.ntmps42
  go_upto_region 3 with fail
  rw [HS2.out]
  clear HS2 hlt
  go_wp2
  go_loopw [8, 43] (fun a c W => ∃ (D : ByteArray) (i : Nat), a = .string D ∧ c = .int .i64 i ∧ i ≤ S.size ∧ Only none (w.alloc (.cells #[.int .i64 wid, .int .i64 (p : Int), .bool hasWid, .bool true, .bool minus, .bool plus, .bool true, .bool false, .bool zero] 35)) W ∧ Hid (D.data.toList = [48, 120] ++ hexes false [] (L.take i))) (fun _ c _ => S.size - (intOf c).toNat)
  case atStart => exact ⟨_, 0, rfl, rfl, Nat.zero_le _, by first | exact Only.refl _ _ | exact (Only.refl _ _).alloc _, by show _ = _; simp [hexes]⟩
  case round =>
    obtain ⟨D, i, rfl, rfl, hi, hO, HI⟩ := hrel
    have hDs := HD.out D i hi HI.out
    have hcl := fun j => only_cellAt hO (k := w.heap.size) (by simp) j
    by_cases hlt2 : i < S.size
    · have hb := bt_eq S i hlt2
      have hb0 := bt_nonneg S i
      have hb1 := bt_le S i
      obtain ⟨n, hn⟩ : ∃ n, n = bt S i := ⟨_, rfl⟩
      rw [← hn] at hb hb0 hb1
      have hnx := HT.out i (by rw [HL.out.2]; exact hlt2)
      have hby : UInt8.ofNat n.toNat = L[i]'(by rw [HL.out.2]; exact hlt2) := by
        have e : L[i]'(by rw [HL.out.2]; exact hlt2) = S[i] := by simp only [HL.out.1]; rfl
        rw [e, ← hb]
        simp
      rw [← hby] at hnx
      have C := H23.out n hb0 hb1
      obtain ⟨Q, hQ⟩ : ∃ Q : ByteArray, Q = ⟨(49 :: hex2 false (UInt8.ofNat n.toNat)).toArray⟩ := ⟨_, rfl⟩
      have hQs : Q.size = 3 := by rw [hQ, str_size]; rfl
      obtain ⟨R, hR⟩ : ∃ R : ByteArray, R = Q.extract 1 3 := ⟨_, rfl⟩
      have hRd : R.data.toList = hex2 false (UInt8.ofNat n.toNat) := by rw [hR, hQ]; rfl
      have hRs : R.size = 2 := by rw [size_list, hRd]; rfl
      rw [← hQ] at C
      rw [← hRd] at hnx
      have HC := Lib.hid C
      have HN := Lib.hid hnx
      have HR := Lib.hid hR
      clear C hnx hby hRd hR hn hQ H22 H23 HT
      have q1 : ¬ 9223372036854775807 < D.size + 1 := by omega
      have q2 : ¬ 9223372036854775807 < D.size + R.size := by omega
      have q3 : ¬ 9223372036854775807 < D.size + 1 + R.size := by omega
      have q4 : ¬ 9223372036854775807 < D.size + 2 := by omega
      have q5 : ¬ 9223372036854775807 < D.size + 1 + 2 := by omega
      have hE : Q.extract 1 3 = R := HR.out.symm
      by_cases hi0 : i = 0
      · subst hi0
        go_wp2_with (go_at_call 23; refine (HC.out _).mono ?_; rintro e w2 ⟨rfl, rfl⟩)
        go_roundw
        case rel =>
          refine ⟨_, 1, rfl, rfl, by omega, hO, ?_⟩
          show _ = _
          rw [append_list, HI.out, HN.out]
          simp
        case measure => simp [intOf]; omega
      · have hi1 : (0 : Int) < i := by omega
        have hi2 : 0 < i := by omega
        go_wp2_with (go_at_call 23; refine (HC.out _).mono ?_; rintro e w2 ⟨rfl, rfl⟩)
        go_roundw
        case rel =>
          refine ⟨_, i + 1, rfl, by go_num, by omega, hO, ?_⟩
          show _ = _
          rw [HN.out, if_neg hi0]
          simp [append_list, HI.out]
        case measure => simp [intOf]; omega
    · obtain rfl : i = S.size := by omega
      have hI := HI.out
      rw [← HL.out.2, List.take_length] at hI
      have C := H22.out D hDs hI
      have HC := Lib.hid C
      clear C hI H22 H23 HT HI HL
      go_wp2_with (go_at_call 22; refine (HC.out _).mono ?_; rintro e w2 ⟨rfl, hO2⟩)
      go_ret2
      exact ⟨rfl, (((Only.refl _ _).alloc _).trans hO).trans hO2⟩

set_option maxRecDepth 100000 in
set_option maxHeartbeats 4000000 in
theorem Bytes_c_X (wid : Int) (p : Nat) (t S : ByteArray) (hlt : (p : Int) < t.size) (hS2 : t.extract 0 p = S) (hasWid minus plus zero : Bool) (hne : 0 < S.size) (hS : S.size ≤ 4096) (hw0 : 0 ≤ wid) (hw1 : wid ≤ 1000000) (w : World) :
    Calls Tryz.prog 42 #[(⟨wid, (p : Int), hasWid, true, minus, plus, true, false, zero⟩ : SF).val, .string t, .bool true] w fun e w' => e = .returned (.tuple #[.string ⟨(specPad ⟨wid, (p : Int), hasWid, true, minus, plus, true, false, zero⟩ ([48, 88] ++ hexes true [] S.data.toList)).toArray⟩, .int .i64 1]) ∧ Only none w w' := by
  obtain ⟨g, hg⟩ : ∃ g : SF, g = ⟨wid, (p : Int), hasWid, true, minus, plus, true, false, zero⟩ := ⟨_, rfl⟩
  obtain ⟨L, hL⟩ : ∃ L : Bytes, L = S.data.toList := ⟨_, rfl⟩
  have hLs : L.length = S.size := by rw [hL, ← size_list]
  have hDl : ∀ (D : ByteArray) (i : Nat), i ≤ S.size → D.data.toList = [48, 88] ++ hexes true [] (L.take i) → D.size ≤ 20000 := by
    intro D i hi hD
    rw [size_list, hD, List.length_append]
    have h1 := hexes_len true [] L i (by omega)
    have h2 : ([48, 88] : Bytes).length ≤ 2 := by decide
    have h3 : ([] : Bytes).length ≤ 1 := by decide
    have h4 : (2 + ([] : Bytes).length) * i ≤ 3 * i := Nat.mul_le_mul_right _ (by omega)
    omega
  have C22 : ∀ (D : ByteArray), D.size ≤ 20000 → D.data.toList = [48, 88] ++ hexes true [] L → ∀ W, Calls Tryz.prog 22 #[g.val, .string D] W fun e w' => e = .returned (.string ⟨(specPad g ([48, 88] ++ hexes true [] L)).toArray⟩) ∧ Only none W w' := by
    intro D hD he W
    rw [← he]
    exact Pad_wide g D (by omega) (by rw [hg]; exact hw0) (by rw [hg]; exact hw1) W
  rw [← hL, ← hg]
  obtain ⟨X, hX⟩ : ∃ X : ByteArray, X = ⟨(specPad g ([48, 88] ++ hexes true [] L)).toArray⟩ := ⟨_, rfl⟩
  rw [← hX] at C22 ⊢
  have hgv : g.val = .agg #[.int .i64 wid, .int .i64 (p : Int), .bool hasWid, .bool true, .bool minus, .bool plus, .bool true, .bool false, .bool zero] := by rw [hg]; rfl
  rw [hgv] at C22 ⊢
  have C23 := fun n h0 h1 W => Digits_hex true n h0 h1 W
  have H22 := Lib.hid C22
  have H23 := Lib.hid C23
  have HD := Lib.hid hDl
  have HL := Lib.hid (And.intro hL hLs)
  have HT := Lib.hid (fun i h => hexes_take true [] L i h)
  have hne1 : S.toList.isEmpty = false := by
    rw [Lib.toList_data]
    cases h : S.data.toList with
    | nil => rw [size_list, h] at hne; exact absurd hne (by decide)
    | cons _ _ => rfl
  have HS2 := Lib.hid hS2
  clear C22 C23 hX hgv hg hL hLs hDl hS2
  go_enter Tryz.func42, Tryz.ntmps42
  go_upto_region 3 with fail
  rw [HS2.out]
  clear HS2 hlt
  go_wp2
  go_loopw [8, 43] (fun a c W => ∃ (D : ByteArray) (i : Nat), a = .string D ∧ c = .int .i64 i ∧ i ≤ S.size ∧ Only none (w.alloc (.cells #[.int .i64 wid, .int .i64 (p : Int), .bool hasWid, .bool true, .bool minus, .bool plus, .bool true, .bool false, .bool zero] 35)) W ∧ Hid (D.data.toList = [48, 88] ++ hexes true [] (L.take i))) (fun _ c _ => S.size - (intOf c).toNat)
  case atStart => exact ⟨_, 0, rfl, rfl, Nat.zero_le _, by first | exact Only.refl _ _ | exact (Only.refl _ _).alloc _, by show _ = _; simp [hexes]⟩
  case round =>
    obtain ⟨D, i, rfl, rfl, hi, hO, HI⟩ := hrel
    have hDs := HD.out D i hi HI.out
    have hcl := fun j => only_cellAt hO (k := w.heap.size) (by simp) j
    by_cases hlt2 : i < S.size
    · have hb := bt_eq S i hlt2
      have hb0 := bt_nonneg S i
      have hb1 := bt_le S i
      obtain ⟨n, hn⟩ : ∃ n, n = bt S i := ⟨_, rfl⟩
      rw [← hn] at hb hb0 hb1
      have hnx := HT.out i (by rw [HL.out.2]; exact hlt2)
      have hby : UInt8.ofNat n.toNat = L[i]'(by rw [HL.out.2]; exact hlt2) := by
        have e : L[i]'(by rw [HL.out.2]; exact hlt2) = S[i] := by simp only [HL.out.1]; rfl
        rw [e, ← hb]
        simp
      rw [← hby] at hnx
      have C := H23.out n hb0 hb1
      obtain ⟨Q, hQ⟩ : ∃ Q : ByteArray, Q = ⟨(49 :: hex2 true (UInt8.ofNat n.toNat)).toArray⟩ := ⟨_, rfl⟩
      have hQs : Q.size = 3 := by rw [hQ, str_size]; rfl
      obtain ⟨R, hR⟩ : ∃ R : ByteArray, R = Q.extract 1 3 := ⟨_, rfl⟩
      have hRd : R.data.toList = hex2 true (UInt8.ofNat n.toNat) := by rw [hR, hQ]; rfl
      have hRs : R.size = 2 := by rw [size_list, hRd]; rfl
      rw [← hQ] at C
      rw [← hRd] at hnx
      have HC := Lib.hid C
      have HN := Lib.hid hnx
      have HR := Lib.hid hR
      clear C hnx hby hRd hR hn hQ H22 H23 HT
      have q1 : ¬ 9223372036854775807 < D.size + 1 := by omega
      have q2 : ¬ 9223372036854775807 < D.size + R.size := by omega
      have q3 : ¬ 9223372036854775807 < D.size + 1 + R.size := by omega
      have q4 : ¬ 9223372036854775807 < D.size + 2 := by omega
      have q5 : ¬ 9223372036854775807 < D.size + 1 + 2 := by omega
      have hE : Q.extract 1 3 = R := HR.out.symm
      by_cases hi0 : i = 0
      · subst hi0
        go_wp2_with (go_at_call 23; refine (HC.out _).mono ?_; rintro e w2 ⟨rfl, rfl⟩)
        go_roundw
        case rel =>
          refine ⟨_, 1, rfl, rfl, by omega, hO, ?_⟩
          show _ = _
          rw [append_list, HI.out, HN.out]
          simp
        case measure => simp [intOf]; omega
      · have hi1 : (0 : Int) < i := by omega
        have hi2 : 0 < i := by omega
        go_wp2_with (go_at_call 23; refine (HC.out _).mono ?_; rintro e w2 ⟨rfl, rfl⟩)
        go_roundw
        case rel =>
          refine ⟨_, i + 1, rfl, by go_num, by omega, hO, ?_⟩
          show _ = _
          rw [HN.out, if_neg hi0]
          simp [append_list, HI.out]
        case measure => simp [intOf]; omega
    · obtain rfl : i = S.size := by omega
      have hI := HI.out
      rw [← HL.out.2, List.take_length] at hI
      have C := H22.out D hDs hI
      have HC := Lib.hid C
      clear C hI H22 H23 HT HI HL
      go_wp2_with (go_at_call 22; refine (HC.out _).mono ?_; rintro e w2 ⟨rfl, hO2⟩)
      go_ret2
      exact ⟨rfl, (((Only.refl _ _).alloc _).trans hO).trans hO2⟩

set_option maxRecDepth 100000 in
set_option maxHeartbeats 4000000 in
theorem Bytes_a_o1 (wid : Int) (prec : Int) (S : ByteArray) (hasWid minus plus zero up : Bool) (w : World) :
    Calls Tryz.prog 42 #[(⟨wid, prec, hasWid, false, minus, plus, true, true, zero⟩ : SF).val, .string S, .bool up] w fun e w' => e = .returned (.tuple #[.string ⟨#[]⟩, .int .i64 0]) ∧ Only none w w' := by
  unfold SF.val
  go_enter Tryz.func42, Tryz.ntmps42
  go_wp2
  go_ret2
  exact ⟨rfl, (Only.refl _ _).alloc _⟩

set_option maxRecDepth 100000 in
set_option maxHeartbeats 4000000 in
theorem Bytes_a_o2 (wid : Int) (prec : Int) (S : ByteArray) (hasWid minus plus zero up : Bool) (hne : S.size = 0) (w : World) :
    Calls Tryz.prog 42 #[(⟨wid, prec, hasWid, false, minus, plus, true, false, zero⟩ : SF).val, .string S, .bool up] w fun e w' => e = .returned (.tuple #[.string ⟨#[]⟩, .int .i64 0]) ∧ Only none w w' := by
  unfold SF.val
  have hne1 : S.toList.isEmpty = true := by
    rw [Lib.toList_data]
    cases h : S.data.toList with
    | nil => rfl
    | cons _ _ => rw [size_list, h] at hne; exact absurd hne (by simp)
  go_enter Tryz.func42, Tryz.ntmps42
  go_wp2
  go_ret2
  exact ⟨rfl, (Only.refl _ _).alloc _⟩

set_option maxRecDepth 100000 in
set_option maxHeartbeats 4000000 in
theorem Bytes_b_o1 (wid : Int) (prec : Int) (S : ByteArray) (hge : (S.size : Int) ≤ prec) (hasWid minus plus zero up : Bool) (w : World) :
    Calls Tryz.prog 42 #[(⟨wid, prec, hasWid, true, minus, plus, true, true, zero⟩ : SF).val, .string S, .bool up] w fun e w' => e = .returned (.tuple #[.string ⟨#[]⟩, .int .i64 0]) ∧ Only none w w' := by
  unfold SF.val
  go_enter Tryz.func42, Tryz.ntmps42
  go_wp2
  go_ret2
  exact ⟨rfl, (Only.refl _ _).alloc _⟩

set_option maxRecDepth 100000 in
set_option maxHeartbeats 4000000 in
theorem Bytes_b_o2 (wid : Int) (prec : Int) (S : ByteArray) (hge : (S.size : Int) ≤ prec) (hasWid minus plus zero up : Bool) (hne : S.size = 0) (w : World) :
    Calls Tryz.prog 42 #[(⟨wid, prec, hasWid, true, minus, plus, true, false, zero⟩ : SF).val, .string S, .bool up] w fun e w' => e = .returned (.tuple #[.string ⟨#[]⟩, .int .i64 0]) ∧ Only none w w' := by
  unfold SF.val
  have hne1 : S.toList.isEmpty = true := by
    rw [Lib.toList_data]
    cases h : S.data.toList with
    | nil => rfl
    | cons _ _ => rw [size_list, h] at hne; exact absurd hne (by simp)
  go_enter Tryz.func42, Tryz.ntmps42
  go_wp2
  go_ret2
  exact ⟨rfl, (Only.refl _ _).alloc _⟩

set_option maxRecDepth 100000 in
set_option maxHeartbeats 4000000 in
theorem Bytes_c_o1 (wid : Int) (p : Nat) (t S : ByteArray) (hlt : (p : Int) < t.size) (hS2 : t.extract 0 p = S) (hasWid minus plus zero up : Bool) (w : World) :
    Calls Tryz.prog 42 #[(⟨wid, (p : Int), hasWid, true, minus, plus, true, true, zero⟩ : SF).val, .string t, .bool up] w fun e w' => e = .returned (.tuple #[.string ⟨#[]⟩, .int .i64 0]) ∧ Only none w w' := by
  unfold SF.val
  have HS2 := Lib.hid hS2
  clear hS2
  go_enter Tryz.func42, Tryz.ntmps42
  go_upto_region 3 with fail
  rw [HS2.out]
  clear HS2 hlt
  go_wp2
  go_ret2
  exact ⟨rfl, (Only.refl _ _).alloc _⟩

set_option maxRecDepth 100000 in
set_option maxHeartbeats 4000000 in
theorem Bytes_c_o2 (wid : Int) (p : Nat) (t S : ByteArray) (hlt : (p : Int) < t.size) (hS2 : t.extract 0 p = S) (hasWid minus plus zero up : Bool) (hne : S.size = 0) (w : World) :
    Calls Tryz.prog 42 #[(⟨wid, (p : Int), hasWid, true, minus, plus, true, false, zero⟩ : SF).val, .string t, .bool up] w fun e w' => e = .returned (.tuple #[.string ⟨#[]⟩, .int .i64 0]) ∧ Only none w w' := by
  unfold SF.val
  have hne1 : S.toList.isEmpty = true := by
    rw [Lib.toList_data]
    cases h : S.data.toList with
    | nil => rfl
    | cons _ _ => rw [size_list, h] at hne; exact absurd hne (by simp)
  have HS2 := Lib.hid hS2
  clear hS2
  go_enter Tryz.func42, Tryz.ntmps42
  go_upto_region 3 with fail
  rw [HS2.out]
  clear HS2 hlt
  go_wp2
  go_ret2
  exact ⟨rfl, (Only.refl _ _).alloc _⟩

theorem ext_take (t : ByteArray) (p : Nat) : (t.extract 0 p).data.toList = t.data.toList.take p := by simp
theorem prec_ways (hasPrec : Bool) (prec : Int) (n : Nat) (hp : hasPrec = true → 0 ≤ prec ∧ prec ≤ 1000000) : hasPrec = false ∨ (hasPrec = true ∧ (n : Int) ≤ prec) ∨ (hasPrec = true ∧ ∃ p : Nat, prec = p ∧ (p : Int) < n) := by
  cases h : hasPrec
  · exact .inl rfl
  · obtain ⟨p, hp1⟩ := Int.eq_ofNat_of_zero_le (hp h).1
    by_cases hlt : prec < n
    · exact .inr (.inr ⟨rfl, p, hp1, by omega⟩)
    · exact .inr (.inl ⟨rfl, by omega⟩)
theorem Bytes_yes (f : SF) (t : ByteArray) (up : Bool) (y : Bytes) (hy : specHex f up t.data.toList = some y) (ht : t.size ≤ 4096) (hw0 : 0 ≤ f.wid) (hw1 : f.wid ≤ 1000000) (hp : f.hasPrec = true → 0 ≤ f.prec ∧ f.prec ≤ 1000000) (w : World) :
    Calls Tryz.prog 42 #[f.val, .string t, .bool up] w fun e w' => e = .returned (.tuple #[.string ⟨y.toArray⟩, .int .i64 1]) ∧ Only none w w' := by
  obtain ⟨wid, prec, hasWid, hasPrec, minus, plus, sharp, space, zero⟩ := f
  simp only at hw0 hw1 hp
  unfold specHex at hy
  simp only at hy
  split at hy
  · cases hy
  rename_i hn
  rcases prec_ways hasPrec prec t.size hp with rfl | ⟨rfl, hge⟩ | ⟨rfl, p, rfl, hlt⟩
  · have e : ∀ s1 s2, specN ⟨wid, prec, hasWid, false, minus, plus, s1, s2, zero⟩ t.data.toList.length = t.data.toList.length := fun _ _ => if_neg (fun h => by cases h.1)
    rw [e, List.take_length] at hy hn
    cases sharp
    · cases space
      · cases hy; exact Bytes_a_n wid prec t hasWid minus plus zero up ht hw0 hw1 w
      · cases hy; exact Bytes_a_s wid prec t hasWid minus plus zero up ht hw0 hw1 w
    · cases space
      · have hne : 0 < (t).size := Nat.pos_of_ne_zero (fun h0 => hn ⟨rfl, .inr (List.eq_nil_of_length_eq_zero (by rw [← size_list]; exact h0))⟩)
        cases up
        · cases hy; exact Bytes_a_x0 wid prec t hasWid minus plus zero hne ht hw0 hw1 w
        · cases hy; exact Bytes_a_X wid prec t hasWid minus plus zero hne ht hw0 hw1 w
      · exact absurd ⟨rfl, .inl rfl⟩ hn
  · have e : ∀ s1 s2, specN ⟨wid, prec, hasWid, true, minus, plus, s1, s2, zero⟩ t.data.toList.length = t.data.toList.length := fun _ _ => if_neg (fun h => by have := h.2; rw [← size_list] at this; simp only at this; omega)
    rw [e, List.take_length] at hy hn
    cases sharp
    · cases space
      · cases hy; exact Bytes_b_n wid prec t hge hasWid minus plus zero up ht hw0 hw1 w
      · cases hy; exact Bytes_b_s wid prec t hge hasWid minus plus zero up ht hw0 hw1 w
    · cases space
      · have hne : 0 < (t).size := Nat.pos_of_ne_zero (fun h0 => hn ⟨rfl, .inr (List.eq_nil_of_length_eq_zero (by rw [← size_list]; exact h0))⟩)
        cases up
        · cases hy; exact Bytes_b_x0 wid prec t hge hasWid minus plus zero hne ht hw0 hw1 w
        · cases hy; exact Bytes_b_X wid prec t hge hasWid minus plus zero hne ht hw0 hw1 w
      · exact absurd ⟨rfl, .inl rfl⟩ hn
  · have e : ∀ s1 s2, specN ⟨wid, p, hasWid, true, minus, plus, s1, s2, zero⟩ t.data.toList.length = p := fun _ _ => (if_pos ⟨rfl, by rw [← size_list]; exact hlt⟩).trans (Int.toNat_natCast p)
    rw [e, ← ext_take] at hy hn
    have hs : (t.extract 0 p).size ≤ 4096 := by rw [ByteArray.size_extract]; omega
    cases sharp
    · cases space
      · cases hy; exact Bytes_c_n wid p t (t.extract 0 p) hlt rfl hasWid minus plus zero up hs hw0 hw1 w
      · cases hy; exact Bytes_c_s wid p t (t.extract 0 p) hlt rfl hasWid minus plus zero up hs hw0 hw1 w
    · cases space
      · have hne : 0 < ((t.extract 0 p)).size := Nat.pos_of_ne_zero (fun h0 => hn ⟨rfl, .inr (List.eq_nil_of_length_eq_zero (by rw [← size_list]; exact h0))⟩)
        cases up
        · cases hy; exact Bytes_c_x0 wid p t (t.extract 0 p) hlt rfl hasWid minus plus zero hne hs hw0 hw1 w
        · cases hy; exact Bytes_c_X wid p t (t.extract 0 p) hlt rfl hasWid minus plus zero hne hs hw0 hw1 w
      · exact absurd ⟨rfl, .inl rfl⟩ hn
theorem Bytes_no (f : SF) (t : ByteArray) (up : Bool) (hy : specHex f up t.data.toList = none) (hp : f.hasPrec = true → 0 ≤ f.prec ∧ f.prec ≤ 1000000) (w : World) :
    Calls Tryz.prog 42 #[f.val, .string t, .bool up] w fun e w' => e = .returned (.tuple #[.string ⟨#[]⟩, .int .i64 0]) ∧ Only none w w' := by
  obtain ⟨wid, prec, hasWid, hasPrec, minus, plus, sharp, space, zero⟩ := f
  simp only at hp
  unfold specHex at hy
  simp only at hy
  split at hy
  case isFalse => cases hy
  rename_i hn
  obtain ⟨rfl, hn⟩ := hn
  rcases prec_ways hasPrec prec t.size hp with rfl | ⟨rfl, hge⟩ | ⟨rfl, p, rfl, hlt⟩
  · have e : ∀ s1 s2, specN ⟨wid, prec, hasWid, false, minus, plus, s1, s2, zero⟩ t.data.toList.length = t.data.toList.length := fun _ _ => if_neg (fun h => by cases h.1)
    rw [e, List.take_length] at hn
    cases space
    · have hne : (t).size = 0 := by
        rcases hn with hn | hn
        · cases hn
        · rw [size_list, hn]; rfl
      exact Bytes_a_o2 wid prec t hasWid minus plus zero up hne w
    · exact Bytes_a_o1 wid prec t hasWid minus plus zero up w
  · have e : ∀ s1 s2, specN ⟨wid, prec, hasWid, true, minus, plus, s1, s2, zero⟩ t.data.toList.length = t.data.toList.length := fun _ _ => if_neg (fun h => by have := h.2; rw [← size_list] at this; simp only at this; omega)
    rw [e, List.take_length] at hn
    cases space
    · have hne : (t).size = 0 := by
        rcases hn with hn | hn
        · cases hn
        · rw [size_list, hn]; rfl
      exact Bytes_b_o2 wid prec t hge hasWid minus plus zero up hne w
    · exact Bytes_b_o1 wid prec t hge hasWid minus plus zero up w
  · have e : ∀ s1 s2, specN ⟨wid, p, hasWid, true, minus, plus, s1, s2, zero⟩ t.data.toList.length = p := fun _ _ => (if_pos ⟨rfl, by rw [← size_list]; exact hlt⟩).trans (Int.toNat_natCast p)
    rw [e, ← ext_take] at hn
    cases space
    · have hne : ((t.extract 0 p)).size = 0 := by
        rcases hn with hn | hn
        · cases hn
        · rw [size_list, hn]; rfl
      exact Bytes_c_o2 wid p t (t.extract 0 p) hlt rfl hasWid minus plus zero up hne w
    · exact Bytes_c_o1 wid p t (t.extract 0 p) hlt rfl hasWid minus plus zero up w

end Go.Proofs.YtcbliojofnigdaaGreatDoor
