/- The reference's small helpers: digits. -/
import Derived.Test.YtcbliojofnigdaaGreatDoorSpecLaw
import Derived.Test.YtcbliojofnigdaaGreatDoorLawTexts
namespace Go.Proofs.YtcbliojofnigdaaGreatDoor
open Go Go.Proofs Go.RowKit

theorem dig_low : ∀ d : Fin 16, ((⟨#[48, 49, 50, 51, 52, 53, 54, 55, 56, 57, 97, 98, 99, 100, 101, 102]⟩ : ByteArray).extract d.val (d.val + 1)).data.toList = [digC false d.val] := by decide +kernel
theorem dig_up : ∀ d : Fin 16, ((⟨#[48, 49, 50, 51, 52, 53, 54, 55, 56, 57, 65, 66, 67, 68, 69, 70]⟩ : ByteArray).extract d.val (d.val + 1)).data.toList = [digC true d.val] := by decide +kernel
theorem str_of {S : ByteArray} {T : Bytes} (h : S.data.toList = T) : (⟨T.toArray⟩ : ByteArray) = S := by subst h; exact str_eta S

set_option maxRecDepth 100000 in
set_option maxHeartbeats 2000000 in
theorem Digits_10 (n : Nat) (hn : n < 18446744073709551616) (w : World) : Calls Tryz.prog 23 #[.int .u64 n, .int .i64 10, .bool false] w fun e w' => e = .returned (.string ⟨(digits 10 false 64 n).toArray⟩) ∧ w = w' := by
  obtain ⟨T, hT⟩ : ∃ T, T = digits 10 false 64 n := ⟨_, rfl⟩
  rw [← hT]
  have HT := Lib.hid hT
  clear hT
  go_enter Tryz.func23, Tryz.ntmps23
  go_wp2
  go_loop [0, 8, 9] (fun a b _ => ∃ (m f : Nat) (s : ByteArray), a = .int .u64 m ∧ b = .string s ∧ m < 10 ^ (f + 1) ∧ s.size + f ≤ 63 ∧ m < 18446744073709551616 ∧ Hid (T = digits 10 false (f + 1) m ++ s.data.toList)) (fun a _ _ => (intOf a).toNat)
  case atStart => exact ⟨n, 63, ⟨#[]⟩, rfl, rfl, Nat.lt_of_lt_of_le hn (by decide), by decide, hn, by show _ = _; rw [HT.out]; simp⟩
  case round =>
    obtain ⟨m, f, s, rfl, rfl, hm, hs, hm2, H⟩ := hrel
    obtain ⟨d, hd0⟩ : ∃ d, d = m % 10 := ⟨_, rfl⟩
    obtain ⟨q, hq0⟩ : ∃ q, q = m / 10 := ⟨_, rfl⟩
    have hd : (m : Int) % 10 = (d : Int) := by omega
    have hq : (m : Int) / 10 = (q : Int) := by omega
    have hd9 : d < 10 := by omega
    have hqm : q ≤ m := by omega
    have hm3 : (m : Int) ≤ 18446744073709551615 := by omega
    have hs2 : ¬ 9223372036854775807 < min (d + 1) 16 - d + s.size := by omega
    have hlow := dig_low ⟨d, by omega⟩
    simp only at hlow
    have HL := Lib.hid hlow
    have hqp : q < 10 ^ f := by
      rw [hq0]
      rw [Nat.pow_succ] at hm
      exact Nat.div_lt_of_lt_mul (by rw [Nat.mul_comm]; exact hm)
    have HQ := Lib.hid hqp
    have HD := Lib.hid (And.intro hd0 hq0)
    clear hd0 hq0 hlow hqp hm
    by_cases h0 : q = 0
    · subst h0
      go_wp2
      go_ret
      have e := str_of (S := (⟨#[48, 49, 50, 51, 52, 53, 54, 55, 56, 57, 97, 98, 99, 100, 101, 102]⟩ : ByteArray).extract d (d + 1) ++ s) (T := T) (by rw [append_list, HL.out, H.out, digits, if_pos HD.out.2.symm, ← HD.out.1]; rfl)
      rw [e]
      exact ⟨rfl, rfl⟩
    · have hq1 : (1 : Int) ≤ q := by omega
      have hqm2 : q < m := by have := HD.out.2; omega
      have hf : 1 ≤ f := by
        have := HQ.out
        cases f with
        | zero => simp at this; omega
        | succ f => omega
      go_wp2
      go_round
      case rel =>
        refine ⟨q, f - 1, _, rfl, rfl, by rw [show f - 1 + 1 = f by omega]; exact HQ.out, ?_, by omega, ?_⟩
        · rw [ByteArray.size_append, size_list (ByteArray.extract _ _ _), HL.out]
          simp only [List.length_singleton]; omega
        · show _ = _
          rw [append_list, HL.out, H.out, digits, if_neg (by rw [← HD.out.2]; exact h0), ← HD.out.1, ← HD.out.2, show f - 1 + 1 = f by omega, List.append_assoc]
      case measure => simp [intOf]; omega

set_option maxRecDepth 100000 in
set_option maxHeartbeats 2000000 in
theorem Digits_2 (n : Nat) (hn : n < 18446744073709551616) (w : World) : Calls Tryz.prog 23 #[.int .u64 n, .int .i64 2, .bool false] w fun e w' => e = .returned (.string ⟨(digits 2 false 64 n).toArray⟩) ∧ w = w' := by
  obtain ⟨T, hT⟩ : ∃ T, T = digits 2 false 64 n := ⟨_, rfl⟩
  rw [← hT]
  have HT := Lib.hid hT
  clear hT
  go_enter Tryz.func23, Tryz.ntmps23
  go_wp2
  go_loop [0, 8, 9] (fun a b _ => ∃ (m f : Nat) (s : ByteArray), a = .int .u64 m ∧ b = .string s ∧ m < 2 ^ (f + 1) ∧ s.size + f ≤ 63 ∧ m < 18446744073709551616 ∧ Hid (T = digits 2 false (f + 1) m ++ s.data.toList)) (fun a _ _ => (intOf a).toNat)
  case atStart => exact ⟨n, 63, ⟨#[]⟩, rfl, rfl, Nat.lt_of_lt_of_le hn (by decide), by decide, hn, by show _ = _; rw [HT.out]; simp⟩
  case round =>
    obtain ⟨m, f, s, rfl, rfl, hm, hs, hm2, H⟩ := hrel
    obtain ⟨d, hd0⟩ : ∃ d, d = m % 2 := ⟨_, rfl⟩
    obtain ⟨q, hq0⟩ : ∃ q, q = m / 2 := ⟨_, rfl⟩
    have hd : (m : Int) % 2 = (d : Int) := by omega
    have hq : (m : Int) / 2 = (q : Int) := by omega
    have hd9 : d < 2 := by omega
    have hqm : q ≤ m := by omega
    have hm3 : (m : Int) ≤ 18446744073709551615 := by omega
    have hs2 : ¬ 9223372036854775807 < min (d + 1) 16 - d + s.size := by omega
    have hlow := dig_low ⟨d, by omega⟩
    simp only at hlow
    have HL := Lib.hid hlow
    have hqp : q < 2 ^ f := by
      rw [hq0]
      rw [Nat.pow_succ] at hm
      exact Nat.div_lt_of_lt_mul (by rw [Nat.mul_comm]; exact hm)
    have HQ := Lib.hid hqp
    have HD := Lib.hid (And.intro hd0 hq0)
    clear hd0 hq0 hlow hqp hm
    by_cases h0 : q = 0
    · subst h0
      go_wp2
      go_ret
      have e := str_of (S := (⟨#[48, 49, 50, 51, 52, 53, 54, 55, 56, 57, 97, 98, 99, 100, 101, 102]⟩ : ByteArray).extract d (d + 1) ++ s) (T := T) (by rw [append_list, HL.out, H.out, digits, if_pos HD.out.2.symm, ← HD.out.1]; rfl)
      rw [e]
      exact ⟨rfl, rfl⟩
    · have hq1 : (1 : Int) ≤ q := by omega
      have hqm2 : q < m := by have := HD.out.2; omega
      have hf : 1 ≤ f := by
        have := HQ.out
        cases f with
        | zero => simp at this; omega
        | succ f => omega
      go_wp2
      go_round
      case rel =>
        refine ⟨q, f - 1, _, rfl, rfl, by rw [show f - 1 + 1 = f by omega]; exact HQ.out, ?_, by omega, ?_⟩
        · rw [ByteArray.size_append, size_list (ByteArray.extract _ _ _), HL.out]
          simp only [List.length_singleton]; omega
        · show _ = _
          rw [append_list, HL.out, H.out, digits, if_neg (by rw [← HD.out.2]; exact h0), ← HD.out.1, ← HD.out.2, show f - 1 + 1 = f by omega, List.append_assoc]
      case measure => simp [intOf]; omega

set_option maxRecDepth 100000 in
set_option maxHeartbeats 2000000 in
theorem Digits_8 (n : Nat) (hn : n < 18446744073709551616) (w : World) : Calls Tryz.prog 23 #[.int .u64 n, .int .i64 8, .bool false] w fun e w' => e = .returned (.string ⟨(digits 8 false 64 n).toArray⟩) ∧ w = w' := by
  obtain ⟨T, hT⟩ : ∃ T, T = digits 8 false 64 n := ⟨_, rfl⟩
  rw [← hT]
  have HT := Lib.hid hT
  clear hT
  go_enter Tryz.func23, Tryz.ntmps23
  go_wp2
  go_loop [0, 8, 9] (fun a b _ => ∃ (m f : Nat) (s : ByteArray), a = .int .u64 m ∧ b = .string s ∧ m < 8 ^ (f + 1) ∧ s.size + f ≤ 63 ∧ m < 18446744073709551616 ∧ Hid (T = digits 8 false (f + 1) m ++ s.data.toList)) (fun a _ _ => (intOf a).toNat)
  case atStart => exact ⟨n, 63, ⟨#[]⟩, rfl, rfl, Nat.lt_of_lt_of_le hn (by decide), by decide, hn, by show _ = _; rw [HT.out]; simp⟩
  case round =>
    obtain ⟨m, f, s, rfl, rfl, hm, hs, hm2, H⟩ := hrel
    obtain ⟨d, hd0⟩ : ∃ d, d = m % 8 := ⟨_, rfl⟩
    obtain ⟨q, hq0⟩ : ∃ q, q = m / 8 := ⟨_, rfl⟩
    have hd : (m : Int) % 8 = (d : Int) := by omega
    have hq : (m : Int) / 8 = (q : Int) := by omega
    have hd9 : d < 8 := by omega
    have hqm : q ≤ m := by omega
    have hm3 : (m : Int) ≤ 18446744073709551615 := by omega
    have hs2 : ¬ 9223372036854775807 < min (d + 1) 16 - d + s.size := by omega
    have hlow := dig_low ⟨d, by omega⟩
    simp only at hlow
    have HL := Lib.hid hlow
    have hqp : q < 8 ^ f := by
      rw [hq0]
      rw [Nat.pow_succ] at hm
      exact Nat.div_lt_of_lt_mul (by rw [Nat.mul_comm]; exact hm)
    have HQ := Lib.hid hqp
    have HD := Lib.hid (And.intro hd0 hq0)
    clear hd0 hq0 hlow hqp hm
    by_cases h0 : q = 0
    · subst h0
      go_wp2
      go_ret
      have e := str_of (S := (⟨#[48, 49, 50, 51, 52, 53, 54, 55, 56, 57, 97, 98, 99, 100, 101, 102]⟩ : ByteArray).extract d (d + 1) ++ s) (T := T) (by rw [append_list, HL.out, H.out, digits, if_pos HD.out.2.symm, ← HD.out.1]; rfl)
      rw [e]
      exact ⟨rfl, rfl⟩
    · have hq1 : (1 : Int) ≤ q := by omega
      have hqm2 : q < m := by have := HD.out.2; omega
      have hf : 1 ≤ f := by
        have := HQ.out
        cases f with
        | zero => simp at this; omega
        | succ f => omega
      go_wp2
      go_round
      case rel =>
        refine ⟨q, f - 1, _, rfl, rfl, by rw [show f - 1 + 1 = f by omega]; exact HQ.out, ?_, by omega, ?_⟩
        · rw [ByteArray.size_append, size_list (ByteArray.extract _ _ _), HL.out]
          simp only [List.length_singleton]; omega
        · show _ = _
          rw [append_list, HL.out, H.out, digits, if_neg (by rw [← HD.out.2]; exact h0), ← HD.out.1, ← HD.out.2, show f - 1 + 1 = f by omega, List.append_assoc]
      case measure => simp [intOf]; omega

set_option maxRecDepth 100000 in
set_option maxHeartbeats 2000000 in
theorem Digits_16 (n : Nat) (hn : n < 18446744073709551616) (w : World) : Calls Tryz.prog 23 #[.int .u64 n, .int .i64 16, .bool false] w fun e w' => e = .returned (.string ⟨(digits 16 false 64 n).toArray⟩) ∧ w = w' := by
  obtain ⟨T, hT⟩ : ∃ T, T = digits 16 false 64 n := ⟨_, rfl⟩
  rw [← hT]
  have HT := Lib.hid hT
  clear hT
  go_enter Tryz.func23, Tryz.ntmps23
  go_wp2
  go_loop [0, 8, 9] (fun a b _ => ∃ (m f : Nat) (s : ByteArray), a = .int .u64 m ∧ b = .string s ∧ m < 16 ^ (f + 1) ∧ s.size + f ≤ 63 ∧ m < 18446744073709551616 ∧ Hid (T = digits 16 false (f + 1) m ++ s.data.toList)) (fun a _ _ => (intOf a).toNat)
  case atStart => exact ⟨n, 63, ⟨#[]⟩, rfl, rfl, Nat.lt_of_lt_of_le hn (by decide), by decide, hn, by show _ = _; rw [HT.out]; simp⟩
  case round =>
    obtain ⟨m, f, s, rfl, rfl, hm, hs, hm2, H⟩ := hrel
    obtain ⟨d, hd0⟩ : ∃ d, d = m % 16 := ⟨_, rfl⟩
    obtain ⟨q, hq0⟩ : ∃ q, q = m / 16 := ⟨_, rfl⟩
    have hd : (m : Int) % 16 = (d : Int) := by omega
    have hq : (m : Int) / 16 = (q : Int) := by omega
    have hd9 : d < 16 := by omega
    have hqm : q ≤ m := by omega
    have hm3 : (m : Int) ≤ 18446744073709551615 := by omega
    have hs2 : ¬ 9223372036854775807 < min (d + 1) 16 - d + s.size := by omega
    have hlow := dig_low ⟨d, by omega⟩
    simp only at hlow
    have HL := Lib.hid hlow
    have hqp : q < 16 ^ f := by
      rw [hq0]
      rw [Nat.pow_succ] at hm
      exact Nat.div_lt_of_lt_mul (by rw [Nat.mul_comm]; exact hm)
    have HQ := Lib.hid hqp
    have HD := Lib.hid (And.intro hd0 hq0)
    clear hd0 hq0 hlow hqp hm
    by_cases h0 : q = 0
    · subst h0
      go_wp2
      go_ret
      have e := str_of (S := (⟨#[48, 49, 50, 51, 52, 53, 54, 55, 56, 57, 97, 98, 99, 100, 101, 102]⟩ : ByteArray).extract d (d + 1) ++ s) (T := T) (by rw [append_list, HL.out, H.out, digits, if_pos HD.out.2.symm, ← HD.out.1]; rfl)
      rw [e]
      exact ⟨rfl, rfl⟩
    · have hq1 : (1 : Int) ≤ q := by omega
      have hqm2 : q < m := by have := HD.out.2; omega
      have hf : 1 ≤ f := by
        have := HQ.out
        cases f with
        | zero => simp at this; omega
        | succ f => omega
      go_wp2
      go_round
      case rel =>
        refine ⟨q, f - 1, _, rfl, rfl, by rw [show f - 1 + 1 = f by omega]; exact HQ.out, ?_, by omega, ?_⟩
        · rw [ByteArray.size_append, size_list (ByteArray.extract _ _ _), HL.out]
          simp only [List.length_singleton]; omega
        · show _ = _
          rw [append_list, HL.out, H.out, digits, if_neg (by rw [← HD.out.2]; exact h0), ← HD.out.1, ← HD.out.2, show f - 1 + 1 = f by omega, List.append_assoc]
      case measure => simp [intOf]; omega

set_option maxRecDepth 100000 in
set_option maxHeartbeats 2000000 in
theorem Digits_16u (n : Nat) (hn : n < 18446744073709551616) (w : World) : Calls Tryz.prog 23 #[.int .u64 n, .int .i64 16, .bool true] w fun e w' => e = .returned (.string ⟨(digits 16 true 64 n).toArray⟩) ∧ w = w' := by
  obtain ⟨T, hT⟩ : ∃ T, T = digits 16 true 64 n := ⟨_, rfl⟩
  rw [← hT]
  have HT := Lib.hid hT
  clear hT
  go_enter Tryz.func23, Tryz.ntmps23
  go_wp2
  go_loop [0, 8, 9] (fun a b _ => ∃ (m f : Nat) (s : ByteArray), a = .int .u64 m ∧ b = .string s ∧ m < 16 ^ (f + 1) ∧ s.size + f ≤ 63 ∧ m < 18446744073709551616 ∧ Hid (T = digits 16 true (f + 1) m ++ s.data.toList)) (fun a _ _ => (intOf a).toNat)
  case atStart => exact ⟨n, 63, ⟨#[]⟩, rfl, rfl, Nat.lt_of_lt_of_le hn (by decide), by decide, hn, by show _ = _; rw [HT.out]; simp⟩
  case round =>
    obtain ⟨m, f, s, rfl, rfl, hm, hs, hm2, H⟩ := hrel
    obtain ⟨d, hd0⟩ : ∃ d, d = m % 16 := ⟨_, rfl⟩
    obtain ⟨q, hq0⟩ : ∃ q, q = m / 16 := ⟨_, rfl⟩
    have hd : (m : Int) % 16 = (d : Int) := by omega
    have hq : (m : Int) / 16 = (q : Int) := by omega
    have hd9 : d < 16 := by omega
    have hqm : q ≤ m := by omega
    have hm3 : (m : Int) ≤ 18446744073709551615 := by omega
    have hs2 : ¬ 9223372036854775807 < min (d + 1) 16 - d + s.size := by omega
    have hlow := dig_up ⟨d, by omega⟩
    simp only at hlow
    have HL := Lib.hid hlow
    have hqp : q < 16 ^ f := by
      rw [hq0]
      rw [Nat.pow_succ] at hm
      exact Nat.div_lt_of_lt_mul (by rw [Nat.mul_comm]; exact hm)
    have HQ := Lib.hid hqp
    have HD := Lib.hid (And.intro hd0 hq0)
    clear hd0 hq0 hlow hqp hm
    by_cases h0 : q = 0
    · subst h0
      go_wp2
      go_ret
      have e := str_of (S := (⟨#[48, 49, 50, 51, 52, 53, 54, 55, 56, 57, 65, 66, 67, 68, 69, 70]⟩ : ByteArray).extract d (d + 1) ++ s) (T := T) (by rw [append_list, HL.out, H.out, digits, if_pos HD.out.2.symm, ← HD.out.1]; rfl)
      rw [e]
      exact ⟨rfl, rfl⟩
    · have hq1 : (1 : Int) ≤ q := by omega
      have hqm2 : q < m := by have := HD.out.2; omega
      have hf : 1 ≤ f := by
        have := HQ.out
        cases f with
        | zero => simp at this; omega
        | succ f => omega
      go_wp2
      go_round
      case rel =>
        refine ⟨q, f - 1, _, rfl, rfl, by rw [show f - 1 + 1 = f by omega]; exact HQ.out, ?_, by omega, ?_⟩
        · rw [ByteArray.size_append, size_list (ByteArray.extract _ _ _), HL.out]
          simp only [List.length_singleton]; omega
        · show _ = _
          rw [append_list, HL.out, H.out, digits, if_neg (by rw [← HD.out.2]; exact h0), ← HD.out.1, ← HD.out.2, show f - 1 + 1 = f by omega, List.append_assoc]
      case measure => simp [intOf]; omega

end Go.Proofs.YtcbliojofnigdaaGreatDoor
