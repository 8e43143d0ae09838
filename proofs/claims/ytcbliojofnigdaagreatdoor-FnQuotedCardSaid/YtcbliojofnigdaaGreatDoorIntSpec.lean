/- The laws' and the reference's small helpers: zzFits2, below, Arg.Integer (printed by tools/gen_specint.py). Frames of some lengths, written out again (printed by tools/gen_opens.py). The reference's magnitude and Integer. -/
import Derived.Test.YtcbliojofnigdaaGreatDoorArg
import Derived.Test.YtcbliojofnigdaaGreatDoorIntM
import Derived.Test.YtcbliojofnigdaaGreatDoorFrame
import Derived.Deep.DeepCutAuto
set_option linter.unusedVariables false
set_option linter.unusedSimpArgs false
namespace Go.Proofs.YtcbliojofnigdaaGreatDoor
open Go Go.Proofs Go.RowKit

theorem and_u64I (k : Nat) (hk : k ≤ 64) (q : Int) (h0 : 0 ≤ q) (h : q ≤ 18446744073709551615) : bits .and .u64 q (2 ^ k - 1) = q % 2 ^ k :=
  bits_mask .u64 64 (by decide) (fun n h0 h1 => by rw [IntKind.wrap_u64]; omega) k hk _ h0 (by omega)
set_option maxRecDepth 100000 in
set_option maxHeartbeats 1000000 in
theorem zzFits2_yes (z : LA) (h : z.text.size ≤ 2147483647) (w : World) : Calls Tryz.prog 16 #[z.val] w fun e w' => e = .returned (.bool true) ∧ Only none w w' := by
  obtain ⟨kind, bits, text⟩ := z
  have h' : ¬ 2147483647 < (text.size : Int) := by simp only at h; omega
  unfold LA.val
  clear h
  go_enter Tryz.func16, Tryz.ntmps16
  go_wp2
  go_ret
  exact ⟨rfl, (Only.refl _ _).alloc _⟩

set_option maxRecDepth 100000 in
set_option maxHeartbeats 1000000 in
theorem zzFits2_no (z : LA) (h : 2147483647 < z.text.size) (w : World) : Calls Tryz.prog 16 #[z.val] w fun e w' => e = .returned (.bool false) ∧ Only none w w' := by
  obtain ⟨kind, bits, text⟩ := z
  have h' : 2147483647 < (text.size : Int) := by simp only at h; omega
  unfold LA.val
  clear h
  go_enter Tryz.func16, Tryz.ntmps16
  go_wp2
  go_ret
  exact ⟨rfl, (Only.refl _ _).alloc _⟩

theorem tmod_neg (x : Int) (n : Int) (hx : x < 0) : Int.tmod x n = -(Int.emod (-x) n) := by
  have h := Int.neg_tmod (-x) n
  rw [Int.neg_neg] at h
  rw [h, Int.tmod_eq_emod_of_nonneg (show 0 ≤ -x by omega)]
  rfl

set_option maxRecDepth 100000 in
set_option maxHeartbeats 1000000 in
theorem below_4 (x : Int) (w : World) : Calls Tryz.prog 17 #[.int .i64 x, .int .i64 4] w fun e w' => e = .returned (.int .i64 (x % 4)) ∧ w = w' := by
  by_cases hx : 0 ≤ x
  · have ht : Int.tmod x 4 = x % 4 := Int.tmod_eq_emod_of_nonneg hx
    have h2 : ¬ x % 4 < 0 := by omega
    go_enter Tryz.func17, Tryz.ntmps17
    go_wp2
    go_ret
    exact ⟨rfl, rfl⟩
  · have hx' : x < 0 := by omega
    have ht := tmod_neg x 4 hx'
    obtain ⟨y, hy⟩ : ∃ y, y = Int.emod (-x) 4 := ⟨_, rfl⟩
    rw [← hy] at ht
    have hy2 : y = (-x) % 4 := hy
    by_cases h0 : y = 0
    · subst h0
      have e : x % 4 = 0 := by omega
      rw [e]
      clear hy hy2 e
      go_enter Tryz.func17, Tryz.ntmps17
      go_wp2
      go_ret
      exact ⟨rfl, rfl⟩
    · have h1 : 0 < y ∧ y < 4 := by omega
      have e : x % 4 = -y + 4 := by omega
      rw [e]
      obtain ⟨h1, h2⟩ := h1
      clear hy hy2 e
      go_enter Tryz.func17, Tryz.ntmps17
      go_wp2
      go_ret
      exact ⟨rfl, rfl⟩

set_option maxRecDepth 100000 in
set_option maxHeartbeats 1000000 in
theorem below_7 (x : Int) (w : World) : Calls Tryz.prog 17 #[.int .i64 x, .int .i64 7] w fun e w' => e = .returned (.int .i64 (x % 7)) ∧ w = w' := by
  by_cases hx : 0 ≤ x
  · have ht : Int.tmod x 7 = x % 7 := Int.tmod_eq_emod_of_nonneg hx
    have h2 : ¬ x % 7 < 0 := by omega
    go_enter Tryz.func17, Tryz.ntmps17
    go_wp2
    go_ret
    exact ⟨rfl, rfl⟩
  · have hx' : x < 0 := by omega
    have ht := tmod_neg x 7 hx'
    obtain ⟨y, hy⟩ : ∃ y, y = Int.emod (-x) 7 := ⟨_, rfl⟩
    rw [← hy] at ht
    have hy2 : y = (-x) % 7 := hy
    by_cases h0 : y = 0
    · subst h0
      have e : x % 7 = 0 := by omega
      rw [e]
      clear hy hy2 e
      go_enter Tryz.func17, Tryz.ntmps17
      go_wp2
      go_ret
      exact ⟨rfl, rfl⟩
    · have h1 : 0 < y ∧ y < 7 := by omega
      have e : x % 7 = -y + 7 := by omega
      rw [e]
      obtain ⟨h1, h2⟩ := h1
      clear hy hy2 e
      go_enter Tryz.func17, Tryz.ntmps17
      go_wp2
      go_ret
      exact ⟨rfl, rfl⟩

set_option maxRecDepth 100000 in
set_option maxHeartbeats 1000000 in
theorem below_40 (x : Int) (w : World) : Calls Tryz.prog 17 #[.int .i64 x, .int .i64 40] w fun e w' => e = .returned (.int .i64 (x % 40)) ∧ w = w' := by
  by_cases hx : 0 ≤ x
  · have ht : Int.tmod x 40 = x % 40 := Int.tmod_eq_emod_of_nonneg hx
    have h2 : ¬ x % 40 < 0 := by omega
    go_enter Tryz.func17, Tryz.ntmps17
    go_wp2
    go_ret
    exact ⟨rfl, rfl⟩
  · have hx' : x < 0 := by omega
    have ht := tmod_neg x 40 hx'
    obtain ⟨y, hy⟩ : ∃ y, y = Int.emod (-x) 40 := ⟨_, rfl⟩
    rw [← hy] at ht
    have hy2 : y = (-x) % 40 := hy
    by_cases h0 : y = 0
    · subst h0
      have e : x % 40 = 0 := by omega
      rw [e]
      clear hy hy2 e
      go_enter Tryz.func17, Tryz.ntmps17
      go_wp2
      go_ret
      exact ⟨rfl, rfl⟩
    · have h1 : 0 < y ∧ y < 40 := by omega
      have e : x % 40 = -y + 40 := by omega
      rw [e]
      obtain ⟨h1, h2⟩ := h1
      clear hy hy2 e
      go_enter Tryz.func17, Tryz.ntmps17
      go_wp2
      go_ret
      exact ⟨rfl, rfl⟩

set_option maxRecDepth 100000 in
set_option maxHeartbeats 1000000 in
theorem Integer_2 (bits : Int) (h0 : 0 ≤ bits) (h1 : bits ≤ 18446744073709551615) (text : ByteArray) (w : World) : Calls Tryz.prog 18 #[(⟨2, bits, text⟩ : LA).val] w fun e w' => e = .returned (.tuple #[.int .u64 bits, .bool true, .bool true]) ∧ Only none w w' := by
  unfold LA.val
  clear h0 h1
  go_enter Tryz.func18, Tryz.ntmps18
  go_wp2
  go_ret3
  exact ⟨rfl, (Only.refl _ _).alloc _⟩

set_option maxRecDepth 100000 in
set_option maxHeartbeats 1000000 in
theorem Integer_3 (bits : Int) (h0 : 0 ≤ bits) (h1 : bits ≤ 18446744073709551615) (text : ByteArray) (w : World) : Calls Tryz.prog 18 #[(⟨3, bits, text⟩ : LA).val] w fun e w' => e = .returned (.tuple #[.int .u64 (IntKind.u64.wrap (wrap64 (IntKind.i8.wrap bits))), .bool true, .bool true]) ∧ Only none w w' := by
  unfold LA.val
  clear h0 h1
  go_enter Tryz.func18, Tryz.ntmps18
  go_wp2
  go_ret3
  exact ⟨rfl, (Only.refl _ _).alloc _⟩

set_option maxRecDepth 100000 in
set_option maxHeartbeats 1000000 in
theorem Integer_4 (bits : Int) (h0 : 0 ≤ bits) (h1 : bits ≤ 18446744073709551615) (text : ByteArray) (w : World) : Calls Tryz.prog 18 #[(⟨4, bits, text⟩ : LA).val] w fun e w' => e = .returned (.tuple #[.int .u64 (IntKind.u64.wrap (wrap64 (IntKind.i16.wrap bits))), .bool true, .bool true]) ∧ Only none w w' := by
  unfold LA.val
  clear h0 h1
  go_enter Tryz.func18, Tryz.ntmps18
  go_wp2
  go_ret3
  exact ⟨rfl, (Only.refl _ _).alloc _⟩

set_option maxRecDepth 100000 in
set_option maxHeartbeats 1000000 in
theorem Integer_5 (bits : Int) (h0 : 0 ≤ bits) (h1 : bits ≤ 18446744073709551615) (text : ByteArray) (w : World) : Calls Tryz.prog 18 #[(⟨5, bits, text⟩ : LA).val] w fun e w' => e = .returned (.tuple #[.int .u64 (IntKind.u64.wrap (wrap64 (wrap32 bits))), .bool true, .bool true]) ∧ Only none w w' := by
  unfold LA.val
  clear h0 h1
  go_enter Tryz.func18, Tryz.ntmps18
  go_wp2
  go_ret3
  exact ⟨rfl, (Only.refl _ _).alloc _⟩

set_option maxRecDepth 100000 in
set_option maxHeartbeats 1000000 in
theorem Integer_6 (bits : Int) (h0 : 0 ≤ bits) (h1 : bits ≤ 18446744073709551615) (text : ByteArray) (w : World) : Calls Tryz.prog 18 #[(⟨6, bits, text⟩ : LA).val] w fun e w' => e = .returned (.tuple #[.int .u64 bits, .bool true, .bool true]) ∧ Only none w w' := by
  unfold LA.val
  clear h0 h1
  go_enter Tryz.func18, Tryz.ntmps18
  go_wp2
  go_ret3
  exact ⟨rfl, (Only.refl _ _).alloc _⟩

set_option maxRecDepth 100000 in
set_option maxHeartbeats 1000000 in
theorem Integer_7 (bits : Int) (h0 : 0 ≤ bits) (h1 : bits ≤ 18446744073709551615) (text : ByteArray) (w : World) : Calls Tryz.prog 18 #[(⟨7, bits, text⟩ : LA).val] w fun e w' => e = .returned (.tuple #[.int .u64 bits, .bool false, .bool true]) ∧ Only none w w' := by
  unfold LA.val
  clear h0 h1
  go_enter Tryz.func18, Tryz.ntmps18
  go_wp2
  go_ret3
  exact ⟨rfl, (Only.refl _ _).alloc _⟩

set_option maxRecDepth 100000 in
set_option maxHeartbeats 1000000 in
theorem Integer_8 (bits : Int) (h0 : 0 ≤ bits) (h1 : bits ≤ 18446744073709551615) (text : ByteArray) (w : World) : Calls Tryz.prog 18 #[(⟨8, bits, text⟩ : LA).val] w fun e w' => e = .returned (.tuple #[.int .u64 (bits % 256), .bool false, .bool true]) ∧ Only none w w' := by
  have hand : Go.bits .and .u64 bits 255 = bits % 256 := and_u64I 8 (by decide) bits h0 h1
  unfold LA.val
  clear h0 h1
  go_enter Tryz.func18, Tryz.ntmps18
  go_wp2
  go_ret3
  exact ⟨rfl, (Only.refl _ _).alloc _⟩

set_option maxRecDepth 100000 in
set_option maxHeartbeats 1000000 in
theorem Integer_9 (bits : Int) (h0 : 0 ≤ bits) (h1 : bits ≤ 18446744073709551615) (text : ByteArray) (w : World) : Calls Tryz.prog 18 #[(⟨9, bits, text⟩ : LA).val] w fun e w' => e = .returned (.tuple #[.int .u64 (bits % 65536), .bool false, .bool true]) ∧ Only none w w' := by
  have hand : Go.bits .and .u64 bits 65535 = bits % 65536 := and_u64I 16 (by decide) bits h0 h1
  unfold LA.val
  clear h0 h1
  go_enter Tryz.func18, Tryz.ntmps18
  go_wp2
  go_ret3
  exact ⟨rfl, (Only.refl _ _).alloc _⟩

set_option maxRecDepth 100000 in
set_option maxHeartbeats 1000000 in
theorem Integer_10 (bits : Int) (h0 : 0 ≤ bits) (h1 : bits ≤ 18446744073709551615) (text : ByteArray) (w : World) : Calls Tryz.prog 18 #[(⟨10, bits, text⟩ : LA).val] w fun e w' => e = .returned (.tuple #[.int .u64 (bits % 4294967296), .bool false, .bool true]) ∧ Only none w w' := by
  have hand : Go.bits .and .u64 bits 4294967295 = bits % 4294967296 := and_u64I 32 (by decide) bits h0 h1
  unfold LA.val
  clear h0 h1
  go_enter Tryz.func18, Tryz.ntmps18
  go_wp2
  go_ret3
  exact ⟨rfl, (Only.refl _ _).alloc _⟩

set_option maxRecDepth 100000 in
set_option maxHeartbeats 1000000 in
theorem Integer_11 (bits : Int) (h0 : 0 ≤ bits) (h1 : bits ≤ 18446744073709551615) (text : ByteArray) (w : World) : Calls Tryz.prog 18 #[(⟨11, bits, text⟩ : LA).val] w fun e w' => e = .returned (.tuple #[.int .u64 bits, .bool false, .bool true]) ∧ Only none w w' := by
  unfold LA.val
  clear h0 h1
  go_enter Tryz.func18, Tryz.ntmps18
  go_wp2
  go_ret3
  exact ⟨rfl, (Only.refl _ _).alloc _⟩

set_option maxRecDepth 100000 in
set_option maxHeartbeats 1000000 in
theorem Integer_12 (bits : Int) (h0 : 0 ≤ bits) (h1 : bits ≤ 18446744073709551615) (text : ByteArray) (w : World) : Calls Tryz.prog 18 #[(⟨12, bits, text⟩ : LA).val] w fun e w' => e = .returned (.tuple #[.int .u64 bits, .bool false, .bool true]) ∧ Only none w w' := by
  unfold LA.val
  clear h0 h1
  go_enter Tryz.func18, Tryz.ntmps18
  go_wp2
  go_ret3
  exact ⟨rfl, (Only.refl _ _).alloc _⟩

set_option maxRecDepth 100000 in
set_option maxHeartbeats 1000000 in
theorem Integer_no (z : LA) (h : z.kind < 2 ∨ 12 < z.kind) (w : World) : Calls Tryz.prog 18 #[z.val] w fun e w' => e = .returned (.tuple #[.int .u64 0, .bool false, .bool false]) ∧ Only none w w' := by
  obtain ⟨kind, bits, text⟩ := z
  simp only at h
  have h2 : ¬ kind = 2 := by omega
  have h3 : ¬ kind = 3 := by omega
  have h4 : ¬ kind = 4 := by omega
  have h5 : ¬ kind = 5 := by omega
  have h6 : ¬ kind = 6 := by omega
  have h7 : ¬ kind = 7 := by omega
  have h8 : ¬ kind = 8 := by omega
  have h9 : ¬ kind = 9 := by omega
  have h10 : ¬ kind = 10 := by omega
  have h11 : ¬ kind = 11 := by omega
  have h12 : ¬ kind = 12 := by omega
  unfold LA.val
  clear h
  go_enter Tryz.func18, Tryz.ntmps18
  go_wp2
  go_ret3
  exact ⟨rfl, (Only.refl _ _).alloc _⟩

set_option maxRecDepth 100000 in
theorem spread78 (u : Nat → Value) : (List.range 78).map u = [u 0, u 1, u 2, u 3, u 4, u 5, u 6, u 7, u 8, u 9, u 10, u 11, u 12, u 13, u 14, u 15, u 16, u 17, u 18, u 19, u 20, u 21, u 22, u 23, u 24, u 25, u 26, u 27, u 28, u 29, u 30, u 31, u 32, u 33, u 34, u 35, u 36, u 37, u 38, u 39, u 40, u 41, u 42, u 43, u 44, u 45, u 46, u 47, u 48, u 49, u 50, u 51, u 52, u 53, u 54, u 55, u 56, u 57, u 58, u 59, u 60, u 61, u 62, u 63, u 64, u 65, u 66, u 67, u 68, u 69, u 70, u 71, u 72, u 73, u 74, u 75, u 76, u 77] := rfl
theorem open78 {L : List Value} (h : L.length = 78) : ∃ u : Nat → Value, L = [u 0, u 1, u 2, u 3, u 4, u 5, u 6, u 7, u 8, u 9, u 10, u 11, u 12, u 13, u 14, u 15, u 16, u 17, u 18, u 19, u 20, u 21, u 22, u 23, u 24, u 25, u 26, u 27, u 28, u 29, u 30, u 31, u 32, u 33, u 34, u 35, u 36, u 37, u 38, u 39, u 40, u 41, u 42, u 43, u 44, u 45, u 46, u 47, u 48, u 49, u 50, u 51, u 52, u 53, u 54, u 55, u 56, u 57, u 58, u 59, u 60, u 61, u 62, u 63, u 64, u 65, u 66, u 67, u 68, u 69, u 70, u 71, u 72, u 73, u 74, u 75, u 76, u 77] := by
  obtain ⟨u, hu⟩ : ∃ u : Nat → Value, ∀ n, n < L.length → L[n]? = some (u n) := ⟨fun n => L[n]?.getD undef, fun n hn => by simp [hn]⟩
  refine ⟨u, ?_⟩
  have e := list_spread L u hu
  rw [h, spread78] at e
  exact e

set_option maxRecDepth 100000 in
theorem spread122 (u : Nat → Value) : (List.range 122).map u = [u 0, u 1, u 2, u 3, u 4, u 5, u 6, u 7, u 8, u 9, u 10, u 11, u 12, u 13, u 14, u 15, u 16, u 17, u 18, u 19, u 20, u 21, u 22, u 23, u 24, u 25, u 26, u 27, u 28, u 29, u 30, u 31, u 32, u 33, u 34, u 35, u 36, u 37, u 38, u 39, u 40, u 41, u 42, u 43, u 44, u 45, u 46, u 47, u 48, u 49, u 50, u 51, u 52, u 53, u 54, u 55, u 56, u 57, u 58, u 59, u 60, u 61, u 62, u 63, u 64, u 65, u 66, u 67, u 68, u 69, u 70, u 71, u 72, u 73, u 74, u 75, u 76, u 77, u 78, u 79, u 80, u 81, u 82, u 83, u 84, u 85, u 86, u 87, u 88, u 89, u 90, u 91, u 92, u 93, u 94, u 95, u 96, u 97, u 98, u 99, u 100, u 101, u 102, u 103, u 104, u 105, u 106, u 107, u 108, u 109, u 110, u 111, u 112, u 113, u 114, u 115, u 116, u 117, u 118, u 119, u 120, u 121] := rfl
theorem open122 {L : List Value} (h : L.length = 122) : ∃ u : Nat → Value, L = [u 0, u 1, u 2, u 3, u 4, u 5, u 6, u 7, u 8, u 9, u 10, u 11, u 12, u 13, u 14, u 15, u 16, u 17, u 18, u 19, u 20, u 21, u 22, u 23, u 24, u 25, u 26, u 27, u 28, u 29, u 30, u 31, u 32, u 33, u 34, u 35, u 36, u 37, u 38, u 39, u 40, u 41, u 42, u 43, u 44, u 45, u 46, u 47, u 48, u 49, u 50, u 51, u 52, u 53, u 54, u 55, u 56, u 57, u 58, u 59, u 60, u 61, u 62, u 63, u 64, u 65, u 66, u 67, u 68, u 69, u 70, u 71, u 72, u 73, u 74, u 75, u 76, u 77, u 78, u 79, u 80, u 81, u 82, u 83, u 84, u 85, u 86, u 87, u 88, u 89, u 90, u 91, u 92, u 93, u 94, u 95, u 96, u 97, u 98, u 99, u 100, u 101, u 102, u 103, u 104, u 105, u 106, u 107, u 108, u 109, u 110, u 111, u 112, u 113, u 114, u 115, u 116, u 117, u 118, u 119, u 120, u 121] := by
  obtain ⟨u, hu⟩ : ∃ u : Nat → Value, ∀ n, n < L.length → L[n]? = some (u n) := ⟨fun n => L[n]?.getD undef, fun n hn => by simp [hn]⟩
  refine ⟨u, ?_⟩
  have e := list_spread L u hu
  rw [h, spread122] at e
  exact e

set_option maxRecDepth 100000 in
theorem spread94 (u : Nat → Value) : (List.range 94).map u = [u 0, u 1, u 2, u 3, u 4, u 5, u 6, u 7, u 8, u 9, u 10, u 11, u 12, u 13, u 14, u 15, u 16, u 17, u 18, u 19, u 20, u 21, u 22, u 23, u 24, u 25, u 26, u 27, u 28, u 29, u 30, u 31, u 32, u 33, u 34, u 35, u 36, u 37, u 38, u 39, u 40, u 41, u 42, u 43, u 44, u 45, u 46, u 47, u 48, u 49, u 50, u 51, u 52, u 53, u 54, u 55, u 56, u 57, u 58, u 59, u 60, u 61, u 62, u 63, u 64, u 65, u 66, u 67, u 68, u 69, u 70, u 71, u 72, u 73, u 74, u 75, u 76, u 77, u 78, u 79, u 80, u 81, u 82, u 83, u 84, u 85, u 86, u 87, u 88, u 89, u 90, u 91, u 92, u 93] := rfl
theorem open94 {L : List Value} (h : L.length = 94) : ∃ u : Nat → Value, L = [u 0, u 1, u 2, u 3, u 4, u 5, u 6, u 7, u 8, u 9, u 10, u 11, u 12, u 13, u 14, u 15, u 16, u 17, u 18, u 19, u 20, u 21, u 22, u 23, u 24, u 25, u 26, u 27, u 28, u 29, u 30, u 31, u 32, u 33, u 34, u 35, u 36, u 37, u 38, u 39, u 40, u 41, u 42, u 43, u 44, u 45, u 46, u 47, u 48, u 49, u 50, u 51, u 52, u 53, u 54, u 55, u 56, u 57, u 58, u 59, u 60, u 61, u 62, u 63, u 64, u 65, u 66, u 67, u 68, u 69, u 70, u 71, u 72, u 73, u 74, u 75, u 76, u 77, u 78, u 79, u 80, u 81, u 82, u 83, u 84, u 85, u 86, u 87, u 88, u 89, u 90, u 91, u 92, u 93] := by
  obtain ⟨u, hu⟩ : ∃ u : Nat → Value, ∀ n, n < L.length → L[n]? = some (u n) := ⟨fun n => L[n]?.getD undef, fun n hn => by simp [hn]⟩
  refine ⟨u, ?_⟩
  have e := list_spread L u hu
  rw [h, spread94] at e
  exact e

theorem neg64 (u : Int) (h0 : 0 < u) (h1 : u ≤ 18446744073709551615) : IntKind.u64.wrap (-u) = 18446744073709551616 - u := by rw [IntKind.wrap_u64]; omega

set_option maxRecDepth 100000 in
set_option maxHeartbeats 1000000 in
theorem magnitude_any (f : SF) (u : Int) (h0 : 0 ≤ u) (h1 : u ≤ 18446744073709551615) (sg : Bool) (w : World) :
    Calls Tryz.prog 55 #[f.val, .int .u64 u, .bool sg] w fun e w' => e = .returned (.tuple #[.string ⟨(sgnS f (negU sg u)).toArray⟩, .int .u64 (absU sg u)]) ∧ Only none w w' := by
  obtain ⟨wid, prec, hasWid, hasPrec, minus, plus, sharp, space, zero⟩ := f
  by_cases hn : sg = true ∧ 9223372036854775808 ≤ u
  · obtain ⟨rfl, hu⟩ := hn
    have e1 : negU true u = true := by unfold negU; simp [hu]
    have e2 : ((absU true u : Nat) : Int) = 18446744073709551616 - u := by unfold absU; rw [e1]; simp only [if_true]; omega
    have e3 := neg64 u (by omega) h1
    have hw : wrap64 u = u - 18446744073709551616 := by unfold wrap64; omega
    have hw2 : u - 18446744073709551616 < 0 := by omega
    rw [e1, e2]
    unfold SF.val sgnS
    clear h0 h1 hu e1 e2
    go_enter Tryz.func55, Tryz.ntmps55
    go_wp2
    go_ret2
    exact ⟨rfl, (Only.refl _ _).alloc _⟩
  · have e1 : negU sg u = false := by
      unfold negU
      cases sg
      · rfl
      · have : ¬ 9223372036854775808 ≤ u := fun h => hn ⟨rfl, h⟩
        simp [this]
    have e2 : ((absU sg u : Nat) : Int) = u := by unfold absU; rw [e1]; simp only [Bool.false_eq_true, if_false]; omega
    rw [e1, e2]
    have key : sg = false ∨ (sg = true ∧ wrap64 u = u ∧ ¬ u < 0) := by
      cases sg
      · exact .inl rfl
      · refine .inr ⟨rfl, ?_, by omega⟩
        have : ¬ 9223372036854775808 ≤ u := fun h => hn ⟨rfl, h⟩
        unfold wrap64; omega
    unfold SF.val sgnS
    clear h0 h1 e1 e2 hn
    cases plus <;> cases space <;> rcases key with rfl | ⟨rfl, hw, hw2⟩
    all_goals
      go_enter Tryz.func55, Tryz.ntmps55
      go_wp2
      go_ret2
      exact ⟨rfl, (Only.refl _ _).alloc _⟩

/-- whether the reference says nothing -/
def openB (f : SF) (u : Int) (base : Nat) (letter : Int) : Bool := (f.plus && f.space) || (f.sharp && (decide (letter = 79) || (decide ((base : Int) = 8) && (u == 0))))
theorem specInt_open (f : SF) (hfp : f.hasPrec = false) (u : Int) (base : Nat) (sg : Bool) (letter : Int) (up : Bool) (h : openB f u base letter = true) : specInt f u base sg letter up = none := by
  unfold specInt
  rw [if_pos]
  unfold openB at h
  simp only [Bool.or_eq_true, Bool.and_eq_true, decide_eq_true_eq, beq_iff_eq] at h
  refine .inr (h.imp id fun h => ⟨h.1, h.2.imp id fun h => ⟨by omega, h.2⟩⟩)
/-- what is said where something is -/
def saidInt (f : SF) (u : Int) (base : Nat) (sg : Bool) (letter : Int) (up : Bool) : Option Bytes :=
  if f.zero = true ∧ f.minus = false ∧ f.hasWid = true then
    if headS f base letter up = [] then some (sgnS f (negU sg u) ++ (rep 48 (f.wid - (sgnS f (negU sg u)).length - (digits base up 64 (absU sg u)).length) ++ digits base up 64 (absU sg u))) else none
  else some (specPad f (sgnS f (negU sg u) ++ (headS f base letter up ++ digits base up 64 (absU sg u))))
theorem specInt_said (f : SF) (hfp : f.hasPrec = false) (u : Int) (base : Nat) (sg : Bool) (letter : Int) (up : Bool) (h : openB f u base letter = false) : specInt f u base sg letter up = saidInt f u base sg letter up := by
  unfold specInt saidInt
  rw [if_neg]
  intro h'
  have : openB f u base letter = true := by
    unfold openB
    simp only [Bool.or_eq_true, Bool.and_eq_true, decide_eq_true_eq, beq_iff_eq]
    rcases h' with h' | h'
    · rw [hfp] at h'; cases h'
    · exact h'.imp id fun h => ⟨h.1, h.2.imp id fun h => ⟨by omega, h.2⟩⟩
  rw [h] at this
  cases this

/-- what an integer's text is, as the reference's Integer answers -/
def IntAns (o : Option Bytes) (w : World) (e : Ending) (w' : World) : Prop := e = .returned (.tuple #[.string ⟨(o.getD []).toArray⟩, .int .i64 (if o.isSome then 1 else 0)]) ∧ Only none w w'

theorem headS_int (f : SF) (base : Nat) (letter : Int) (up : Bool) : headS f base letter up =
    if (letter == 79) = true then [48, 111] else if (f.sharp && ((base : Int) == 2)) = true then [48, 98] else if (f.sharp && ((base : Int) == 8)) = true then [48] else if (f.sharp && decide ((base : Int) = 16) && up) = true then [48, 88] else if (f.sharp && decide ((base : Int) = 16)) = true then [48, 120] else [] := by
  unfold headS
  have e2 : ((base : Int) == 2) = decide (base = 2) := by rw [Bool.eq_iff_iff]; simp; omega
  have e8 : ((base : Int) == 8) = decide (base = 8) := by rw [Bool.eq_iff_iff]; simp; omega
  have e16 : decide ((base : Int) = 16) = decide (base = 16) := by rw [Bool.eq_iff_iff]; simp; omega
  rw [e2, e8, e16]
  simp only [beq_iff_eq, Bool.and_eq_true, decide_eq_true_eq, and_assoc]
theorem headS_small (f : SF) (base : Nat) (letter : Int) (up : Bool) : (∀ c ∈ headS f base letter up, c.toNat < 128) ∧ (headS f base letter up).length ≤ 2 := by
  unfold headS
  split
  · exact ⟨by decide, by decide⟩
  split
  · exact ⟨by decide, by decide⟩
  split
  · exact ⟨by decide, by decide⟩
  split
  · exact ⟨by decide, by decide⟩
  split
  · exact ⟨by decide, by decide⟩
  · exact ⟨by simp, by simp⟩
theorem ascii_of {l : Bytes} (h : ∀ c ∈ l, c.toNat < 128) : Ascii (str l) := by
  intro i hi
  rw [str_size] at hi
  have e : (str l).get! i = l[i] := str_get! l i hi
  unfold bt
  rw [e]
  have := h l[i] (List.getElem_mem hi)
  omega
theorem Digits_any (base : Nat) (hb : base = 10 ∨ base = 16 ∨ base = 8 ∨ base = 2) (up : Bool) (hup : up = true → base = 16) (n : Nat) (hn : n < 18446744073709551616) (w : World) : Calls Tryz.prog 23 #[.int .u64 n, .int .i64 base, .bool up] w fun e w' => e = .returned (.string ⟨(digits base up 64 n).toArray⟩) ∧ w = w' := by
  cases up
  · rcases hb with rfl | rfl | rfl | rfl
    · exact Digits_10 n hn w
    · exact Digits_16 n hn w
    · exact Digits_8 n hn w
    · exact Digits_2 n hn w
  · obtain rfl := hup rfl
    exact Digits_16u n hn w

set_option maxRecDepth 100000 in
set_option maxHeartbeats 4000000 in
theorem Integer_spec (f : SF) (hfp : f.hasPrec = false) (hf0 : 0 ≤ f.wid) (hf1 : f.wid ≤ 1000000) (u : Int) (h0 : 0 ≤ u) (h1 : u ≤ 18446744073709551615) (base : Nat) (hb : base = 10 ∨ base = 16 ∨ base = 8 ∨ base = 2) (sg : Bool) (letter : Int) (upper : Bool) (hup : upper = true → base = 16) (w : World) :
    Calls Tryz.prog 39 #[f.val, .int .u64 u, .int .i64 base, .bool sg, .int .u8 letter, .bool upper] w (IntAns (specInt f u base sg letter upper) w) := by
  have HM := Lib.hid (fun W => magnitude_any f u h0 h1 sg W)
  have HDg := Lib.hid (fun W => Digits_any base hb upper hup (absU sg u) (absU_lt sg u h0 h1) W)
  have HO := Lib.hid (fun h => specInt_open f hfp u base sg letter upper h)
  have HSd := Lib.hid (fun h => specInt_said f hfp u base sg letter upper h)
  have HPd := Lib.hid (fun (S : ByteArray) (ha : Ascii S) (hs : S.size ≤ 1000000) W => Pad_any f S ha hs hf0 hf1 W)
  have hsg := sgnS_small f (negU sg u)
  have hsl := sgnS_len f (negU sg u)
  have hhd := headS_small f base letter upper
  have hdg := digits_small base upper (by omega) (by omega) 64 (absU sg u)
  have hdl : (digits base upper 64 (absU sg u)).length ≤ 64 := digits_len base upper (by omega) 63 64 _ (Nat.lt_of_lt_of_le (absU_lt sg u h0 h1) (by rcases hb with rfl | rfl | rfl | rfl <;> decide))
  have HA := Lib.hid (And.intro hsg (And.intro hhd.1 hdg))
  obtain ⟨T, hT⟩ : ∃ T, T = specInt f u base sg letter upper := ⟨_, rfl⟩
  obtain ⟨ob, hob⟩ : ∃ ob, ob = openB f u base letter := ⟨_, rfl⟩
  obtain ⟨neg, hneg⟩ : ∃ neg, neg = negU sg u := ⟨_, rfl⟩
  obtain ⟨n, hn⟩ : ∃ n, n = absU sg u := ⟨_, rfl⟩
  have HS0 : Hid (saidInt f u base sg letter upper = if f.zero = true ∧ f.minus = false ∧ f.hasWid = true then (if headS f base letter upper = [] then some (sgnS f (negU sg u) ++ (rep 48 (f.wid - (sgnS f (negU sg u)).length - (digits base upper 64 (absU sg u)).length) ++ digits base upper 64 (absU sg u))) else none) else some (specPad f (sgnS f (negU sg u) ++ (headS f base letter upper ++ digits base upper 64 (absU sg u))))) := rfl
  rw [← hT, ← hob] at HO
  rw [← hT, ← hob] at HSd
  rw [← hT]
  rw [← hneg, ← hn] at HS0
  rw [← hneg, ← hn] at HM
  rw [← hn] at HDg hdl HA
  rw [← hneg] at hsl HA
  have HOB := Lib.hid hob
  clear hsg hdg hT hob hneg hn h0 h1
  obtain ⟨wid, prec, hasWid, hasPrec, minus, plus, sharp, space, zero⟩ := f
  simp only at hfp hf0 hf1
  subst hfp
  obtain ⟨sgn, hsgn⟩ : ∃ sgn : ByteArray, sgn = ⟨(sgnS ⟨wid, prec, hasWid, false, minus, plus, sharp, space, zero⟩ neg).toArray⟩ := ⟨_, rfl⟩
  obtain ⟨dgs, hdgs⟩ : ∃ dgs : ByteArray, dgs = ⟨(digits base upper 64 n).toArray⟩ := ⟨_, rfl⟩
  obtain ⟨hd, hhdS⟩ : ∃ hd : ByteArray, hd = ⟨(headS ⟨wid, prec, hasWid, false, minus, plus, sharp, space, zero⟩ base letter upper).toArray⟩ := ⟨_, rfl⟩
  rw [← hsgn] at HM
  rw [← hdgs] at HDg
  have z1 : sgn.size ≤ 1 := by rw [hsgn, str_size, hsl]; split <;> decide
  have z2 : dgs.size ≤ 64 := by rw [hdgs, str_size]; exact hdl
  have z3 : hd.size ≤ 2 := by rw [hhdS, str_size]; exact hhd.2
  have HSN := Lib.hid hsgn
  have HDN := Lib.hid hdgs
  have HHN := Lib.hid hhdS
  unfold SF.val at HM HPd ⊢
  dsimp only at HM HPd
  clear hsl hhd hdl hsgn hdgs
  go_enter Tryz.func39, Tryz.ntmps39
  go_upto_region 1 with fail
  refine wp_cut (fun a' w' => ∃ L : List Value, a' = ⟨L.toArray, []⟩ ∧ L.length = 122 ∧ L[1]? = some (.int .u64 u) ∧ L[2]? = some (.int .i64 base) ∧ L[3]? = some (.bool sg) ∧ L[4]? = some (.int .u8 letter) ∧ L[5]? = some (.bool upper) ∧ L[6]? = some (.pointer (some ⟨w.heap.size, 0, none⟩)) ∧ L[43]? = some (.bool ob) ∧ w' = w.alloc (.cells #[.int .i64 wid, .int .i64 prec, .bool hasWid, .bool false, .bool minus, .bool plus, .bool sharp, .bool space, .bool zero] 35)) ?_ ?_
  · intro a1 w1 hR
    obtain ⟨L, rfl, hl, e1, e2, e3, e4, e5, e6, e43, rfl⟩ := hR
    obtain ⟨v, rfl⟩ := open122 hl
    have d1 : v 1 = .int .u64 u := by simpa using e1
    have d2 : v 2 = .int .i64 base := by simpa using e2
    have d3 : v 3 = .bool sg := by simpa using e3
    have d4 : v 4 = .int .u8 letter := by simpa using e4
    have d5 : v 5 = .bool upper := by simpa using e5
    have d6 : v 6 = .pointer (some ⟨w.heap.size, 0, none⟩) := by simpa using e6
    have d43 : v 43 = .bool ob := by simpa using e43
    rw [d1, d2, d3, d4, d5, d6, d43]
    clear hl e1 e2 e3 e4 e5 e6 e43 d1 d2 d3 d4 d5 d6 d43 hhdS
    cases ob
    · have HT : Hid (T = _) := (HSd.out rfl).trans HS0.out
      clear HSd HO HS0 HOB
      go_upto_region 5 with (first | (go_at_call 55; refine (HM.out _).mono ?_; rintro e w2 ⟨rfl, hO2⟩; have hc := fun j => only_cellAt hO2 (k := w.heap.size) (by simp) j) | (go_at_call 23; refine (HDg.out _).mono ?_; rintro e w3 ⟨rfl, rfl⟩))
      have hsw : w.heap.size < w2.heap.size := Nat.lt_of_lt_of_le (by simp) hO2.size
      have HO2 := Lib.hid hO2
      clear hO2
      refine wp_cut (fun a' w' => ∃ L : List Value, a' = ⟨L.toArray, []⟩ ∧ L.length = 122 ∧ L[2]? = some (.int .i64 base) ∧ L[4]? = some (.int .u8 letter) ∧ L[5]? = some (.bool upper) ∧ L[6]? = some (.pointer (some ⟨w.heap.size, 0, none⟩)) ∧ L[14]? = some (.string sgn) ∧ L[16]? = some (.string dgs) ∧ L[17]? = some (.string ⟨#[]⟩) ∧ w' = w2) ?_ (by intro J K hJ hK; go_wp2_with fail; exact Met.intro (hJ _ _ ⟨_, rfl, rfl, rfl, rfl, rfl, rfl, rfl, rfl, rfl, rfl⟩))
      intro a2 w3 hR
      obtain ⟨L, rfl, hl, e2, e4, e5, e6, e14, e16, e17, rfl⟩ := hR
      obtain ⟨v2, rfl⟩ := open122 hl
      have d2 : v2 2 = .int .i64 base := by simpa using e2
      have d4 : v2 4 = .int .u8 letter := by simpa using e4
      have d5 : v2 5 = .bool upper := by simpa using e5
      have d6 : v2 6 = .pointer (some ⟨w.heap.size, 0, none⟩) := by simpa using e6
      have d14 : v2 14 = .string sgn := by simpa using e14
      have d16 : v2 16 = .string dgs := by simpa using e16
      rw [d2, d4, d5, d6, d14, d16]
      clear hl e2 e4 e5 e6 e14 e16 d2 d4 d5 d6 d14 d16
      have d17 : v2 17 = .string ⟨#[]⟩ := by simpa using e17
      rw [d17]
      clear e17 d17
      first
        | (rename_i hK0; refine hK0 _ _ ?_)
        | (rename_i hK0 _; refine hK0 _ _ ?_)
        | (rename_i hK0 _ _; refine hK0 _ _ ?_)
        | (rename_i hK0 _ _ _; refine hK0 _ _ ?_)
      go_step
      refine wp_cut (fun a' w' => ∃ L : List Value, a' = ⟨L.toArray, []⟩ ∧ L.length = 122 ∧ L[2]? = some (.int .i64 base) ∧ L[4]? = some (.int .u8 letter) ∧ L[5]? = some (.bool upper) ∧ L[6]? = some (.pointer (some ⟨w.heap.size, 0, none⟩)) ∧ L[14]? = some (.string sgn) ∧ L[16]? = some (.string dgs) ∧ L[17]? = some (.string hd) ∧ w' = w3) ?_ ?_
      · intro a3 w4 hR
        obtain ⟨L, rfl, hl, e2, e4, e5, e6, e14, e16, e17, rfl⟩ := hR
        obtain ⟨v3, rfl⟩ := open122 hl
        have d2 : v3 2 = .int .i64 base := by simpa using e2
        have d4 : v3 4 = .int .u8 letter := by simpa using e4
        have d5 : v3 5 = .bool upper := by simpa using e5
        have d6 : v3 6 = .pointer (some ⟨w.heap.size, 0, none⟩) := by simpa using e6
        have d14 : v3 14 = .string sgn := by simpa using e14
        have d16 : v3 16 = .string dgs := by simpa using e16
        rw [d2, d4, d5, d6, d14, d16]
        clear hl e2 e4 e5 e6 e14 e16 d2 d4 d5 d6 d14 d16
        have d17 : v3 17 = .string hd := by simpa using e17
        rw [d17]
        clear e17 d17
        first
          | (rename_i hK1; refine hK1 _ _ ?_)
          | (rename_i hK1 _; refine hK1 _ _ ?_)
          | (rename_i hK1 _ _; refine hK1 _ _ ?_)
          | (refine hK0 _ _ ?_)
        obtain ⟨zz, hzz⟩ : ∃ zz, zz = (zero && !minus && hasWid) := ⟨_, rfl⟩
        have HZZ := Lib.hid hzz
        have hc := fun j => only_cellAt HO2.out (k := w.heap.size) (by simp) j
        clear hzz
        go_upto_region 16 with fail
        refine wp_cut (fun a' w' => ∃ L : List Value, a' = ⟨L.toArray, []⟩ ∧ L.length = 122 ∧ L[6]? = some (.pointer (some ⟨w.heap.size, 0, none⟩)) ∧ L[14]? = some (.string sgn) ∧ L[16]? = some (.string dgs) ∧ L[17]? = some (.string hd) ∧ L[99]? = some (.bool zz) ∧ w' = w4) ?_ ?_
        · intro a5 w5 hR
          obtain ⟨L, rfl, hl, e6, e14, e16, e17, e99, rfl⟩ := hR
          obtain ⟨v5, rfl⟩ := open122 hl
          have d6 : v5 6 = .pointer (some ⟨w.heap.size, 0, none⟩) := by simpa using e6
          have d14 : v5 14 = .string sgn := by simpa using e14
          have d16 : v5 16 = .string dgs := by simpa using e16
          have d17 : v5 17 = .string hd := by simpa using e17
          have d99 : v5 99 = .bool zz := by simpa using e99
          rw [d6, d14, d16, d17, d99]
          clear hl e6 e14 e16 e17 e99 d6 d14 d16 d17 d99
          have zr : (rep 48 (wid - sgn.size - dgs.size)).length ≤ 1000000 := by unfold rep; rw [List.length_replicate]; omega
          have CR : ∀ W, Calls Tryz.prog 46 #[.int .u8 48, .int .i64 (wid - sgn.size - dgs.size)] W fun e w' => e = .returned (.string ⟨(rep 48 (wid - sgn.size - dgs.size)).toArray⟩) ∧ Only none W w' := fun W => repeated_any 48 (by decide) (by decide) _ (by omega) W
          obtain ⟨rp, hrp⟩ : ∃ rp : ByteArray, rp = ⟨(rep 48 (wid - sgn.size - dgs.size)).toArray⟩ := ⟨_, rfl⟩
          rw [← hrp] at CR
          have zrs : rp.size ≤ 1000000 := by rw [hrp, str_size]; exact zr
          have HRP := Lib.hid hrp
          have HCR := Lib.hid CR
          have q1 : ¬ 9223372036854775807 < sgn.size + rp.size := by omega
          have q2 : ¬ 9223372036854775807 < sgn.size + rp.size + dgs.size := by omega
          have q3 : ¬ 9223372036854775807 < sgn.size + hd.size := by omega
          have q4 : ¬ 9223372036854775807 < sgn.size + hd.size + dgs.size := by omega
          clear hrp CR zr hc
          have hc := fun j => only_cellAt HO2.out (k := w.heap.size) (by simp) j
          have hO4 : Only none w w5 := ((Only.refl _ _).alloc _).trans HO2.out
          have HO4 := Lib.hid hO4
          clear hO4
          cases zz
          · have hnz : ¬ (zero = true ∧ minus = false ∧ hasWid = true) := by
              rintro ⟨g1, g2, g3⟩
              have := HZZ.out
              rw [g1, g2, g3] at this
              cases this
            have hT2 : T = some (specPad ⟨wid, prec, hasWid, false, minus, plus, sharp, space, zero⟩ ((sgn ++ hd) ++ dgs).data.toList) := by
              rw [HT.out, if_neg hnz, append_list, append_list, HSN.out, HHN.out, HDN.out]
              simp only [List.append_assoc]
            have hasc : Ascii ((sgn ++ hd) ++ dgs) := by
              rw [← str_eta ((sgn ++ hd) ++ dgs)]
              refine ascii_of ?_
              intro c hc'
              rw [append_list, append_list, HSN.out, HHN.out, HDN.out] at hc'
              rcases List.mem_append.1 hc' with h | h
              · rcases List.mem_append.1 h with h | h
                · exact HA.out.1 c h
                · exact HA.out.2.1 c h
              · exact HA.out.2.2 c h
            have CP := HPd.out ((sgn ++ hd) ++ dgs) hasc (by rw [ByteArray.size_append, ByteArray.size_append]; omega)
            obtain ⟨R, hRR⟩ : ∃ R : ByteArray, R = ⟨(specPad ⟨wid, prec, hasWid, false, minus, plus, sharp, space, zero⟩ ((sgn ++ hd) ++ dgs).data.toList).toArray⟩ := ⟨_, rfl⟩
            rw [← hRR] at CP
            have HCP := Lib.hid CP
            have HT2 := Lib.hid (And.intro hT2 hRR)
            clear CP hRR hT2 hasc hnz
            go_wp2_with (go_at_call 22; refine (HCP.out _).mono ?_; rintro e w6 ⟨rfl, hO6⟩)
            go_ret2
            unfold IntAns
            rw [HT2.out.1]
            exact ⟨by rw [HT2.out.2]; rfl, HO4.out.trans hO6⟩
          · have hz : zero = true ∧ minus = false ∧ hasWid = true := by
              have := HZZ.out
              revert this
              cases zero <;> cases minus <;> cases hasWid <;> simp
            obtain ⟨rfl, rfl, rfl⟩ := hz
            have hT2 := HT.out
            rw [if_pos ⟨rfl, rfl, rfl⟩] at hT2
            by_cases hh : headS ⟨wid, prec, true, false, false, plus, sharp, space, true⟩ base letter upper = []
            · rw [if_pos hh] at hT2
              have hhd : hd = ⟨#[]⟩ := by rw [HHN.out, hh]
              subst hhd
              have hT3 : T = some ((sgn ++ rp) ++ dgs).data.toList := by
                rw [hT2, append_list, append_list, HRP.out, HSN.out, HDN.out]
                simp only [List.append_assoc, str_size]
              have HT3 := Lib.hid hT3
              clear hT2 hT3 hh
              go_wp2_with (go_at_call 46; refine (HCR.out _).mono ?_; rintro e w6 ⟨rfl, hO6⟩)
              go_ret2
              unfold IntAns
              rw [HT3.out]
              have e : (⟨((sgn ++ rp) ++ dgs).data.toList.toArray⟩ : ByteArray) = (sgn ++ rp) ++ dgs := str_eta _
              rw [Option.getD_some, e]
              exact ⟨rfl, HO4.out.trans hO6⟩
            · rw [if_neg hh] at hT2
              have hne : hd.toList.isEmpty = false := by
                rw [Lib.toList_data, HHN.out]
                cases hq : headS ⟨wid, prec, true, false, false, plus, sharp, space, true⟩ base letter upper with
                | nil => exact absurd hq hh
                | cons _ _ => rfl
              have hne2 : ¬ hd.toList = [] := by intro h; rw [h] at hne; cases hne
              have HT3 := Lib.hid hT2
              clear hT2 hh
              go_wp2
              go_ret2
              unfold IntAns
              rw [HT3.out]
              exact ⟨rfl, HO4.out⟩
        · intro J K hJ hK
          have HZ2 : Hid (zz = _) := HZZ.out
          clear HZZ
          go_wp2_with fail
          all_goals exact Met.intro (hJ _ _ ⟨_, rfl, rfl, (by first | rfl | simp [*]), (by first | rfl | simp [*]), (by first | rfl | simp [*]), (by first | rfl | simp [*]), by rw [HZ2.out]; simp [*], (by first | rfl | simp [*])⟩)
      · intro J K hJ hK
        have hd2 : hd = ⟨(headS ⟨wid, prec, hasWid, false, minus, plus, sharp, space, zero⟩ base letter upper).toArray⟩ := HHN.out
        rw [headS_int] at hd2
        dsimp only at hd2
        have HD2 := Lib.hid hd2
        clear hd2
        go_wp2_with fail
        all_goals exact Met.intro (hJ _ _ ⟨_, rfl, rfl, (by first | rfl | simp [*]), (by first | rfl | simp [*]), (by first | rfl | simp [*]), (by first | rfl | simp [*]), (by first | rfl | simp [*]), (by first | rfl | simp [*]), by (rw [HD2.out]; simp [*]), rfl⟩)
    · have HT := Lib.hid (HO.out rfl)
      clear HO HSd HS0 HOB
      go_wp2
      go_ret2
      rw [HT.out]
      exact ⟨rfl, (Only.refl _ _).alloc _⟩
  · intro J K hJ hK
    have hv : ob = ((plus && space) || (sharp && (decide (letter = 79) || (decide ((base : Int) = 8) && (u == 0))))) := HOB.out
    have HV := Lib.hid hv
    clear hv hhdS
    go_wp2_with fail
    all_goals exact Met.intro (hJ _ _ ⟨_, rfl, rfl, (by first | rfl | simp [*]), (by first | rfl | simp [*]), (by first | rfl | simp [*]), (by first | rfl | simp [*]), (by first | rfl | simp [*]), (by first | rfl | simp [*]), by rw [HV.out]; first | rfl | simp [*] | (congr; simp [*]) , by first | rfl | simp [*]⟩)

end Go.Proofs.YtcbliojofnigdaaGreatDoor
