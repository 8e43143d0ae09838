/- spec.hex at a digit; spec.escape at the escapes of one letter (printed by tools/gen_unq1.py). -/
import Derived.Test.YtcbliojofnigdaaGreatDoorArgs
import Derived.Lib.QuoteLoop
import Derived.LoopTactic
import Derived.Deep.RegionWith
set_option linter.unusedVariables false
set_option linter.unusedSimpArgs false
namespace Go.Proofs.YtcbliojofnigdaaGreatDoor
open Go Go.Proofs Go.RowKit

set_option maxRecDepth 100000 in
set_option maxHeartbeats 400000 in
theorem hexc_0 (w : World) : Calls Tryz.prog 72 #[.int .u8 48] w fun e w' => e = .returned (.int .i64 0) ∧ w = w' := by
  go_enter Tryz.func72, Tryz.ntmps72
  go_wp2
  go_ret
  exact ⟨rfl, rfl⟩
set_option maxRecDepth 100000 in
set_option maxHeartbeats 400000 in
theorem hexc_1 (w : World) : Calls Tryz.prog 72 #[.int .u8 49] w fun e w' => e = .returned (.int .i64 1) ∧ w = w' := by
  go_enter Tryz.func72, Tryz.ntmps72
  go_wp2
  go_ret
  exact ⟨rfl, rfl⟩
set_option maxRecDepth 100000 in
set_option maxHeartbeats 400000 in
theorem hexc_2 (w : World) : Calls Tryz.prog 72 #[.int .u8 50] w fun e w' => e = .returned (.int .i64 2) ∧ w = w' := by
  go_enter Tryz.func72, Tryz.ntmps72
  go_wp2
  go_ret
  exact ⟨rfl, rfl⟩
set_option maxRecDepth 100000 in
set_option maxHeartbeats 400000 in
theorem hexc_3 (w : World) : Calls Tryz.prog 72 #[.int .u8 51] w fun e w' => e = .returned (.int .i64 3) ∧ w = w' := by
  go_enter Tryz.func72, Tryz.ntmps72
  go_wp2
  go_ret
  exact ⟨rfl, rfl⟩
set_option maxRecDepth 100000 in
set_option maxHeartbeats 400000 in
theorem hexc_4 (w : World) : Calls Tryz.prog 72 #[.int .u8 52] w fun e w' => e = .returned (.int .i64 4) ∧ w = w' := by
  go_enter Tryz.func72, Tryz.ntmps72
  go_wp2
  go_ret
  exact ⟨rfl, rfl⟩
set_option maxRecDepth 100000 in
set_option maxHeartbeats 400000 in
theorem hexc_5 (w : World) : Calls Tryz.prog 72 #[.int .u8 53] w fun e w' => e = .returned (.int .i64 5) ∧ w = w' := by
  go_enter Tryz.func72, Tryz.ntmps72
  go_wp2
  go_ret
  exact ⟨rfl, rfl⟩
set_option maxRecDepth 100000 in
set_option maxHeartbeats 400000 in
theorem hexc_6 (w : World) : Calls Tryz.prog 72 #[.int .u8 54] w fun e w' => e = .returned (.int .i64 6) ∧ w = w' := by
  go_enter Tryz.func72, Tryz.ntmps72
  go_wp2
  go_ret
  exact ⟨rfl, rfl⟩
set_option maxRecDepth 100000 in
set_option maxHeartbeats 400000 in
theorem hexc_7 (w : World) : Calls Tryz.prog 72 #[.int .u8 55] w fun e w' => e = .returned (.int .i64 7) ∧ w = w' := by
  go_enter Tryz.func72, Tryz.ntmps72
  go_wp2
  go_ret
  exact ⟨rfl, rfl⟩
set_option maxRecDepth 100000 in
set_option maxHeartbeats 400000 in
theorem hexc_8 (w : World) : Calls Tryz.prog 72 #[.int .u8 56] w fun e w' => e = .returned (.int .i64 8) ∧ w = w' := by
  go_enter Tryz.func72, Tryz.ntmps72
  go_wp2
  go_ret
  exact ⟨rfl, rfl⟩
set_option maxRecDepth 100000 in
set_option maxHeartbeats 400000 in
theorem hexc_9 (w : World) : Calls Tryz.prog 72 #[.int .u8 57] w fun e w' => e = .returned (.int .i64 9) ∧ w = w' := by
  go_enter Tryz.func72, Tryz.ntmps72
  go_wp2
  go_ret
  exact ⟨rfl, rfl⟩
set_option maxRecDepth 100000 in
set_option maxHeartbeats 400000 in
theorem hexc_10 (w : World) : Calls Tryz.prog 72 #[.int .u8 97] w fun e w' => e = .returned (.int .i64 10) ∧ w = w' := by
  go_enter Tryz.func72, Tryz.ntmps72
  go_wp2
  go_ret
  exact ⟨rfl, rfl⟩
set_option maxRecDepth 100000 in
set_option maxHeartbeats 400000 in
theorem hexc_11 (w : World) : Calls Tryz.prog 72 #[.int .u8 98] w fun e w' => e = .returned (.int .i64 11) ∧ w = w' := by
  go_enter Tryz.func72, Tryz.ntmps72
  go_wp2
  go_ret
  exact ⟨rfl, rfl⟩
set_option maxRecDepth 100000 in
set_option maxHeartbeats 400000 in
theorem hexc_12 (w : World) : Calls Tryz.prog 72 #[.int .u8 99] w fun e w' => e = .returned (.int .i64 12) ∧ w = w' := by
  go_enter Tryz.func72, Tryz.ntmps72
  go_wp2
  go_ret
  exact ⟨rfl, rfl⟩
set_option maxRecDepth 100000 in
set_option maxHeartbeats 400000 in
theorem hexc_13 (w : World) : Calls Tryz.prog 72 #[.int .u8 100] w fun e w' => e = .returned (.int .i64 13) ∧ w = w' := by
  go_enter Tryz.func72, Tryz.ntmps72
  go_wp2
  go_ret
  exact ⟨rfl, rfl⟩
set_option maxRecDepth 100000 in
set_option maxHeartbeats 400000 in
theorem hexc_14 (w : World) : Calls Tryz.prog 72 #[.int .u8 101] w fun e w' => e = .returned (.int .i64 14) ∧ w = w' := by
  go_enter Tryz.func72, Tryz.ntmps72
  go_wp2
  go_ret
  exact ⟨rfl, rfl⟩
set_option maxRecDepth 100000 in
set_option maxHeartbeats 400000 in
theorem hexc_15 (w : World) : Calls Tryz.prog 72 #[.int .u8 102] w fun e w' => e = .returned (.int .i64 15) ∧ w = w' := by
  go_enter Tryz.func72, Tryz.ntmps72
  go_wp2
  go_ret
  exact ⟨rfl, rfl⟩
theorem hex_any (d : Nat) (h : d < 16) (w : World) : Calls Tryz.prog 72 #[.int .u8 (Lib.hexDigit d)] w fun e w' => e = .returned (.int .i64 d) ∧ w = w' := by
  rcases (by omega : d = 0 ∨ d = 1 ∨ d = 2 ∨ d = 3 ∨ d = 4 ∨ d = 5 ∨ d = 6 ∨ d = 7 ∨ d = 8 ∨ d = 9 ∨ d = 10 ∨ d = 11 ∨ d = 12 ∨ d = 13 ∨ d = 14 ∨ d = 15) with rfl | rfl | rfl | rfl | rfl | rfl | rfl | rfl | rfl | rfl | rfl | rfl | rfl | rfl | rfl | rfl
  · exact hexc_0 w
  · exact hexc_1 w
  · exact hexc_2 w
  · exact hexc_3 w
  · exact hexc_4 w
  · exact hexc_5 w
  · exact hexc_6 w
  · exact hexc_7 w
  · exact hexc_8 w
  · exact hexc_9 w
  · exact hexc_10 w
  · exact hexc_11 w
  · exact hexc_12 w
  · exact hexc_13 w
  · exact hexc_14 w
  · exact hexc_15 w

set_option maxRecDepth 100000 in
set_option maxHeartbeats 2000000 in
theorem escp_97 (s : ByteArray) (hs : 1 < s.size) (h1 : ((s[1]'hs).toNat : Int) = 97) (w : World) : Calls Tryz.prog 57 #[.string s, .int .u8 34] w fun e w' => e = .returned (.tuple #[.string ⟨#[7]⟩, .int .i64 2]) ∧ Only none w w' := by
  have hsi : (1 : Int) < s.size := by omega
  have hs2 : ¬ (s.size : Int) < 2 := by omega
  go_enter Tryz.func57, Tryz.ntmps57
  go_wp2
  go_loopw [7] (fun i W => ∃ k : Nat, i = .int .i64 ((2 * k : Nat) : Int) ∧ k ≤ 0 ∧ Only none w W) (fun i _ => 14 - (intOf i).toNat)
  case atStart => exact ⟨0, rfl, Nat.zero_le _, Only.refl _ _⟩
  case round =>
    obtain ⟨k, rfl, hk, hO⟩ := hrel
    rcases (by omega : k = 0) with rfl
    · have HO := Lib.hid hO
      clear hO
      go_wp2
      go_region
      all_goals
        go_wp2
        go_ret2
        exact ⟨rfl, HO.out.drew⟩

set_option maxRecDepth 100000 in
set_option maxHeartbeats 2000000 in
theorem escp_98 (s : ByteArray) (hs : 1 < s.size) (h1 : ((s[1]'hs).toNat : Int) = 98) (w : World) : Calls Tryz.prog 57 #[.string s, .int .u8 34] w fun e w' => e = .returned (.tuple #[.string ⟨#[8]⟩, .int .i64 2]) ∧ Only none w w' := by
  have hsi : (1 : Int) < s.size := by omega
  have hs2 : ¬ (s.size : Int) < 2 := by omega
  go_enter Tryz.func57, Tryz.ntmps57
  go_wp2
  go_loopw [7] (fun i W => ∃ k : Nat, i = .int .i64 ((2 * k : Nat) : Int) ∧ k ≤ 1 ∧ Only none w W) (fun i _ => 14 - (intOf i).toNat)
  case atStart => exact ⟨0, rfl, Nat.zero_le _, Only.refl _ _⟩
  case round =>
    obtain ⟨k, rfl, hk, hO⟩ := hrel
    rcases (by omega : k = 0 ∨ k = 1) with rfl | rfl
    · have HO := Lib.hid hO
      clear hO
      go_wp2
      go_region
      all_goals
        go_wp2
        go_roundw
        case rel => exact ⟨1, rfl, by decide, HO.out.drew⟩
        case measure => decide
    · have HO := Lib.hid hO
      clear hO
      go_wp2
      go_region
      all_goals
        go_wp2
        go_ret2
        exact ⟨rfl, HO.out.drew⟩

set_option maxRecDepth 100000 in
set_option maxHeartbeats 2000000 in
theorem escp_102 (s : ByteArray) (hs : 1 < s.size) (h1 : ((s[1]'hs).toNat : Int) = 102) (w : World) : Calls Tryz.prog 57 #[.string s, .int .u8 34] w fun e w' => e = .returned (.tuple #[.string ⟨#[12]⟩, .int .i64 2]) ∧ Only none w w' := by
  have hsi : (1 : Int) < s.size := by omega
  have hs2 : ¬ (s.size : Int) < 2 := by omega
  go_enter Tryz.func57, Tryz.ntmps57
  go_wp2
  go_loopw [7] (fun i W => ∃ k : Nat, i = .int .i64 ((2 * k : Nat) : Int) ∧ k ≤ 2 ∧ Only none w W) (fun i _ => 14 - (intOf i).toNat)
  case atStart => exact ⟨0, rfl, Nat.zero_le _, Only.refl _ _⟩
  case round =>
    obtain ⟨k, rfl, hk, hO⟩ := hrel
    rcases (by omega : k = 0 ∨ k = 1 ∨ k = 2) with rfl | rfl | rfl
    · have HO := Lib.hid hO
      clear hO
      go_wp2
      go_region
      all_goals
        go_wp2
        go_roundw
        case rel => exact ⟨1, rfl, by decide, HO.out.drew⟩
        case measure => decide
    · have HO := Lib.hid hO
      clear hO
      go_wp2
      go_region
      all_goals
        go_wp2
        go_roundw
        case rel => exact ⟨2, rfl, by decide, HO.out.drew⟩
        case measure => decide
    · have HO := Lib.hid hO
      clear hO
      go_wp2
      go_region
      all_goals
        go_wp2
        go_ret2
        exact ⟨rfl, HO.out.drew⟩

set_option maxRecDepth 100000 in
set_option maxHeartbeats 2000000 in
theorem escp_110 (s : ByteArray) (hs : 1 < s.size) (h1 : ((s[1]'hs).toNat : Int) = 110) (w : World) : Calls Tryz.prog 57 #[.string s, .int .u8 34] w fun e w' => e = .returned (.tuple #[.string ⟨#[10]⟩, .int .i64 2]) ∧ Only none w w' := by
  have hsi : (1 : Int) < s.size := by omega
  have hs2 : ¬ (s.size : Int) < 2 := by omega
  go_enter Tryz.func57, Tryz.ntmps57
  go_wp2
  go_loopw [7] (fun i W => ∃ k : Nat, i = .int .i64 ((2 * k : Nat) : Int) ∧ k ≤ 3 ∧ Only none w W) (fun i _ => 14 - (intOf i).toNat)
  case atStart => exact ⟨0, rfl, Nat.zero_le _, Only.refl _ _⟩
  case round =>
    obtain ⟨k, rfl, hk, hO⟩ := hrel
    rcases (by omega : k = 0 ∨ k = 1 ∨ k = 2 ∨ k = 3) with rfl | rfl | rfl | rfl
    · have HO := Lib.hid hO
      clear hO
      go_wp2
      go_region
      all_goals
        go_wp2
        go_roundw
        case rel => exact ⟨1, rfl, by decide, HO.out.drew⟩
        case measure => decide
    · have HO := Lib.hid hO
      clear hO
      go_wp2
      go_region
      all_goals
        go_wp2
        go_roundw
        case rel => exact ⟨2, rfl, by decide, HO.out.drew⟩
        case measure => decide
    · have HO := Lib.hid hO
      clear hO
      go_wp2
      go_region
      all_goals
        go_wp2
        go_roundw
        case rel => exact ⟨3, rfl, by decide, HO.out.drew⟩
        case measure => decide
    · have HO := Lib.hid hO
      clear hO
      go_wp2
      go_region
      all_goals
        go_wp2
        go_ret2
        exact ⟨rfl, HO.out.drew⟩

set_option maxRecDepth 100000 in
set_option maxHeartbeats 2000000 in
theorem escp_114 (s : ByteArray) (hs : 1 < s.size) (h1 : ((s[1]'hs).toNat : Int) = 114) (w : World) : Calls Tryz.prog 57 #[.string s, .int .u8 34] w fun e w' => e = .returned (.tuple #[.string ⟨#[13]⟩, .int .i64 2]) ∧ Only none w w' := by
  have hsi : (1 : Int) < s.size := by omega
  have hs2 : ¬ (s.size : Int) < 2 := by omega
  go_enter Tryz.func57, Tryz.ntmps57
  go_wp2
  go_loopw [7] (fun i W => ∃ k : Nat, i = .int .i64 ((2 * k : Nat) : Int) ∧ k ≤ 4 ∧ Only none w W) (fun i _ => 14 - (intOf i).toNat)
  case atStart => exact ⟨0, rfl, Nat.zero_le _, Only.refl _ _⟩
  case round =>
    obtain ⟨k, rfl, hk, hO⟩ := hrel
    rcases (by omega : k = 0 ∨ k = 1 ∨ k = 2 ∨ k = 3 ∨ k = 4) with rfl | rfl | rfl | rfl | rfl
    · have HO := Lib.hid hO
      clear hO
      go_wp2
      go_region
      all_goals
        go_wp2
        go_roundw
        case rel => exact ⟨1, rfl, by decide, HO.out.drew⟩
        case measure => decide
    · have HO := Lib.hid hO
      clear hO
      go_wp2
      go_region
      all_goals
        go_wp2
        go_roundw
        case rel => exact ⟨2, rfl, by decide, HO.out.drew⟩
        case measure => decide
    · have HO := Lib.hid hO
      clear hO
      go_wp2
      go_region
      all_goals
        go_wp2
        go_roundw
        case rel => exact ⟨3, rfl, by decide, HO.out.drew⟩
        case measure => decide
    · have HO := Lib.hid hO
      clear hO
      go_wp2
      go_region
      all_goals
        go_wp2
        go_roundw
        case rel => exact ⟨4, rfl, by decide, HO.out.drew⟩
        case measure => decide
    · have HO := Lib.hid hO
      clear hO
      go_wp2
      go_region
      all_goals
        go_wp2
        go_ret2
        exact ⟨rfl, HO.out.drew⟩

set_option maxRecDepth 100000 in
set_option maxHeartbeats 2000000 in
theorem escp_116 (s : ByteArray) (hs : 1 < s.size) (h1 : ((s[1]'hs).toNat : Int) = 116) (w : World) : Calls Tryz.prog 57 #[.string s, .int .u8 34] w fun e w' => e = .returned (.tuple #[.string ⟨#[9]⟩, .int .i64 2]) ∧ Only none w w' := by
  have hsi : (1 : Int) < s.size := by omega
  have hs2 : ¬ (s.size : Int) < 2 := by omega
  go_enter Tryz.func57, Tryz.ntmps57
  go_wp2
  go_loopw [7] (fun i W => ∃ k : Nat, i = .int .i64 ((2 * k : Nat) : Int) ∧ k ≤ 5 ∧ Only none w W) (fun i _ => 14 - (intOf i).toNat)
  case atStart => exact ⟨0, rfl, Nat.zero_le _, Only.refl _ _⟩
  case round =>
    obtain ⟨k, rfl, hk, hO⟩ := hrel
    rcases (by omega : k = 0 ∨ k = 1 ∨ k = 2 ∨ k = 3 ∨ k = 4 ∨ k = 5) with rfl | rfl | rfl | rfl | rfl | rfl
    · have HO := Lib.hid hO
      clear hO
      go_wp2
      go_region
      all_goals
        go_wp2
        go_roundw
        case rel => exact ⟨1, rfl, by decide, HO.out.drew⟩
        case measure => decide
    · have HO := Lib.hid hO
      clear hO
      go_wp2
      go_region
      all_goals
        go_wp2
        go_roundw
        case rel => exact ⟨2, rfl, by decide, HO.out.drew⟩
        case measure => decide
    · have HO := Lib.hid hO
      clear hO
      go_wp2
      go_region
      all_goals
        go_wp2
        go_roundw
        case rel => exact ⟨3, rfl, by decide, HO.out.drew⟩
        case measure => decide
    · have HO := Lib.hid hO
      clear hO
      go_wp2
      go_region
      all_goals
        go_wp2
        go_roundw
        case rel => exact ⟨4, rfl, by decide, HO.out.drew⟩
        case measure => decide
    · have HO := Lib.hid hO
      clear hO
      go_wp2
      go_region
      all_goals
        go_wp2
        go_roundw
        case rel => exact ⟨5, rfl, by decide, HO.out.drew⟩
        case measure => decide
    · have HO := Lib.hid hO
      clear hO
      go_wp2
      go_region
      all_goals
        go_wp2
        go_ret2
        exact ⟨rfl, HO.out.drew⟩

set_option maxRecDepth 100000 in
set_option maxHeartbeats 2000000 in
theorem escp_118 (s : ByteArray) (hs : 1 < s.size) (h1 : ((s[1]'hs).toNat : Int) = 118) (w : World) : Calls Tryz.prog 57 #[.string s, .int .u8 34] w fun e w' => e = .returned (.tuple #[.string ⟨#[11]⟩, .int .i64 2]) ∧ Only none w w' := by
  have hsi : (1 : Int) < s.size := by omega
  have hs2 : ¬ (s.size : Int) < 2 := by omega
  go_enter Tryz.func57, Tryz.ntmps57
  go_wp2
  go_loopw [7] (fun i W => ∃ k : Nat, i = .int .i64 ((2 * k : Nat) : Int) ∧ k ≤ 6 ∧ Only none w W) (fun i _ => 14 - (intOf i).toNat)
  case atStart => exact ⟨0, rfl, Nat.zero_le _, Only.refl _ _⟩
  case round =>
    obtain ⟨k, rfl, hk, hO⟩ := hrel
    rcases (by omega : k = 0 ∨ k = 1 ∨ k = 2 ∨ k = 3 ∨ k = 4 ∨ k = 5 ∨ k = 6) with rfl | rfl | rfl | rfl | rfl | rfl | rfl
    · have HO := Lib.hid hO
      clear hO
      go_wp2
      go_region
      all_goals
        go_wp2
        go_roundw
        case rel => exact ⟨1, rfl, by decide, HO.out.drew⟩
        case measure => decide
    · have HO := Lib.hid hO
      clear hO
      go_wp2
      go_region
      all_goals
        go_wp2
        go_roundw
        case rel => exact ⟨2, rfl, by decide, HO.out.drew⟩
        case measure => decide
    · have HO := Lib.hid hO
      clear hO
      go_wp2
      go_region
      all_goals
        go_wp2
        go_roundw
        case rel => exact ⟨3, rfl, by decide, HO.out.drew⟩
        case measure => decide
    · have HO := Lib.hid hO
      clear hO
      go_wp2
      go_region
      all_goals
        go_wp2
        go_roundw
        case rel => exact ⟨4, rfl, by decide, HO.out.drew⟩
        case measure => decide
    · have HO := Lib.hid hO
      clear hO
      go_wp2
      go_region
      all_goals
        go_wp2
        go_roundw
        case rel => exact ⟨5, rfl, by decide, HO.out.drew⟩
        case measure => decide
    · have HO := Lib.hid hO
      clear hO
      go_wp2
      go_region
      all_goals
        go_wp2
        go_roundw
        case rel => exact ⟨6, rfl, by decide, HO.out.drew⟩
        case measure => decide
    · have HO := Lib.hid hO
      clear hO
      go_wp2
      go_region
      all_goals
        go_wp2
        go_ret2
        exact ⟨rfl, HO.out.drew⟩

set_option maxRecDepth 100000 in
set_option maxHeartbeats 2000000 in
theorem escq_92 (s : ByteArray) (hs : 1 < s.size) (h1 : ((s[1]'hs).toNat : Int) = 92) (w : World) : Calls Tryz.prog 57 #[.string s, .int .u8 34] w fun e w' => e = .returned (.tuple #[.string (s.extract 1 2), .int .i64 2]) ∧ Only none w w' := by
  have hsi : (1 : Int) < s.size := by omega
  have hsi2 : (2 : Int) ≤ s.size := by omega
  have hs2 : ¬ (s.size : Int) < 2 := by omega
  go_enter Tryz.func57, Tryz.ntmps57
  go_wp2
  go_loopw [7] (fun i W => ∃ k : Nat, i = .int .i64 ((2 * k : Nat) : Int) ∧ k ≤ 7 ∧ Only none w W) (fun i _ => 14 - (intOf i).toNat)
  case atStart => exact ⟨0, rfl, Nat.zero_le _, Only.refl _ _⟩
  case round =>
    obtain ⟨k, rfl, hk, hO⟩ := hrel
    rcases (by omega : k = 0 ∨ k = 1 ∨ k = 2 ∨ k = 3 ∨ k = 4 ∨ k = 5 ∨ k = 6 ∨ k = 7) with rfl | rfl | rfl | rfl | rfl | rfl | rfl | rfl
    · have HO := Lib.hid hO
      clear hO
      go_wp2
      go_region
      all_goals
        go_wp2
        go_roundw
        case rel => exact ⟨1, rfl, by decide, HO.out.drew⟩
        case measure => decide
    · have HO := Lib.hid hO
      clear hO
      go_wp2
      go_region
      all_goals
        go_wp2
        go_roundw
        case rel => exact ⟨2, rfl, by decide, HO.out.drew⟩
        case measure => decide
    · have HO := Lib.hid hO
      clear hO
      go_wp2
      go_region
      all_goals
        go_wp2
        go_roundw
        case rel => exact ⟨3, rfl, by decide, HO.out.drew⟩
        case measure => decide
    · have HO := Lib.hid hO
      clear hO
      go_wp2
      go_region
      all_goals
        go_wp2
        go_roundw
        case rel => exact ⟨4, rfl, by decide, HO.out.drew⟩
        case measure => decide
    · have HO := Lib.hid hO
      clear hO
      go_wp2
      go_region
      all_goals
        go_wp2
        go_roundw
        case rel => exact ⟨5, rfl, by decide, HO.out.drew⟩
        case measure => decide
    · have HO := Lib.hid hO
      clear hO
      go_wp2
      go_region
      all_goals
        go_wp2
        go_roundw
        case rel => exact ⟨6, rfl, by decide, HO.out.drew⟩
        case measure => decide
    · have HO := Lib.hid hO
      clear hO
      go_wp2
      go_region
      all_goals
        go_wp2
        go_roundw
        case rel => exact ⟨7, rfl, by decide, HO.out.drew⟩
        case measure => decide
    · have HO := Lib.hid hO
      clear hO
      go_wp2
      go_ret2
      exact ⟨rfl, HO.out⟩

set_option maxRecDepth 100000 in
set_option maxHeartbeats 2000000 in
theorem escq_34 (s : ByteArray) (hs : 1 < s.size) (h1 : ((s[1]'hs).toNat : Int) = 34) (w : World) : Calls Tryz.prog 57 #[.string s, .int .u8 34] w fun e w' => e = .returned (.tuple #[.string (s.extract 1 2), .int .i64 2]) ∧ Only none w w' := by
  have hsi : (1 : Int) < s.size := by omega
  have hsi2 : (2 : Int) ≤ s.size := by omega
  have hs2 : ¬ (s.size : Int) < 2 := by omega
  go_enter Tryz.func57, Tryz.ntmps57
  go_wp2
  go_loopw [7] (fun i W => ∃ k : Nat, i = .int .i64 ((2 * k : Nat) : Int) ∧ k ≤ 7 ∧ Only none w W) (fun i _ => 14 - (intOf i).toNat)
  case atStart => exact ⟨0, rfl, Nat.zero_le _, Only.refl _ _⟩
  case round =>
    obtain ⟨k, rfl, hk, hO⟩ := hrel
    rcases (by omega : k = 0 ∨ k = 1 ∨ k = 2 ∨ k = 3 ∨ k = 4 ∨ k = 5 ∨ k = 6 ∨ k = 7) with rfl | rfl | rfl | rfl | rfl | rfl | rfl | rfl
    · have HO := Lib.hid hO
      clear hO
      go_wp2
      go_region
      all_goals
        go_wp2
        go_roundw
        case rel => exact ⟨1, rfl, by decide, HO.out.drew⟩
        case measure => decide
    · have HO := Lib.hid hO
      clear hO
      go_wp2
      go_region
      all_goals
        go_wp2
        go_roundw
        case rel => exact ⟨2, rfl, by decide, HO.out.drew⟩
        case measure => decide
    · have HO := Lib.hid hO
      clear hO
      go_wp2
      go_region
      all_goals
        go_wp2
        go_roundw
        case rel => exact ⟨3, rfl, by decide, HO.out.drew⟩
        case measure => decide
    · have HO := Lib.hid hO
      clear hO
      go_wp2
      go_region
      all_goals
        go_wp2
        go_roundw
        case rel => exact ⟨4, rfl, by decide, HO.out.drew⟩
        case measure => decide
    · have HO := Lib.hid hO
      clear hO
      go_wp2
      go_region
      all_goals
        go_wp2
        go_roundw
        case rel => exact ⟨5, rfl, by decide, HO.out.drew⟩
        case measure => decide
    · have HO := Lib.hid hO
      clear hO
      go_wp2
      go_region
      all_goals
        go_wp2
        go_roundw
        case rel => exact ⟨6, rfl, by decide, HO.out.drew⟩
        case measure => decide
    · have HO := Lib.hid hO
      clear hO
      go_wp2
      go_region
      all_goals
        go_wp2
        go_roundw
        case rel => exact ⟨7, rfl, by decide, HO.out.drew⟩
        case measure => decide
    · have HO := Lib.hid hO
      clear hO
      go_wp2
      go_ret2
      exact ⟨rfl, HO.out⟩

end Go.Proofs.YtcbliojofnigdaaGreatDoor
