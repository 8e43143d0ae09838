/- spec.escape at x and two digits, u and four, U and eight (printed by tools/gen_unq2.py). -/
import Derived.Test.YtcbliojofnigdaaGreatDoorUnq1
import Derived.Test.YtcbliojofnigdaaGreatDoorArg
import Derived.Test.YtcbliojofnigdaaGreatDoorCharSpec
set_option linter.unusedVariables false
set_option linter.unusedSimpArgs false
namespace Go.Proofs.YtcbliojofnigdaaGreatDoor
open Go Go.Proofs Go.RowKit

theorem bytesRow_cell (W : World) (X : ByteArray) (n g j : Nat) (fr : Nat × Nat) (hg : g = W.heap.size) (hn : X.size ≤ n) (hm : n ≤ maxLen) (hj : j < X.size) : (W.alloc (.cells (bytesRow X n) 5 fr)).cell? ⟨g, j, none⟩ = some (.int .u8 (X.get! j).toNat) := by
  obtain ⟨g', c, cs, fr', he, _, hh, _, _, _, h⟩ := newBytes_of (W := W) (t := X) 0 g n hg (Nat.zero_le _) hn hm fr
  cases he
  have hl : j < X.data.toList.length := by rw [Array.length_toList]; exact hj
  have := h j hl
  simp only [World.cell?, hh, Option.bind_some]
  have e : X.data.toList[j] = X.get! j := by
    cases X with
    | mk d => show _ = d[j]!; rw [getElem!_pos d j hj]; simp
  rw [e] at this
  simpa [u8] using this
theorem dig_step (r p d : Nat) (h : d = r / p % 16) : r / (16 * p) * 16 + d = r / p := by
  rw [h, Nat.mul_comm 16 p, ← Nat.div_div_eq_div_mul]
  omega

set_option maxRecDepth 100000 in
set_option maxHeartbeats 4000000 in
theorem esch_120 (s : ByteArray) (r : Nat) (hr : r < 256)  (hs : 4 ≤ s.size) (hs1 : 1 < s.size) (h1 : ((s[1]'hs1).toNat : Int) = 120) (hd : ∀ i, i < 2 → ((s.get! (2 + i)).toNat : Int) = Lib.hexDigit (r / 16 ^ (2 - 1 - i) % 16)) (w : World) :
    Calls Tryz.prog 57 #[.string s, .int .u8 34] w fun e w' => e = .returned (.tuple #[.string ⟨#[B r]⟩, .int .i64 4]) ∧ Only none w w' := by
  have hsi : (1 : Int) < s.size := by omega
  have hs2 : ¬ (s.size : Int) < 2 := by omega
  have hs3 : ¬ (s.size : Int) < 4 := by omega
  have hs4 : (4 : Int) ≤ s.size := by omega
  obtain ⟨X, hX⟩ : ∃ X : ByteArray, s.extract 2 4 = X := ⟨_, rfl⟩
  have hXs : X.size = 2 := by rw [← hX, ByteArray.size_extract]; omega
  have hXd : ∀ i, i < 2 → ((X.get! i).toNat : Int) = Lib.hexDigit (r / 16 ^ (2 - 1 - i) % 16) := by
    intro i hi
    rw [← hd i hi, ← hX]
    have e1 := bt_eq (s.extract 2 4) i (by rw [hX, hXs]; exact hi)
    have e2 := bt_eq s (2 + i) (by omega)
    rw [ByteArray.getElem_extract] at e1
    have e3 := e1.symm.trans e2
    exact e3
  have HXD := Lib.hid hXd
  have q := fun W => run_bytes_of_string (P := Tryz.prog) W 9 26 5 X Tryz.underlying9 Tryz.underlying26 Tryz.underlying5
  have C72 := fun d hd W => hex_any d hd W
  have H72 := Lib.hid C72
  have HR := Lib.hid hr
  have q1 := kcOne (B r) r (by unfold u8 B; simp; omega)
  skip
  skip
  skip
  skip
  skip
  clear hd hXd C72 hr hs 
  go_enter Tryz.func57, Tryz.ntmps57
  go_wp2
  go_loopw [7] (fun i W => ∃ k : Nat, i = .int .i64 ((2 * k : Nat) : Int) ∧ k ≤ 7 ∧ Only none w W) (fun i _ => 14 - (intOf i).toNat)
  case atStart => exact ⟨0, rfl, Nat.zero_le _, Only.refl _ _⟩
  case round =>
    obtain ⟨k, rfl, hk, hO⟩ := hrel
    rcases (by omega : k = 0 ∨ k = 1 ∨ k = 2 ∨ k = 3 ∨ k = 4 ∨ k = 5 ∨ k = 6 ∨ k = 7) with rfl | rfl | rfl | rfl | rfl | rfl | rfl | rfl
    · have HO := Lib.hid hO
      clear hO
      go_wp2
      go_region
      all_goals
        go_wp2
        go_roundw
        case rel => exact ⟨1, rfl, by decide, HO.out.drew⟩
        case measure => decide
    · have HO := Lib.hid hO
      clear hO
      go_wp2
      go_region
      all_goals
        go_wp2
        go_roundw
        case rel => exact ⟨2, rfl, by decide, HO.out.drew⟩
        case measure => decide
    · have HO := Lib.hid hO
      clear hO
      go_wp2
      go_region
      all_goals
        go_wp2
        go_roundw
        case rel => exact ⟨3, rfl, by decide, HO.out.drew⟩
        case measure => decide
    · have HO := Lib.hid hO
      clear hO
      go_wp2
      go_region
      all_goals
        go_wp2
        go_roundw
        case rel => exact ⟨4, rfl, by decide, HO.out.drew⟩
        case measure => decide
    · have HO := Lib.hid hO
      clear hO
      go_wp2
      go_region
      all_goals
        go_wp2
        go_roundw
        case rel => exact ⟨5, rfl, by decide, HO.out.drew⟩
        case measure => decide
    · have HO := Lib.hid hO
      clear hO
      go_wp2
      go_region
      all_goals
        go_wp2
        go_roundw
        case rel => exact ⟨6, rfl, by decide, HO.out.drew⟩
        case measure => decide
    · have HO := Lib.hid hO
      clear hO
      go_wp2
      go_region
      all_goals
        go_wp2
        go_roundw
        case rel => exact ⟨7, rfl, by decide, HO.out.drew⟩
        case measure => decide
    · have HO := Lib.hid hO
      clear hO
      have HG := Lib.hid hX
      go_wp2
      go_loopw [11, 86] (fun v i W => ∃ (k x : Nat), i = .int .i64 k ∧ v = .int .i64 x ∧ k ≤ 2 ∧ x ≤ 4294967295 ∧ Only none w W ∧ (∀ j, j < 2 → W.cell? ⟨wr.heap.size, j, none⟩ = some (.int .u8 (X.get! j).toNat)) ∧ Hid (x = r / 16 ^ (2 - k))) (fun _ i _ => 2 - (intOf i).toNat)
      case atStart =>
        refine ⟨0, 0, rfl, rfl, Nat.zero_le _, by decide, ?_, ?_, ?_⟩
        · first | exact (HO.out.drew).alloc _ | exact (HO.out.alloc _).drew | exact ((HO.out.drew).alloc _).drew
        · intro j hj
          have hm : grownCap wr 2 0 5 ≤ maxLen := grownCap_le_maxLen _ _ _ _ (by decide)
          have hn := grownCap_ge wr 2 0 5
          have := bytesRow_cell wr X (grownCap wr 2 0 5) wr.heap.size j ((bytesRow X (grownCap wr 2 0 5)).size, (bytesRow X (grownCap wr 2 0 5)).size + 1) rfl (by rw [hXs]; exact hn) hm (by rw [hXs]; exact hj)
          exact this
        · show _ = _
          rw [Nat.sub_zero]
          exact (Nat.div_eq_of_lt HR.out).symm
      case round =>
        obtain ⟨k, x, rfl, rfl, hk, hx, hO2, hcl, HX⟩ := hrel
        by_cases hlt : k < 2
        · obtain ⟨d, hdd⟩ : ∃ d, d = r / 16 ^ (2 - 1 - k) % 16 := ⟨_, rfl⟩
          have hd16 : d < 16 := by omega
          have hcell := hcl k hlt
          have hxk := HXD.out k hlt
          rw [← hdd] at hxk
          rw [hxk] at hcell
          have C := H72.out d hd16
          have hnx : x * 16 + d = r / 16 ^ (2 - (k + 1)) := by
            rw [HX.out, show 2 - k = (2 - 1 - k) + 1 by omega, Nat.pow_succ, Nat.mul_comm (16 ^ (2 - 1 - k)) 16, show 2 - (k + 1) = 2 - 1 - k by omega]
            exact dig_step r (16 ^ (2 - 1 - k)) d hdd
          have hle : x * 16 + d ≤ 4294967295 := by
            rw [hnx]
            exact Nat.le_trans (Nat.div_le_self _ _) (by have := HR.out; omega)
          have hd0 : ¬ (d : Int) < 0 := by omega
          have hd1 : ¬ (16 : Int) ≤ d := by omega
          have HN := Lib.hid (And.intro hnx hle)
          have HC := Lib.hid C
          have HCL := Lib.hid (And.intro hcl hO2)
          clear C hnx hle hcl hO2 hxk hdd HX H72 HXD
          go_wp2_with (go_at_call 72; refine (HC.out _).mono ?_; rintro e w2 ⟨rfl, rfl⟩)
          go_roundw
          case rel =>
            refine ⟨_, _, _, _, _, _, ⟨k + 1, rfl, x * 16 + d, rfl, by omega, HN.out.2, HCL.out.2, HCL.out.1, HN.out.1⟩, rfl, rfl, ?_, rfl, rfl, ?_⟩ <;> first | rfl | go_num | simp
          case measure => simp [intOf]; omega
        · obtain rfl : k = 2 := by omega
          have hxr : x = r := by rw [HX.out, Nat.sub_self, Nat.pow_zero, Nat.div_one]
          subst hxr
          have HO2 := Lib.hid hO2
          have hx255 : ¬ (255 : Int) < x := by have := HR.out; omega
          have hx8 : IntKind.u8.wrap (x : Int) = x := by rw [IntKind.wrap_u8]; have := HR.out; omega
          clear hO2 hcl HX HXD H72 hx
          go_wp2_with fail
          go_ret2
          exact ⟨rfl, HO2.out.alloc _⟩

set_option maxRecDepth 100000 in
set_option maxHeartbeats 4000000 in
theorem esch_117 (s : ByteArray) (r : Nat) (hr : r < 65536) (hv : r < 55296 ∨ (57343 < r ∧ r ≤ 1114111)) (hs : 6 ≤ s.size) (hs1 : 1 < s.size) (h1 : ((s[1]'hs1).toNat : Int) = 117) (hd : ∀ i, i < 4 → ((s.get! (2 + i)).toNat : Int) = Lib.hexDigit (r / 16 ^ (4 - 1 - i) % 16)) (w : World) :
    Calls Tryz.prog 57 #[.string s, .int .u8 34] w fun e w' => e = .returned (.tuple #[.string ⟨(encB r).toArray⟩, .int .i64 6]) ∧ Only none w w' := by
  have hsi : (1 : Int) < s.size := by omega
  have hs2 : ¬ (s.size : Int) < 2 := by omega
  have hs3 : ¬ (s.size : Int) < 6 := by omega
  have hs4 : (6 : Int) ≤ s.size := by omega
  obtain ⟨X, hX⟩ : ∃ X : ByteArray, s.extract 2 6 = X := ⟨_, rfl⟩
  have hXs : X.size = 4 := by rw [← hX, ByteArray.size_extract]; omega
  have hXd : ∀ i, i < 4 → ((X.get! i).toNat : Int) = Lib.hexDigit (r / 16 ^ (4 - 1 - i) % 16) := by
    intro i hi
    rw [← hd i hi, ← hX]
    have e1 := bt_eq (s.extract 2 6) i (by rw [hX, hXs]; exact hi)
    have e2 := bt_eq s (2 + i) (by omega)
    rw [ByteArray.getElem_extract] at e1
    have e3 := e1.symm.trans e2
    exact e3
  have HXD := Lib.hid hXd
  have q := fun W => run_bytes_of_string (P := Tryz.prog) W 9 26 5 X Tryz.underlying9 Tryz.underlying26 Tryz.underlying5
  have C72 := fun d hd W => hex_any d hd W
  have H72 := Lib.hid C72
  have HR := Lib.hid hr
  have CS := fun W => Scalar_yes r (by omega) W
  have CE := fun W => Encoded_any r (by omega) (by omega) W
  obtain ⟨E, hE⟩ : ∃ E : ByteArray, E = ⟨(encB r).toArray⟩ := ⟨_, rfl⟩
  rw [← hE] at CE ⊢
  have HS := Lib.hid CS
  have HE := Lib.hid CE
  clear hd hXd C72 hr hs hv CS CE hE
  go_enter Tryz.func57, Tryz.ntmps57
  go_wp2
  go_loopw [7] (fun i W => ∃ k : Nat, i = .int .i64 ((2 * k : Nat) : Int) ∧ k ≤ 7 ∧ Only none w W) (fun i _ => 14 - (intOf i).toNat)
  case atStart => exact ⟨0, rfl, Nat.zero_le _, Only.refl _ _⟩
  case round =>
    obtain ⟨k, rfl, hk, hO⟩ := hrel
    rcases (by omega : k = 0 ∨ k = 1 ∨ k = 2 ∨ k = 3 ∨ k = 4 ∨ k = 5 ∨ k = 6 ∨ k = 7) with rfl | rfl | rfl | rfl | rfl | rfl | rfl | rfl
    · have HO := Lib.hid hO
      clear hO
      go_wp2
      go_region
      all_goals
        go_wp2
        go_roundw
        case rel => exact ⟨1, rfl, by decide, HO.out.drew⟩
        case measure => decide
    · have HO := Lib.hid hO
      clear hO
      go_wp2
      go_region
      all_goals
        go_wp2
        go_roundw
        case rel => exact ⟨2, rfl, by decide, HO.out.drew⟩
        case measure => decide
    · have HO := Lib.hid hO
      clear hO
      go_wp2
      go_region
      all_goals
        go_wp2
        go_roundw
        case rel => exact ⟨3, rfl, by decide, HO.out.drew⟩
        case measure => decide
    · have HO := Lib.hid hO
      clear hO
      go_wp2
      go_region
      all_goals
        go_wp2
        go_roundw
        case rel => exact ⟨4, rfl, by decide, HO.out.drew⟩
        case measure => decide
    · have HO := Lib.hid hO
      clear hO
      go_wp2
      go_region
      all_goals
        go_wp2
        go_roundw
        case rel => exact ⟨5, rfl, by decide, HO.out.drew⟩
        case measure => decide
    · have HO := Lib.hid hO
      clear hO
      go_wp2
      go_region
      all_goals
        go_wp2
        go_roundw
        case rel => exact ⟨6, rfl, by decide, HO.out.drew⟩
        case measure => decide
    · have HO := Lib.hid hO
      clear hO
      go_wp2
      go_region
      all_goals
        go_wp2
        go_roundw
        case rel => exact ⟨7, rfl, by decide, HO.out.drew⟩
        case measure => decide
    · have HO := Lib.hid hO
      clear hO
      have HG := Lib.hid hX
      go_wp2
      go_loopw [11, 86] (fun v i W => ∃ (k x : Nat), i = .int .i64 k ∧ v = .int .i64 x ∧ k ≤ 4 ∧ x ≤ 4294967295 ∧ Only none w W ∧ (∀ j, j < 4 → W.cell? ⟨wr.heap.size, j, none⟩ = some (.int .u8 (X.get! j).toNat)) ∧ Hid (x = r / 16 ^ (4 - k))) (fun _ i _ => 4 - (intOf i).toNat)
      case atStart =>
        refine ⟨0, 0, rfl, rfl, Nat.zero_le _, by decide, ?_, ?_, ?_⟩
        · first | exact (HO.out.drew).alloc _ | exact (HO.out.alloc _).drew | exact ((HO.out.drew).alloc _).drew
        · intro j hj
          have hm : grownCap wr 4 0 5 ≤ maxLen := grownCap_le_maxLen _ _ _ _ (by decide)
          have hn := grownCap_ge wr 4 0 5
          have := bytesRow_cell wr X (grownCap wr 4 0 5) wr.heap.size j ((bytesRow X (grownCap wr 4 0 5)).size, (bytesRow X (grownCap wr 4 0 5)).size + 1) rfl (by rw [hXs]; exact hn) hm (by rw [hXs]; exact hj)
          exact this
        · show _ = _
          rw [Nat.sub_zero]
          exact (Nat.div_eq_of_lt HR.out).symm
      case round =>
        obtain ⟨k, x, rfl, rfl, hk, hx, hO2, hcl, HX⟩ := hrel
        by_cases hlt : k < 4
        · obtain ⟨d, hdd⟩ : ∃ d, d = r / 16 ^ (4 - 1 - k) % 16 := ⟨_, rfl⟩
          have hd16 : d < 16 := by omega
          have hcell := hcl k hlt
          have hxk := HXD.out k hlt
          rw [← hdd] at hxk
          rw [hxk] at hcell
          have C := H72.out d hd16
          have hnx : x * 16 + d = r / 16 ^ (4 - (k + 1)) := by
            rw [HX.out, show 4 - k = (4 - 1 - k) + 1 by omega, Nat.pow_succ, Nat.mul_comm (16 ^ (4 - 1 - k)) 16, show 4 - (k + 1) = 4 - 1 - k by omega]
            exact dig_step r (16 ^ (4 - 1 - k)) d hdd
          have hle : x * 16 + d ≤ 4294967295 := by
            rw [hnx]
            exact Nat.le_trans (Nat.div_le_self _ _) (by have := HR.out; omega)
          have hd0 : ¬ (d : Int) < 0 := by omega
          have hd1 : ¬ (16 : Int) ≤ d := by omega
          have HN := Lib.hid (And.intro hnx hle)
          have HC := Lib.hid C
          have HCL := Lib.hid (And.intro hcl hO2)
          clear C hnx hle hcl hO2 hxk hdd HX H72 HXD
          go_wp2_with (go_at_call 72; refine (HC.out _).mono ?_; rintro e w2 ⟨rfl, rfl⟩)
          go_roundw
          case rel =>
            refine ⟨_, _, _, _, _, _, ⟨k + 1, rfl, x * 16 + d, rfl, by omega, HN.out.2, HCL.out.2, HCL.out.1, HN.out.1⟩, rfl, rfl, ?_, rfl, rfl, ?_⟩ <;> first | rfl | go_num | simp
          case measure => simp [intOf]; omega
        · obtain rfl : k = 4 := by omega
          have hxr : x = r := by rw [HX.out, Nat.sub_self, Nat.pow_zero, Nat.div_one]
          subst hxr
          have HO2 := Lib.hid hO2
          have hw64 : IntKind.u64.wrap (x : Int) = x := by rw [IntKind.wrap_u64]; omega
          have hw65 : (x : Int) % 18446744073709551616 = x := by omega
          clear hO2 hcl HX HXD H72 hx
          go_wp2_with (first | (go_at_call 24; refine (HS.out _).mono ?_; rintro e w3 ⟨rfl, hO3⟩) | (go_at_call 25; refine (HE.out _).mono ?_; rintro e w4 ⟨rfl, hO4⟩))
          go_ret2
          exact ⟨rfl, (HO2.out.trans hO3).trans hO4⟩

set_option maxRecDepth 100000 in
set_option maxHeartbeats 4000000 in
theorem esch_85 (s : ByteArray) (r : Nat) (hr : r < 4294967296) (hv : r < 55296 ∨ (57343 < r ∧ r ≤ 1114111)) (hs : 10 ≤ s.size) (hs1 : 1 < s.size) (h1 : ((s[1]'hs1).toNat : Int) = 85) (hd : ∀ i, i < 8 → ((s.get! (2 + i)).toNat : Int) = Lib.hexDigit (r / 16 ^ (8 - 1 - i) % 16)) (w : World) :
    Calls Tryz.prog 57 #[.string s, .int .u8 34] w fun e w' => e = .returned (.tuple #[.string ⟨(encB r).toArray⟩, .int .i64 10]) ∧ Only none w w' := by
  have hsi : (1 : Int) < s.size := by omega
  have hs2 : ¬ (s.size : Int) < 2 := by omega
  have hs3 : ¬ (s.size : Int) < 10 := by omega
  have hs4 : (10 : Int) ≤ s.size := by omega
  obtain ⟨X, hX⟩ : ∃ X : ByteArray, s.extract 2 10 = X := ⟨_, rfl⟩
  have hXs : X.size = 8 := by rw [← hX, ByteArray.size_extract]; omega
  have hXd : ∀ i, i < 8 → ((X.get! i).toNat : Int) = Lib.hexDigit (r / 16 ^ (8 - 1 - i) % 16) := by
    intro i hi
    rw [← hd i hi, ← hX]
    have e1 := bt_eq (s.extract 2 10) i (by rw [hX, hXs]; exact hi)
    have e2 := bt_eq s (2 + i) (by omega)
    rw [ByteArray.getElem_extract] at e1
    have e3 := e1.symm.trans e2
    exact e3
  have HXD := Lib.hid hXd
  have q := fun W => run_bytes_of_string (P := Tryz.prog) W 9 26 5 X Tryz.underlying9 Tryz.underlying26 Tryz.underlying5
  have C72 := fun d hd W => hex_any d hd W
  have H72 := Lib.hid C72
  have HR := Lib.hid hr
  have CS := fun W => Scalar_yes r (by omega) W
  have CE := fun W => Encoded_any r (by omega) (by omega) W
  obtain ⟨E, hE⟩ : ∃ E : ByteArray, E = ⟨(encB r).toArray⟩ := ⟨_, rfl⟩
  rw [← hE] at CE ⊢
  have HS := Lib.hid CS
  have HE := Lib.hid CE
  clear hd hXd C72 hr hs hv CS CE hE
  go_enter Tryz.func57, Tryz.ntmps57
  go_wp2
  go_loopw [7] (fun i W => ∃ k : Nat, i = .int .i64 ((2 * k : Nat) : Int) ∧ k ≤ 7 ∧ Only none w W) (fun i _ => 14 - (intOf i).toNat)
  case atStart => exact ⟨0, rfl, Nat.zero_le _, Only.refl _ _⟩
  case round =>
    obtain ⟨k, rfl, hk, hO⟩ := hrel
    rcases (by omega : k = 0 ∨ k = 1 ∨ k = 2 ∨ k = 3 ∨ k = 4 ∨ k = 5 ∨ k = 6 ∨ k = 7) with rfl | rfl | rfl | rfl | rfl | rfl | rfl | rfl
    · have HO := Lib.hid hO
      clear hO
      go_wp2
      go_region
      all_goals
        go_wp2
        go_roundw
        case rel => exact ⟨1, rfl, by decide, HO.out.drew⟩
        case measure => decide
    · have HO := Lib.hid hO
      clear hO
      go_wp2
      go_region
      all_goals
        go_wp2
        go_roundw
        case rel => exact ⟨2, rfl, by decide, HO.out.drew⟩
        case measure => decide
    · have HO := Lib.hid hO
      clear hO
      go_wp2
      go_region
      all_goals
        go_wp2
        go_roundw
        case rel => exact ⟨3, rfl, by decide, HO.out.drew⟩
        case measure => decide
    · have HO := Lib.hid hO
      clear hO
      go_wp2
      go_region
      all_goals
        go_wp2
        go_roundw
        case rel => exact ⟨4, rfl, by decide, HO.out.drew⟩
        case measure => decide
    · have HO := Lib.hid hO
      clear hO
      go_wp2
      go_region
      all_goals
        go_wp2
        go_roundw
        case rel => exact ⟨5, rfl, by decide, HO.out.drew⟩
        case measure => decide
    · have HO := Lib.hid hO
      clear hO
      go_wp2
      go_region
      all_goals
        go_wp2
        go_roundw
        case rel => exact ⟨6, rfl, by decide, HO.out.drew⟩
        case measure => decide
    · have HO := Lib.hid hO
      clear hO
      go_wp2
      go_region
      all_goals
        go_wp2
        go_roundw
        case rel => exact ⟨7, rfl, by decide, HO.out.drew⟩
        case measure => decide
    · have HO := Lib.hid hO
      clear hO
      have HG := Lib.hid hX
      go_wp2
      go_loopw [11, 86] (fun v i W => ∃ (k x : Nat), i = .int .i64 k ∧ v = .int .i64 x ∧ k ≤ 8 ∧ x ≤ 4294967295 ∧ Only none w W ∧ (∀ j, j < 8 → W.cell? ⟨wr.heap.size, j, none⟩ = some (.int .u8 (X.get! j).toNat)) ∧ Hid (x = r / 16 ^ (8 - k))) (fun _ i _ => 8 - (intOf i).toNat)
      case atStart =>
        refine ⟨0, 0, rfl, rfl, Nat.zero_le _, by decide, ?_, ?_, ?_⟩
        · first | exact (HO.out.drew).alloc _ | exact (HO.out.alloc _).drew | exact ((HO.out.drew).alloc _).drew
        · intro j hj
          have hm : grownCap wr 8 0 5 ≤ maxLen := grownCap_le_maxLen _ _ _ _ (by decide)
          have hn := grownCap_ge wr 8 0 5
          have := bytesRow_cell wr X (grownCap wr 8 0 5) wr.heap.size j ((bytesRow X (grownCap wr 8 0 5)).size, (bytesRow X (grownCap wr 8 0 5)).size + 1) rfl (by rw [hXs]; exact hn) hm (by rw [hXs]; exact hj)
          exact this
        · show _ = _
          rw [Nat.sub_zero]
          exact (Nat.div_eq_of_lt HR.out).symm
      case round =>
        obtain ⟨k, x, rfl, rfl, hk, hx, hO2, hcl, HX⟩ := hrel
        by_cases hlt : k < 8
        · obtain ⟨d, hdd⟩ : ∃ d, d = r / 16 ^ (8 - 1 - k) % 16 := ⟨_, rfl⟩
          have hd16 : d < 16 := by omega
          have hcell := hcl k hlt
          have hxk := HXD.out k hlt
          rw [← hdd] at hxk
          rw [hxk] at hcell
          have C := H72.out d hd16
          have hnx : x * 16 + d = r / 16 ^ (8 - (k + 1)) := by
            rw [HX.out, show 8 - k = (8 - 1 - k) + 1 by omega, Nat.pow_succ, Nat.mul_comm (16 ^ (8 - 1 - k)) 16, show 8 - (k + 1) = 8 - 1 - k by omega]
            exact dig_step r (16 ^ (8 - 1 - k)) d hdd
          have hle : x * 16 + d ≤ 4294967295 := by
            rw [hnx]
            exact Nat.le_trans (Nat.div_le_self _ _) (by have := HR.out; omega)
          have hd0 : ¬ (d : Int) < 0 := by omega
          have hd1 : ¬ (16 : Int) ≤ d := by omega
          have HN := Lib.hid (And.intro hnx hle)
          have HC := Lib.hid C
          have HCL := Lib.hid (And.intro hcl hO2)
          clear C hnx hle hcl hO2 hxk hdd HX H72 HXD
          go_wp2_with (go_at_call 72; refine (HC.out _).mono ?_; rintro e w2 ⟨rfl, rfl⟩)
          go_roundw
          case rel =>
            refine ⟨_, _, _, _, _, _, ⟨k + 1, rfl, x * 16 + d, rfl, by omega, HN.out.2, HCL.out.2, HCL.out.1, HN.out.1⟩, rfl, rfl, ?_, rfl, rfl, ?_⟩ <;> first | rfl | go_num | simp
          case measure => simp [intOf]; omega
        · obtain rfl : k = 8 := by omega
          have hxr : x = r := by rw [HX.out, Nat.sub_self, Nat.pow_zero, Nat.div_one]
          subst hxr
          have HO2 := Lib.hid hO2
          have hw64 : IntKind.u64.wrap (x : Int) = x := by rw [IntKind.wrap_u64]; omega
          have hw65 : (x : Int) % 18446744073709551616 = x := by omega
          clear hO2 hcl HX HXD H72 hx
          go_wp2_with (first | (go_at_call 24; refine (HS.out _).mono ?_; rintro e w3 ⟨rfl, hO3⟩) | (go_at_call 25; refine (HE.out _).mono ?_; rintro e w4 ⟨rfl, hO4⟩))
          go_ret2
          exact ⟨rfl, (HO2.out.trans hO3).trans hO4⟩

end Go.Proofs.YtcbliojofnigdaaGreatDoor
