/- FnTextsStay: the law's walk. -/
import Derived.Test.YtcbliojofnigdaaGreatDoorSprint
import Derived.Test.YtcbliojofnigdaaGreatDoorSpecLaw
namespace Go.Proofs.YtcbliojofnigdaaGreatDoor
open Go Go.Proofs Go.RowKit

theorem Only.below {w w' : World} (h : Only Option.none w w') : Below w.heap.size w w' := ⟨h.os, h.tape, h.output, h.size, fun k hk => h.other k hk (fun _ _ _ he => by cases he)⟩
theorem append_list (s t : ByteArray) : (s ++ t).data.toList = s.data.toList ++ t.data.toList := by
  rw [ByteArray.data_append, Array.toList_append]
theorem extract_one (t : ByteArray) (i : Nat) (h : i < t.size) : (t.extract i (i + 1)).data.toList = [t[i]] := by
  rw [ByteArray.data_extract, Array.toList_extract]
  have hl : i < t.data.toList.length := by rw [Array.length_toList]; exact h
  simp only [List.extract]
  rw [List.drop_eq_getElem_cons hl, show i + 1 - i = 1 by omega]
  simp only [List.take_succ_cons, List.take_zero]
  rfl
theorem take_next (t : ByteArray) (i : Nat) (h : i < t.size) : t.data.toList.take (i + 1) = t.data.toList.take i ++ [t[i]] := by
  have hl : i < t.data.toList.length := by rw [Array.length_toList]; exact h
  rw [List.take_succ_eq_append_getElem hl]
  rfl
theorem dbl_one (c : UInt8) : dbl [c] = if c = 37 then [37, 37] else [c] := by unfold dbl; split <;> rfl

theorem Sprintf_dbl (W : World) (t D : ByteArray) (ht : t.size ≤ 4096) (hD : D.data.toList = dbl t.data.toList) : Calls Tryz.prog 37 #[.string D, .slice none 0 0] W fun e w' => e = .returned (.string t) ∧ Only none W w' := by
  have hl : t.data.toList.length = t.size := by rw [Array.length_toList]; rfl
  have hd := dbl_len t.data.toList
  have hs : D.size = (dbl t.data.toList).length := by rw [size_list, hD]
  have hM := dpM_dbl (fun _ _ _ => none) D D.size [] t.data.toList ⟨ps0, 0, 0, false⟩ (by simpa using hD) rfl rfl (by omega)
  have e : (⟨t.data.toList.toArray⟩ : ByteArray) = t := str_eta t
  have := Sprintf_none W D (show _ ≤ _ by omega) t.data.toList hM (show _ ≤ _ by omega)
  rw [e] at this
  exact this

set_option maxRecDepth 100000 in
set_option maxHeartbeats 4000000 in
theorem FnTextsStay_walk (w : World) (t : ByteArray) (hs : t.size ≤ maxLen) : Calls Tryz.prog 13 #[.string t] w fun e w' => e = .returned (.bool true) ∧ Below w.heap.size w w' := by
  have hs0 : (t.size : Int) ≤ 9223372036854775807 := by unfold maxLen at hs; omega
  clear hs
  by_cases h1 : 2147483647 < (t.size : Int)
  · go_enter Tryz.func13, Tryz.ntmps13
    go_wp2
    go_ret
    exact ⟨rfl, Below.refl _ _⟩
  by_cases h2 : 4096 < (t.size : Int)
  · go_enter Tryz.func13, Tryz.ntmps13
    go_wp2
    go_ret
    exact ⟨rfl, Below.refl _ _⟩
  go_enter Tryz.func13, Tryz.ntmps13
  go_wp2
  go_loop [3, 4, 14] (fun a b c => ∃ (D : ByteArray) (hh : Bool) (i : Nat), a = .string D ∧ b = .bool hh ∧ c = .int .i64 i ∧ i ≤ t.size ∧ Hid (D.data.toList = dbl (t.data.toList.take i)) ∧ Hid (hh = false → ∀ x ∈ t.data.toList.take i, x ≠ 37)) (fun _ _ c => t.size - (intOf c).toNat)
  case atStart => exact ⟨_, false, 0, rfl, rfl, rfl, Nat.zero_le _, rfl, fun _ x hx => by simp at hx⟩
  case round =>
    obtain ⟨D, hh, i, rfl, rfl, rfl, hi, HD, HF⟩ := hrel
    by_cases hlt : i < t.size
    · have hDs : D.size ≤ 8192 := by
        have h1 := dbl_len (t.data.toList.take i)
        rw [← HD.out, ← size_list, List.length_take] at h1
        omega
      have q1 : ¬ 9223372036854775807 < D.size + (min (i + 1) t.size - i) := by omega
      have q2 : ¬ 9223372036854775807 < D.size + (min (i + 1) t.size - i) + 1 := by omega
      clear hDs
      have hb := bt_eq t i hlt
      have hb0 := bt_nonneg t i
      have hb1 := bt_le t i
      by_cases h37 : bt t i = 37
      · have hc : t[i] = 37 := UInt8.toNat_inj.1 (Int.ofNat.inj (hb.trans h37))
        rw [h37] at hb
        clear h37 hb0 hb1
        have HC := Lib.hid hc
        clear hc
        go_wp2
        go_round
        case rel =>
          refine ⟨_, true, i + 1, rfl, rfl, by go_num, by omega, ?_, fun h => by cases h⟩
          show _ = _
          rw [take_next t i hlt, dbl_app, append_list, append_list, extract_one t i hlt, HD.out, HC.out, List.append_assoc]
          rfl
        case measure => simp [intOf]; omega
      · have hc : t[i] ≠ 37 := fun h => h37 (by rw [← hb, h]; rfl)
        have HC := Lib.hid hc
        clear hc
        go_wp2
        go_round
        case rel =>
          refine ⟨_, hh, i + 1, rfl, rfl, by go_num, by omega, ?_, fun h x hx => ?_⟩
          · show _ = _
            rw [take_next t i hlt, dbl_app, append_list, extract_one t i hlt, HD.out, dbl_one, if_neg HC.out]
          · rw [take_next t i hlt] at hx
            rcases List.mem_append.1 hx with hx | hx
            · exact HF.out h x hx
            · rw [List.mem_singleton.1 hx]; exact HC.out
        case measure => simp [intOf]; omega
    · have hie : t.data.toList.take i = t.data.toList := by
        rw [List.take_of_length_le]
        rw [Array.length_toList]; show t.size ≤ i; omega
      have hD := HD.out
      rw [hie] at hD
      have C1 := fun W => Sprintf_dbl W t D (by omega) hD
      have HC1 := Lib.hid C1
      clear C1 hD HD
      cases hh
      · have hf := HF.out rfl
        rw [hie] at hf
        have C2 := fun W => Sprintf_dbl W t t (by omega) (dbl_self _ hf).symm
        have HC2 := Lib.hid C2
        clear C2 hf HF hie
        go_wp2_with (first | (go_at_call 37; refine (HC1.out _).mono ?_; rintro e w1 ⟨rfl, hO1⟩) | (go_at_call 37; refine (HC2.out _).mono ?_; rintro e w2 ⟨rfl, hO2⟩))
        go_ret
        exact ⟨rfl, (hO1.trans hO2).below⟩
      · clear HF hie
        go_wp2_with (go_at_call 37; refine (HC1.out _).mono ?_; rintro e w1 ⟨rfl, hO1⟩)
        go_ret
        exact ⟨rfl, hO1.below⟩
end Go.Proofs.YtcbliojofnigdaaGreatDoor
