/- FnBytesList: the law's walk. -/
import Derived.Test.YtcbliojofnigdaaGreatDoorBytesW
import Derived.Test.YtcbliojofnigdaaGreatDoorDigits
import Derived.Test.YtcbliojofnigdaaGreatDoorOne
namespace Go.Proofs.YtcbliojofnigdaaGreatDoor
open Go Go.Proofs Go.RowKit

theorem one_bare (vb : UInt8) (hv : verbB vb) (hvw : vb.toNat ≠ 119) {z : LA} {a : Arg} {pa : Arg → Int → Fl → Option Bytes} (hz : Known [z] [a]) (hpa : ∀ b, PaOk b pa a) (x : Bytes) (hx : Fits (x.length + 1000000000)) (hq : pa a vb.toNat {} = some x) (w : World) :
    Calls Tryz.prog 20 #[.string ⟨#[37, vb]⟩, z.val] w fun e w' => e = .returned (.string ⟨x.toArray⟩) ∧ Only none w w' :=
  one_fl false false false false false 0 none (by decide) (fun _ h => by cases h) vb hv hvw hz hpa x hx (by
    have : (flOf false false false false false 0 none).forVerb vb.toNat = {} := by unfold Fl.forVerb; split <;> rfl
    rw [this]; exact hq) w

/-- the text of bytes, as the law says it -/
theorem bytes_one (t : ByteArray) (ht : t.size ≤ 4096) (vb : UInt8) (hvb : vb = 118 ∨ vb = 100) (w : World) :
    Calls Tryz.prog 20 #[.string ⟨#[37, vb]⟩, .agg #[.int .i64 16, .int .u64 0, .string t]] w fun e w' => e = .returned (.string ⟨(91 :: (nums t.data.toList ++ [93])).toArray⟩) ∧ Only none w w' := by
  have hz : argOf ⟨16, 0, t⟩ = some (.bytes t.data.toList) := by
    unfold argOf
    simp only
    rw [if_neg (by decide), if_neg (by decide), if_neg (by decide), if_neg (by decide), if_neg (by decide), if_neg (by decide), if_neg (by decide), if_neg (by decide), if_neg (by decide), if_neg (by decide), if_neg (by decide), if_neg (by decide), if_neg (by decide), if_neg (by decide), if_pos trivial, if_pos (by omega)]
  have hl := nums_len t.data.toList
  rw [← size_list] at hl
  have hfit : Fits ((91 :: (nums t.data.toList ++ [93]) : Bytes).length + 1000000000) := by
    show _ ≤ 35184372088832
    simp only [List.length_cons, List.length_append, List.length_nil]
    omega
  refine one_bare vb (by rcases hvb with rfl | rfl <;> (unfold verbB; decide)) (by rcases hvb with rfl | rfl <;> decide) (known_one hz (Int.le_refl 0) (show (0 : Int) ≤ 18446744073709551615 by decide)) (fun b => paBy_ok b _) _ hfit ?_ w
  unfold paBy
  simp only
  rw [if_pos ⟨by rcases hvb with rfl | rfl <;> decide, by decide⟩]

set_option maxRecDepth 100000 in
set_option maxHeartbeats 2000000 in
theorem FnBytesList_walk (t : ByteArray) (hs : t.size ≤ maxLen) (y : Bool) (w : World) : Calls Tryz.prog 5 #[.string t, .bool y] w fun e w' => e = .returned (.bool true) ∧ Below w.heap.size w w' := by
  have hs0 : (t.size : Int) ≤ 9223372036854775807 := by unfold maxLen at hs; omega
  clear hs
  by_cases h1 : 2147483647 < (t.size : Int)
  · go_enter Tryz.func5, Tryz.ntmps5
    go_wp2
    go_ret
    exact ⟨rfl, Below.refl _ _⟩
  by_cases h2 : 4096 < (t.size : Int)
  · go_enter Tryz.func5, Tryz.ntmps5
    go_wp2
    go_ret
    exact ⟨rfl, Below.refl _ _⟩
  have C20 := fun vb hvb W => bytes_one t (by omega) vb hvb W
  have Cd := C20 100 (.inr rfl)
  have Cv := C20 118 (.inl rfl)
  have C23 : ∀ (n : Int), 0 ≤ n → n ≤ 255 → ∀ W, Calls Tryz.prog 23 #[.int .u64 n, .int .i64 10, .bool false] W fun e w' => e = .returned (.string ⟨(digits 10 false 64 n.toNat).toArray⟩) ∧ W = w' := by
    intro n h0 h1 W
    obtain ⟨m, rfl⟩ := Int.eq_ofNat_of_zero_le h0
    exact Digits_10 m (by omega) W
  obtain ⟨T, hT⟩ : ∃ T, T = t.data.toList := ⟨_, rfl⟩
  rw [← hT] at Cd Cv
  obtain ⟨X, hX⟩ : ∃ X : ByteArray, X = ⟨(91 :: (nums T ++ [93])).toArray⟩ := ⟨_, rfl⟩
  rw [← hX] at Cd Cv
  have HD := Lib.hid Cd
  have HV := Lib.hid Cv
  have H23 := Lib.hid C23
  have HX := Lib.hid (And.intro hT hX)
  clear C20 Cd Cv C23 hX hT
  go_enter Tryz.func5, Tryz.ntmps5
  go_wp2
  go_loop [5, 6, 16] (fun a b c => ∃ (D : ByteArray) (i : Nat), a = .string D ∧ c = .int .i64 i ∧ i ≤ t.size ∧ Hid (D.data.toList = 91 :: nums (T.take i))) (fun _ _ c => t.size - (intOf c).toNat)
  case atStart => exact ⟨_, 0, rfl, rfl, Nat.zero_le _, rfl⟩
  case round =>
    obtain ⟨D, i, rfl, rfl, hi, HS⟩ := hrel
    have hDs : D.size ≤ 16385 := by
      have h1 := nums_len (T.take i)
      have h2 : D.size = (91 :: nums (T.take i) : Bytes).length := by rw [size_list, HS.out]
      rw [List.length_cons] at h2
      rw [List.length_take] at h1
      have h3 : T.length = t.size := by rw [HX.out.1, ← size_list]
      omega
    by_cases hlt : i < t.size
    · have hb := bt_eq t i hlt
      have hb0 := bt_nonneg t i
      have hb1 := bt_le t i
      obtain ⟨n, hn⟩ : ∃ n, n = bt t i := ⟨_, rfl⟩
      rw [← hn] at hb hb0 hb1
      have hTi : i < T.length := by rw [HX.out.1, ← size_list]; exact hlt
      have hnx := nums_take T i hTi
      have hdc : decC T[i] = digits 10 false 64 n.toNat := by
        unfold decC
        congr 1
        rw [← hb]
        have : T[i] = t[i] := by simp only [HX.out.1]; rfl
        rw [this]
        rfl
      rw [hdc] at hnx
      have hdl := digits_len 10 false (by decide) 2 64 n.toNat (by omega)
      have C := H23.out n hb0 hb1
      obtain ⟨S, hS⟩ : ∃ S : ByteArray, S = ⟨(digits 10 false 64 n.toNat).toArray⟩ := ⟨_, rfl⟩
      have hSs : S.size ≤ 3 := by rw [hS, str_size]; exact hdl
      have hSd : S.data.toList = digits 10 false 64 n.toNat := by rw [hS]
      rw [← hS] at C
      rw [← hSd] at hnx
      have HC := Lib.hid C
      have HN := Lib.hid hnx
      clear C hnx hdc hdl hS hSd hn HD HV H23 hTi
      have q1 : ¬ 9223372036854775807 < D.size + 1 := by omega
      have q2 : ¬ 9223372036854775807 < D.size + S.size := by omega
      have q3 : ¬ 9223372036854775807 < D.size + 1 + S.size := by omega
      by_cases hi0 : i = 0
      · subst hi0
        go_wp2_with (go_at_call 23; refine (HC.out _).mono ?_; rintro e w2 ⟨rfl, rfl⟩)
        go_round
        case rel =>
          refine ⟨_, 1, rfl, rfl, by omega, ?_⟩
          show _ = _
          rw [append_list, HS.out, HN.out]
          simp [nums]
        case measure => simp [intOf]; omega
      · have hi1 : (0 : Int) < i := by omega
        go_wp2_with (go_at_call 23; refine (HC.out _).mono ?_; rintro e w2 ⟨rfl, rfl⟩)
        go_round
        case rel =>
          refine ⟨_, i + 1, rfl, by go_num, by omega, ?_⟩
          show _ = _
          rw [append_list, append_list, HS.out, HN.out, if_neg hi0]
          simp
        case measure => simp [intOf]; omega
    · obtain rfl : i = t.size := by omega
      have e : X = D ++ ⟨#[93]⟩ := by
        rw [HX.out.2]
        refine str_of ?_
        rw [append_list, HS.out, HX.out.1, size_list, List.take_length]
        rfl
      subst e
      have q1 : ¬ 9223372036854775807 < D.size + 1 := by omega
      clear HS H23 HX
      cases y with
      | true =>
        go_wp2_with (go_at_call 20; refine (HV.out _).mono ?_; rintro e w2 ⟨rfl, hO⟩)
        go_ret
        exact ⟨rfl, Only.below hO⟩
      | false =>
        go_wp2_with (go_at_call 20; refine (HD.out _).mono ?_; rintro e w2 ⟨rfl, hO⟩)
        go_ret
        exact ⟨rfl, Only.below hO⟩

end Go.Proofs.YtcbliojofnigdaaGreatDoor
