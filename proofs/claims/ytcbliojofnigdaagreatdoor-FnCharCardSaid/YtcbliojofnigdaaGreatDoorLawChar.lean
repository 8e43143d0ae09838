/- FnChar: the law's walk. -/
import Derived.Test.YtcbliojofnigdaaGreatDoorCharSpec
namespace Go.Proofs.YtcbliojofnigdaaGreatDoor
open Go Go.Proofs Go.RowKit

theorem one_plain (vb : UInt8) (hv : verbB vb) (hvw : vb.toNat ≠ 119) (h118 : vb.toNat ≠ 118) {z : LA} {a : Arg} {pa : Arg → Int → Fl → Option Bytes} (hz : Known [z] [a]) (hpa : ∀ b, PaOk b pa a) (x : Bytes) (hx : Fits (x.length + 1000000000)) (hq : pa a vb.toNat {} = some x) (w : World) :
    Calls Tryz.prog 20 #[.string ⟨#[37, vb]⟩, z.val] w fun e w' => e = .returned (.string ⟨x.toArray⟩) ∧ Only none w w' :=
  one_fl false false false false false 0 none (by decide) (fun _ h => by cases h) vb hv hvw hz hpa x hx (by
    have : (flOf false false false false false 0 none).forVerb vb.toNat = {} := by unfold Fl.forVerb; rw [if_neg (by omega)]; rfl
    rw [this]; exact hq) w

set_option maxRecDepth 100000 in
set_option maxHeartbeats 1000000 in
theorem FnChar_great (z : LA) (h : 2147483647 < z.text.size) (w : World) :
    Calls Tryz.prog 6 #[z.val] w fun e w' => e = .returned (.bool true) ∧ Below w.heap.size w w' := by
  have C16 := fun W => zzFits2_no z h W
  obtain ⟨zk, zb, zt⟩ := z
  unfold LA.val at C16 ⊢
  dsimp only at C16
  have H16 := Lib.hid C16
  clear C16 h
  go_enter Tryz.func6, Tryz.ntmps6
  go_wp2_with (go_at_call 16; refine (H16.out _).mono ?_; rintro e w2 ⟨rfl, hO2⟩)
  go_ret
  exact ⟨rfl, Only.below (((Only.refl _ _).alloc _).trans hO2)⟩

set_option maxRecDepth 100000 in
set_option maxHeartbeats 1000000 in
theorem FnChar_other (z : LA) (hz : z.text.size ≤ 2147483647) (h : z.kind < 2 ∨ 12 < z.kind) (w : World) :
    Calls Tryz.prog 6 #[z.val] w fun e w' => e = .returned (.bool true) ∧ Below w.heap.size w w' := by
  have C16 := fun W => zzFits2_yes z hz W
  have C18 := fun W => Integer_no z h W
  obtain ⟨zk, zb, zt⟩ := z
  unfold LA.val at C16 C18 ⊢
  dsimp only at C16 C18
  have H16 := Lib.hid C16
  have H18 := Lib.hid C18
  clear C16 C18 h hz
  go_enter Tryz.func6, Tryz.ntmps6
  go_wp2_with (first
    | (go_at_call 16; refine (H16.out _).mono ?_; rintro e w2 ⟨rfl, hO2⟩; have hc2 := fun j => only_cellAt hO2 (k := w.heap.size) (by simp) j)
    | (go_at_call 18; refine (H18.out _).mono ?_; rintro e w3 ⟨rfl, hO3⟩))
  go_ret
  exact ⟨rfl, Only.below ((((Only.refl _ _).alloc _).trans hO2).trans hO3)⟩

set_option maxRecDepth 100000 in
set_option maxHeartbeats 1000000 in
theorem FnChar_no (z : LA) (hz : z.text.size ≤ 2147483647) (u : Int) (sg : Bool) (C18 : ∀ w : World, Calls Tryz.prog 18 #[z.val] w fun e w' => e = .returned (.tuple #[.int .u64 u, .bool sg, .bool true]) ∧ Only none w w') (hu : ¬ (u < 55296 ∨ 57343 < u ∧ u ≤ 1114111)) (w : World) :
    Calls Tryz.prog 6 #[z.val] w fun e w' => e = .returned (.bool true) ∧ Below w.heap.size w w' := by
  have C16 := fun W => zzFits2_yes z hz W
  have C24 := fun W => Scalar_no u hu W
  obtain ⟨zk, zb, zt⟩ := z
  unfold LA.val at C16 C18 ⊢
  dsimp only at C16 C18
  have H16 := Lib.hid C16
  have H18 := Lib.hid C18
  have H24 := Lib.hid C24
  clear C16 C18 C24 hu hz
  go_enter Tryz.func6, Tryz.ntmps6
  go_wp2_with (first
    | (go_at_call 16; refine (H16.out _).mono ?_; rintro e w2 ⟨rfl, hO2⟩; have hc2 := fun j => only_cellAt hO2 (k := w.heap.size) (by simp) j)
    | (go_at_call 18; refine (H18.out _).mono ?_; rintro e w3 ⟨rfl, hO3⟩)
    | (go_at_call 24; refine (H24.out _).mono ?_; rintro e w4 ⟨rfl, hO4⟩))
  go_ret
  exact ⟨rfl, Only.below (((((Only.refl _ _).alloc _).trans hO2).trans hO3).trans hO4)⟩

set_option maxRecDepth 100000 in
set_option maxHeartbeats 4000000 in
theorem FnChar_yes (z : LA) (hz : z.text.size ≤ 2147483647) (u : Nat) (hu : u < 55296 ∨ 57343 < u ∧ u ≤ 1114111) (sg : Bool)
    (C18 : ∀ w : World, Calls Tryz.prog 18 #[z.val] w fun e w' => e = .returned (.tuple #[.int .u64 u, .bool sg, .bool true]) ∧ Only none w w')
    (C20a : ∀ w : World, Calls Tryz.prog 20 #[.string ⟨#[37, 99]⟩, z.val] w fun e w' => e = .returned (.string ⟨(encB u).toArray⟩) ∧ Only none w w')
    (C20b : ∀ w : World, Calls Tryz.prog 20 #[.string ⟨#[37, 85]⟩, z.val] w fun e w' => e = .returned (.string ⟨(uniM u).toArray⟩) ∧ Only none w w') (w : World) :
    Calls Tryz.prog 6 #[z.val] w fun e w' => e = .returned (.bool true) ∧ Below w.heap.size w w' := by
  have C16 := fun W => zzFits2_yes z hz W
  have C24 := fun W => Scalar_yes u (by omega) W
  have C25 := fun W => Encoded_any u (by omega) (by omega) W
  have C23 := fun W => Digits_16u u (by omega) W
  have hdl := digits16_len u (by omega)
  obtain ⟨ds, hds⟩ : ∃ ds, ds = digits 16 true 64 u := ⟨_, rfl⟩
  have huni : uniM u = 85 :: 43 :: intZeros 4 ds := by rw [hds]; rfl
  rw [← hds] at C23 hdl
  have hu0 : u ≤ 1114111 := by omega
  obtain ⟨zk, zb, zt⟩ := z
  unfold LA.val at C16 C18 C20a C20b ⊢
  dsimp only at C16 C18 C20a C20b
  obtain ⟨E, hE⟩ : ∃ E : ByteArray, E = ⟨(encB u).toArray⟩ := ⟨_, rfl⟩
  obtain ⟨U, hU⟩ : ∃ U : ByteArray, U = ⟨(uniM u).toArray⟩ := ⟨_, rfl⟩
  rw [← hE] at C20a C25
  rw [← hU] at C20b
  have H16 := Lib.hid C16
  have H18 := Lib.hid C18
  have H24 := Lib.hid C24
  have H25 := Lib.hid C25
  have H23 := Lib.hid C23
  have Ha := Lib.hid C20a
  have Hb := Lib.hid C20b
  have HX := Lib.hid (And.intro hdl (hU.trans (congrArg (fun l : Bytes => (⟨l.toArray⟩ : ByteArray)) huni)))
  clear C16 C18 C24 C25 C23 C20a C20b hu hz hE hU hds hdl huni
  go_enter Tryz.func6, Tryz.ntmps6
  go_wp2_with (first
    | (go_at_call 16; refine (H16.out _).mono ?_; rintro e w2 ⟨rfl, hO2⟩; have hc2 := fun j => only_cellAt hO2 (k := w.heap.size) (by simp) j; have hs2 : w.heap.size < w2.heap.size := Nat.lt_of_lt_of_le (by simp) hO2.size)
    | (go_at_call 18; refine (H18.out _).mono ?_; rintro e w3 ⟨rfl, hO3⟩; have hc3 := fun j => only_cellAt hO3 (k := w.heap.size) (by first | assumption | omega) j; have hs3 : w.heap.size < w3.heap.size := Nat.lt_of_lt_of_le (by first | assumption | omega) hO3.size)
    | (go_at_call 24; refine (H24.out _).mono ?_; rintro e w4 ⟨rfl, hO4⟩; have hc4 := fun j => only_cellAt hO4 (k := w.heap.size) (by first | assumption | omega) j; have hs4 : w.heap.size < w4.heap.size := Nat.lt_of_lt_of_le (by first | assumption | omega) hO4.size)
    | (go_at_call 23; refine (H23.out _).mono ?_; rintro e w5 ⟨rfl, rfl⟩))
  go_loop [6] (fun d => ∃ s : ByteArray, d = .string s ∧ s.size ≤ 16 ∧ Hid (intZeros 4 ds = intZeros 4 s.data.toList)) (fun d => match d with | .string s => 4 - s.size | _ => 0)
  case atStart => exact ⟨_, rfl, by have := HX.out.1; rw [str_size]; exact this, rfl⟩
  case round =>
    obtain ⟨s, rfl, hs, HZ⟩ := hrel
    by_cases hlt : s.size < 4
    · have hs4 : (s.size : Int) < 4 := by omega
      have hroom : ¬ 9223372036854775807 < 1 + s.size := by omega
      go_wp2
      go_round
      case rel =>
        refine ⟨_, rfl, by rw [ByteArray.size_append]; show 1 + s.size ≤ 16; omega, ?_⟩
        show _ = _
        rw [HZ.out, intZeros_step 4 s.data.toList (by rw [← size_list]; exact hs4), append_list]
        rfl
      case measure =>
        show 4 - ByteArray.size (_ ++ s) < 4 - s.size
        rw [ByteArray.size_append]
        show 4 - (1 + s.size) < 4 - s.size
        omega
    · have hs4 : ¬ (s.size : Int) < 4 := by omega
      have hz2 : intZeros 4 ds = s.data.toList := HZ.out.trans (intZeros_stop 4 _ (by rw [← size_list]; omega))
      have hU : U = (⟨#[85, 43]⟩ : ByteArray) ++ s := by
        rw [HX.out.2, hz2]
        exact str_of (by rw [append_list]; rfl)
      subst hU
      have hroom : ¬ 9223372036854775807 < 2 + s.size := by omega
      clear hz2 HZ HX
      go_wp2_with (first
    | (go_at_call 20; first | (refine (Ha.out _).mono ?_; rintro e w6 ⟨rfl, hO6⟩; have hc6 := fun j => only_cellAt hO6 (k := w.heap.size) (by first | assumption | omega) j; have hs6 : w.heap.size < w6.heap.size := Nat.lt_of_lt_of_le (by first | assumption | omega) hO6.size) | (refine (Hb.out _).mono ?_; rintro e w8 ⟨rfl, hO8⟩))
    | (go_at_call 25; refine (H25.out _).mono ?_; rintro e w7 ⟨rfl, hO7⟩; have hc7 := fun j => only_cellAt hO7 (k := w.heap.size) (by first | assumption | omega) j; have hs7 : w.heap.size < w7.heap.size := Nat.lt_of_lt_of_le (by first | assumption | omega) hO7.size))
      go_ret
      exact ⟨rfl, Only.below (((((((((Only.refl _ _).alloc _).trans hO2).trans hO3).trans hO4).trans hO6).trans hO7).trans hO8))⟩

theorem FnChar_walk (z : LA) (h0 : 0 ≤ z.bits) (h1 : z.bits ≤ 18446744073709551615) (w : World) :
    Calls Tryz.prog 6 #[z.val] w fun e w' => e = .returned (.bool true) ∧ Below w.heap.size w w' := by
  by_cases hz : z.text.size ≤ 2147483647
  · by_cases hk : 2 ≤ z.kind ∧ z.kind ≤ 12
    · obtain ⟨ty, kd, n, hz', C18⟩ := Integer_yes z hk h0 h1
      have hu0 : 0 ≤ uN n := by unfold uN; omega
      obtain ⟨u, hu⟩ := Int.eq_ofNat_of_zero_le hu0
      by_cases hs : u < 55296 ∨ 57343 < u ∧ u ≤ 1114111
      · have hle : uN n ≤ 1114111 := by omega
        have hlen := encB_length (u : Int)
        refine FnChar_yes z hz u hs (sgK kd) (by rw [← hu]; exact C18) (fun W => ?_) (fun W => ?_) w
        · refine one_plain 99 (by unfold verbB; decide) (by decide) (by decide) (known_one hz' h0 h1) (fun b => paC_ok b ty kd n) _ (by show _ ≤ _; omega) ?_ W
          unfold paC
          simp only
          rw [if_pos ⟨hle, trivial, trivial⟩, if_pos (show ((UInt8.toNat 99 : Nat) : Int) = 99 from rfl), hu]
          rfl
        · have := digits16_len u (by omega)
          refine one_plain 85 (by unfold verbB; decide) (by decide) (by decide) (known_one hz' h0 h1) (fun b => paC_ok b ty kd n) _ (by show _ ≤ _; unfold uniM intZeros; simp only [List.length_cons, List.length_append, List.length_replicate]; omega) ?_ W
          unfold paC
          simp only
          rw [if_pos ⟨hle, trivial, trivial⟩, if_neg (show ¬ ((UInt8.toNat 85 : Nat) : Int) = 99 by decide), if_pos (show ((UInt8.toNat 85 : Nat) : Int) = 85 from rfl), hu]
          rfl
      · exact FnChar_no z hz (uN n) (sgK kd) C18 (by omega) w
    · exact FnChar_other z hz (by omega) w
  · exact FnChar_great z (by omega) w

end Go.Proofs.YtcbliojofnigdaaGreatDoor
