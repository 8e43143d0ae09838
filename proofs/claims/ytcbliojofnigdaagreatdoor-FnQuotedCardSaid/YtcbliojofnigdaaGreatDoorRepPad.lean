/- The reference's small helpers: a byte so often, code points of ASCII, filling up. -/
import Derived.Test.YtcbliojofnigdaaGreatDoorDigits
namespace Go.Proofs.YtcbliojofnigdaaGreatDoor
open Go Go.Proofs Go.RowKit

/-- bytes, as a string -/
theorem buf_string26 {w : World} {v : Value} {xs : Bytes} (h : Buf w v xs) : (convert 26 9 v).run Tryz.prog w = .ok (.string ⟨xs.toArray⟩) w := by
  rcases h with ⟨rfl, rfl⟩ | ⟨b, o, c, cs, e, rfl, hbb, h1, h2, h3, h4⟩
  · exact Lib.run_convert_nil_bytes w 26 9 5 0 Tryz.underlying26 Tryz.underlying5 Tryz.underlying9
  · refine run_convert_bytes_back w 26 9 5 ⟨b, o, none⟩ c xs Tryz.underlying26 Tryz.underlying5 Tryz.underlying9 ?_
    intro j hj
    rw [Addr.add_lit]
    simp [World.cell?, hbb, h4 j hj, u8]

theorem Only.fresh0 {w w1 w2 : World} {b o c : Nat} (h : Only Option.none w w1) (hb : b = w.heap.size) (k : Only (some (b, o, c)) w1 w2) : Only Option.none w w2 := h.fresh (by omega) k

set_option maxRecDepth 100000 in
set_option maxHeartbeats 2000000 in
theorem repeated_any (c : Int) (h0 : 0 ≤ c) (h1 : c ≤ 255) (n : Int) (hn : n ≤ 100000000) (w : World) : Calls Tryz.prog 46 #[.int .u8 c, .int .i64 n] w fun e w' => e = .returned (.string ⟨(rep (B c) n).toArray⟩) ∧ Only none w w' := by
  obtain ⟨m, hm⟩ : ∃ m, m = n.toNat := ⟨_, rfl⟩
  have hmax : max 0 n = (m : Int) := by omega
  have hr : Room m := by unfold Room; omega
  have hrep : rep (B c) n = List.replicate m (B c) := by rw [hm]; rfl
  rw [hrep]
  clear hrep hm
  go_enter Tryz.func46, Tryz.ntmps46
  go_wp2_with (at_make; refine wpList_mk rfl _ _ 26 rfl 5 Tryz.underlying26 byte5 .i64 .i64 _ _ m rfl rfl (by omega) (by omega) hr ?_)
  all_goals
    intro w1 hB hO _
    have hB0 := hB.take 0 (Nat.zero_le m)
    rw [List.take_zero] at hB0
    have hA0 := App.refl hB0
    obtain ⟨g, hg⟩ : ∃ g, g = w.heap.size := ⟨_, rfl⟩
    rw [← hg] at hA0 ⊢
    have HO := Lib.hid hO
    have HG := Lib.hid hg
    have hm' : (m : Int) ≤ 100000000 := by omega
    clear hB hB0 hO hr hg
    go_wp2
    go_loopw [12] (fun i wr => ∃ k : Nat, k ≤ m ∧ i = .int .i64 k ∧ App w1 (.slice (some ⟨g, 0, none⟩) 0 m) wr (.slice (some ⟨g, 0, none⟩) k m) (List.replicate k (B c))) (fun i _ => m - (intOf i).toNat)
    case atStart => exact ⟨0, Nat.zero_le _, rfl, hA0⟩
    case round =>
      obtain ⟨k, hk, rfl, hA⟩ := hrel
      by_cases hlt : k < m
      · try (exfalso; omega)
        all_goals
          obtain ⟨u, hu⟩ := hA.cellFree k hlt
          have hf := hA.frz (0 + k)
          have hS := hA.store (by simp) hlt (B c)
          rw [u8_B h0 h1] at hS
          rw [Nat.zero_add] at hu hf hS
          have HS := Lib.hid hS
          clear hS hA hA0
          go_wp2
          go_roundw
          case rel => exact ⟨k + 1, by omega, by go_num, by rw [List.replicate_succ']; exact HS.out⟩
          case measure => simp [intOf]; omega
      · have hkm : k = m := by omega
        subst hkm
        have q := buf_string26 hA.buf
        have hN : Only none w wr := HO.out.fresh0 HG.out hA.only
        have HN := Lib.hid hN
        clear hN hA0 hA
        go_wp2
        go_ret
        exact ⟨rfl, HN.out⟩

/-- all bytes are below 128 -/
def Ascii (t : ByteArray) : Prop := ∀ i, i < t.size → bt t i < 128

set_option maxRecDepth 100000 in
set_option maxHeartbeats 1000000 in
theorem Width_ascii (t : ByteArray) (h : 0 < t.size) (hb : bt t 0 < 128) (w : World) : Calls Tryz.prog 56 #[.string t] w fun e w' => e = .returned (.int .i64 1) ∧ w = w' := by
  have hx := bt_eq t 0 h
  have hb0 := bt_nonneg t 0
  have hz0 : (0 : Int) < (t.size : Int) := by omega
  go_enter Tryz.func56, Tryz.ntmps56
  go_wp2
  go_ret
  exact ⟨rfl, rfl⟩

theorem ext_size (t : ByteArray) (i : Nat) (h : i ≤ t.size) : (t.extract i t.size).size = t.size - i := by rw [ByteArray.size_extract]; omega
theorem ext_all (t : ByteArray) : t.extract 0 t.size = t := by
  have : (t.extract 0 t.size).data.toList = t.data.toList := by simp
  rw [← str_eta (t.extract 0 t.size), this, str_eta]
theorem ext_ext (t : ByteArray) (i : Nat) (h : i < t.size) : (t.extract i t.size).extract 1 (t.size - i) = t.extract (i + 1) t.size := by
  rw [ByteArray.extract_extract]
  congr 1
  omega

set_option maxRecDepth 100000 in
set_option maxHeartbeats 1000000 in
theorem Runes_ascii (t : ByteArray) (ha : Ascii t) (hs : t.size ≤ 100000000) (w : World) : Calls Tryz.prog 45 #[.string t] w fun e w' => e = .returned (.int .i64 t.size) ∧ w = w' := by
  have HA := Lib.hid ha
  clear ha
  go_enter Tryz.func45, Tryz.ntmps45
  go_wp2
  go_loop [0, 3] (fun a b => ∃ i : Nat, i ≤ t.size ∧ a = .string (t.extract i t.size) ∧ b = .int .i64 i) (fun _ b => t.size - (intOf b).toNat)
  case atStart => exact ⟨0, Nat.zero_le _, by rw [ext_all], rfl⟩
  case round =>
    obtain ⟨i, hi, rfl, rfl⟩ := hrel
    obtain ⟨u, hu⟩ : ∃ u, u = t.extract i t.size := ⟨_, rfl⟩
    have hus : u.size = t.size - i := by rw [hu]; exact ext_size t i hi
    rw [← hu]
    have HU := Lib.hid hu
    clear hu
    by_cases hlt : i < t.size
    · have hu0 : 0 < u.size := by omega
      have C : ∀ W, Calls Tryz.prog 56 #[.string u] W fun e w' => e = .returned (.int .i64 1) ∧ W = w' := fun W => Width_ascii u hu0 (by rw [HU.out, (bt_extract t i hlt).2]; exact HA.out i hlt) W
      have HC := Lib.hid C
      clear C
      go_wp2_with (go_at_call 56; refine (HC.out _).mono ?_; rintro e w' ⟨rfl, rfl⟩)
      go_round
      case rel => exact ⟨i + 1, by omega, by rw [HU.out, ext_ext t i hlt], by go_num⟩
      case measure => simp [intOf]; omega
    · have hie : i = t.size := by omega
      have hu0 : u.size = 0 := by omega
      go_wp2
      go_ret
      exact ⟨rfl, rfl⟩

theorem runes_ascii {t : ByteArray} (ha : Ascii t) : runes t.data.toList = t.size := by
  unfold runes
  rw [str_eta]
  refine Lib.runeCount_ascii t fun j h => ?_
  have h1 := ha j h
  rw [← bt_eq t j h] at h1
  omega
theorem rep_none (c : UInt8) (n : Int) (h : n ≤ 0) : rep c n = [] := by unfold rep; rw [Int.toNat_of_nonpos h]; rfl
theorem str_app (S : ByteArray) (T : Bytes) : (⟨T.toArray⟩ : ByteArray) ++ S = ⟨(T ++ S.data.toList).toArray⟩ := (str_of (by rw [append_list])).symm
theorem app_str (S : ByteArray) (T : Bytes) : S ++ (⟨T.toArray⟩ : ByteArray) = ⟨(S.data.toList ++ T).toArray⟩ := (str_of (by rw [append_list])).symm

set_option maxRecDepth 100000 in
set_option maxHeartbeats 2000000 in
theorem Pad_any (f : SF) (s : ByteArray) (ha : Ascii s) (hs : s.size ≤ 1000000) (hf0 : 0 ≤ f.wid) (hf1 : f.wid ≤ 1000000) (w : World) : Calls Tryz.prog 22 #[f.val, .string s] w fun e w' => e = .returned (.string ⟨(specPad f s.data.toList).toArray⟩) ∧ Only none w w' := by
  have hrn := runes_ascii ha
  obtain ⟨wid, prec, hasWid, hasPrec, minus, plus, sharp, space, zero⟩ := f
  simp only at hf0 hf1
  have C : ∀ W, Calls Tryz.prog 45 #[.string s] W fun e w' => e = .returned (.int .i64 s.size) ∧ W = w' := fun W => Runes_ascii s ha (by omega) W
  have C2 : ∀ (c : Int) W, 0 ≤ c → c ≤ 255 → Calls Tryz.prog 46 #[.int .u8 c, .int .i64 (wid - s.size)] W fun e w' => e = .returned (.string ⟨(rep (B c) (wid - s.size)).toArray⟩) ∧ Only none W w' := fun c W h0 h1 => repeated_any c h0 h1 _ (by omega) W
  have HC := Lib.hid C
  have HC2 := Lib.hid C2
  have hrl : (rep (B 32) (wid - s.size)).length ≤ 1000000 := by unfold rep; rw [List.length_replicate]; omega
  have hrl2 : (rep (B 48) (wid - s.size)).length ≤ 1000000 := by unfold rep; rw [List.length_replicate]; omega
  have hp : ∀ c, ¬ 9223372036854775807 < s.size + (rep (B c) (wid - s.size)).length ∧ ¬ 9223372036854775807 < (rep (B c) (wid - s.size)).length + s.size := by
    intro c
    have : (rep (B c) (wid - s.size)).length ≤ 1000000 := by unfold rep; rw [List.length_replicate]; omega
    omega
  have p32 := hp 32
  have p48 := hp 48
  clear C C2 hp hrl hrl2
  cases hasWid
  · have e : specPad ⟨wid, prec, false, hasPrec, minus, plus, sharp, space, zero⟩ s.data.toList = s.data.toList := rfl
    have e2 : (⟨s.data.toList.toArray⟩ : ByteArray) = s := str_eta s
    rw [e, e2]
    unfold SF.val
    clear e e2 p32 p48
    go_enter Tryz.func22, Tryz.ntmps22
    go_wp2
    go_ret
    exact ⟨rfl, (Only.refl _ _).alloc _⟩
  · cases minus
    · cases zero
      · have e : specPad ⟨wid, prec, true, hasPrec, false, plus, sharp, space, false⟩ s.data.toList = rep (B 32) (wid - s.size) ++ s.data.toList := by unfold specPad; rw [hrn]; rfl
        rw [e, ← str_app]
        obtain ⟨z, hz⟩ : ∃ z : ByteArray, z = ⟨(rep (B 32) (wid - s.size)).toArray⟩ := ⟨_, rfl⟩
        have hzs : z.size = (rep (B 32) (wid - s.size)).length := by rw [hz]; exact str_size _
        rw [← hzs] at p32
        rw [← hz]
        have C := HC2.out 32
        rw [← hz] at C
        have HC3 := Lib.hid C
        unfold SF.val
        clear e p48 hrn C hz hzs HC2
        go_enter Tryz.func22, Tryz.ntmps22
        go_wp2_with fail
        go_region_with (go_at_call 45; refine (HC.out _).mono ?_; rintro e w' ⟨rfl, rfl⟩)
        all_goals
          go_wp2_with (go_at_call 46; refine (HC3.out _ (by decide) (by decide)).mono ?_; rintro e w' ⟨rfl, hO⟩)
          go_ret
          exact ⟨rfl, by first | exact (((Only.refl _ _).alloc _).drew).trans hO | exact ((((Only.refl _ _).alloc _).drew).drew).trans hO | exact ((Only.refl _ _).alloc _).trans hO⟩
      · have e : specPad ⟨wid, prec, true, hasPrec, false, plus, sharp, space, true⟩ s.data.toList = rep (B 48) (wid - s.size) ++ s.data.toList := by unfold specPad; rw [hrn]; rfl
        rw [e, ← str_app]
        obtain ⟨z, hz⟩ : ∃ z : ByteArray, z = ⟨(rep (B 48) (wid - s.size)).toArray⟩ := ⟨_, rfl⟩
        have hzs : z.size = (rep (B 48) (wid - s.size)).length := by rw [hz]; exact str_size _
        rw [← hzs] at p48
        rw [← hz]
        have C := HC2.out 48
        rw [← hz] at C
        have HC3 := Lib.hid C
        unfold SF.val
        clear e p32 hrn C hz hzs HC2
        go_enter Tryz.func22, Tryz.ntmps22
        go_wp2_with fail
        go_region_with (go_at_call 45; refine (HC.out _).mono ?_; rintro e w' ⟨rfl, rfl⟩)
        all_goals
          go_wp2_with (go_at_call 46; refine (HC3.out _ (by decide) (by decide)).mono ?_; rintro e w' ⟨rfl, hO⟩)
          go_ret
          exact ⟨rfl, by first | exact (((Only.refl _ _).alloc _).drew).trans hO | exact ((((Only.refl _ _).alloc _).drew).drew).trans hO | exact ((Only.refl _ _).alloc _).trans hO⟩
    · have e : specPad ⟨wid, prec, true, hasPrec, true, plus, sharp, space, zero⟩ s.data.toList = s.data.toList ++ rep (B 32) (wid - s.size) := by unfold specPad; rw [hrn]; rfl
      rw [e, ← app_str]
      obtain ⟨z, hz⟩ : ∃ z : ByteArray, z = ⟨(rep (B 32) (wid - s.size)).toArray⟩ := ⟨_, rfl⟩
      have hzs : z.size = (rep (B 32) (wid - s.size)).length := by rw [hz]; exact str_size _
      rw [← hzs] at p32
      rw [← hz]
      have C := HC2.out 32
      rw [← hz] at C
      have HC3 := Lib.hid C
      unfold SF.val
      clear e p48 hrn C hz hzs HC2
      go_enter Tryz.func22, Tryz.ntmps22
      go_wp2_with fail
      go_region_with (go_at_call 45; refine (HC.out _).mono ?_; rintro e w' ⟨rfl, rfl⟩)
      all_goals
        go_wp2_with (go_at_call 46; refine (HC3.out _ (by decide) (by decide)).mono ?_; rintro e w' ⟨rfl, hO⟩)
        go_ret
        exact ⟨rfl, by first | exact (((Only.refl _ _).alloc _).drew).trans hO | exact ((((Only.refl _ _).alloc _).drew).drew).trans hO | exact ((Only.refl _ _).alloc _).trans hO⟩

end Go.Proofs.YtcbliojofnigdaaGreatDoor
