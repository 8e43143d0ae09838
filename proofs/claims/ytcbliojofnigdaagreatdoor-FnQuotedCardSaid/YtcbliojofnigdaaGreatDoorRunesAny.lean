/- spec.Runes, First, Pad at every text. -/
import Derived.Test.YtcbliojofnigdaaGreatDoorWidthAny
import Derived.Lib.RuneCount
set_option linter.unusedVariables false
set_option linter.unusedSimpArgs false
namespace Go.Proofs.YtcbliojofnigdaaGreatDoor
open Go Go.Proofs Go.RowKit

theorem get_out (t : ByteArray) (i : Nat) (h : ¬ i < t.size) : t.get! i = 0 := by
  cases t with
  | mk d =>
    show d[i]! = 0
    rw [getElem!_neg d i h]
    rfl
theorem get_ext (t : ByteArray) (p j : Nat) : (t.extract p t.size).get! j = t.get! (p + j) := by
  by_cases h : p + j < t.size
  · have hs : j < (t.extract p t.size).size := by rw [ByteArray.size_extract]; omega
    have e1 := bt_eq (t.extract p t.size) j hs
    have e2 := bt_eq t (p + j) h
    have e3 : (t.extract p t.size)[j]'hs = t[p + j]'h := by rw [ByteArray.getElem_extract]
    rw [e3] at e1
    have e4 := e1.symm.trans e2
    unfold bt at e4
    exact UInt8.toNat_inj.1 (Int.ofNat.inj e4)
  · rw [get_out t _ h, get_out _ _ (by rw [ByteArray.size_extract]; omega)]
theorem decode_ext (t : ByteArray) (p : Nat) : Utf8.decode (t.extract p t.size) 0 = Utf8.decode t p := by
  rw [Lib.decode_at, Lib.decode_at, get_ext, get_ext, get_ext, get_ext, ByteArray.size_extract]
  congr 1
  omega
theorem decode_fits (t : ByteArray) (p : Nat) (h : p < t.size) : p + (Utf8.decode t p).2 ≤ t.size := by
  rw [Lib.decode_at]
  unfold Lib.decodeN
  repeat' split
  all_goals (simp only; omega)
theorem ext_step (t : ByteArray) (p k : Nat) (h : p + k ≤ t.size) : (t.extract p t.size).extract k (t.size - p) = t.extract (p + k) t.size := by
  rw [ByteArray.extract_extract]
  congr 1
  omega

set_option maxRecDepth 100000 in
set_option maxHeartbeats 1000000 in
theorem Runes_any (t : ByteArray) (hs : t.size ≤ 100000000) (w : World) : Calls Tryz.prog 45 #[.string t] w fun e w' => e = .returned (.int .i64 (runes t.data.toList)) ∧ w = w' := by
  unfold runes
  rw [str_eta]
  go_enter Tryz.func45, Tryz.ntmps45
  go_wp2
  go_loop [0, 3] (fun a b => ∃ (i k n : Nat), i ≤ t.size ∧ a = .string (t.extract i t.size) ∧ b = .int .i64 k ∧ k ≤ i ∧ t.size ≤ i + n ∧ Hid (k + Lib.runeCountFrom t n i = Lib.runeCount t)) (fun a _ => match a with | .string s => s.size | _ => 0)
  case atStart => exact ⟨0, 0, t.size, Nat.zero_le _, by rw [ext_all], rfl, Nat.le_refl _, by omega, by show _ = _; simp [Lib.runeCount]⟩
  case round =>
    obtain ⟨i, k, n, hi, rfl, rfl, hk, hn, HR⟩ := hrel
    obtain ⟨u, hu⟩ : ∃ u, u = t.extract i t.size := ⟨_, rfl⟩
    have hus : u.size = t.size - i := by rw [hu]; exact ext_size t i hi
    rw [← hu]
    have HU := Lib.hid hu
    by_cases hlt : i < t.size
    · have hu0 : 0 < u.size := by omega
      have C : ∀ W, Calls Tryz.prog 56 #[.string u] W (WidAns u W) := fun W => Width_any u hu0 W
      have HC := Lib.hid C
      obtain ⟨d, hd⟩ : ∃ d, d = (Utf8.decode t i).2 := ⟨_, rfl⟩
      have hd1 : 1 ≤ d := by rw [hd]; exact Lib.decode_width_pos t i hlt
      have hd2 : i + d ≤ t.size := by rw [hd]; exact decode_fits t i hlt
      have hdu : (Utf8.decode u 0).2 = d := by rw [hu, decode_ext, hd]
      have hdi : (1 : Int) ≤ d := by omega
      have hdu2 : ¬ (u.size : Int) < d := by omega
      have HD := Lib.hid (And.intro hd hdu)
      clear C hu hd hdu
      go_wp2_with (go_at_call 56; refine (HC.out _).mono ?_; rintro e w' ⟨⟨q, rfl, hq, hq0, hq4⟩, rfl⟩; rw [HD.out.2] at hq)
      go_round
      case rel =>
        cases n with
        | zero => omega
        | succ n =>
          refine ⟨i + d, k + 1, n, hd2, ?_, by go_num, by omega, by omega, ?_⟩
          · rw [show (if 1 < q then q else 1).toNat = d by split <;> omega, HU.out, ext_step t i d hd2]
          · show _ = _
            rw [← HR.out, HD.out.1]
            simp [Lib.runeCountFrom, hlt]
            omega
      case measure =>
        show (u.extract (if 1 < q then q else 1).toNat (t.size - i)).size < u.size
        rw [show (if 1 < q then q else 1).toNat = d by split <;> omega, ByteArray.size_extract]
        omega
    · have hie : i = t.size := by omega
      have hu0 : u.size = 0 := by omega
      have hz := HR.out
      rw [Lib.runeCountFrom_end t n i hlt, Nat.add_zero] at hz
      rw [← hz]
      clear hu
      go_wp2
      go_ret
      exact ⟨rfl, rfl⟩

/-- the place behind so many code points -/
def after (t : ByteArray) : Nat → Nat → Nat
  | 0, p => p
  | n + 1, p => if p < t.size then after t n (p + (Utf8.decode t p).2) else p
theorem after_end (t : ByteArray) (n p : Nat) (h : ¬ p < t.size) : after t n p = p := by cases n <;> simp [after, h]
theorem after_step (t : ByteArray) (n p : Nat) (h : p < t.size) : after t (n + 1) p = after t n (p + (Utf8.decode t p).2) := by simp [after, h]
/-- the first code points of a text -/
def firstB (n : Nat) (t : Bytes) : Bytes := t.take (after (str t) n 0)

set_option maxRecDepth 100000 in
set_option maxHeartbeats 1000000 in
theorem First_any (t : ByteArray) (hs : t.size ≤ 100000000) (m : Nat) (hm : m ≤ 1000000) (w : World) : Calls Tryz.prog 58 #[.string t, .int .i64 m] w fun e w' => e = .returned (.string (t.extract 0 (after t m 0))) ∧ w = w' := by
  go_enter Tryz.func58, Tryz.ntmps58
  go_wp2
  go_loop [5, 6] (fun a b => ∃ (i k : Nat), i ≤ t.size ∧ a = .int .i64 i ∧ b = .int .i64 k ∧ k ≤ m ∧ Hid (after t (m - k) i = after t m 0)) (fun _ b => m - (intOf b).toNat)
  case atStart => exact ⟨0, 0, Nat.zero_le _, rfl, rfl, Nat.zero_le _, rfl⟩
  case round =>
    obtain ⟨i, k, hi, rfl, rfl, hk, HR⟩ := hrel
    by_cases hkm : k < m
    · by_cases hlt : i < t.size
      · obtain ⟨u, hu⟩ : ∃ u, u = t.extract i t.size := ⟨_, rfl⟩
        have hus : u.size = t.size - i := by rw [hu]; exact ext_size t i hi
        have hu0 : 0 < u.size := by omega
        have C : ∀ W, Calls Tryz.prog 56 #[.string (t.extract i t.size)] W (WidAns u W) := fun W => by rw [← hu]; exact Width_any u hu0 W
        have HC := Lib.hid C
        obtain ⟨d, hd⟩ : ∃ d, d = (Utf8.decode t i).2 := ⟨_, rfl⟩
        have hd1 : 1 ≤ d := by rw [hd]; exact Lib.decode_width_pos t i hlt
        have hd2 : i + d ≤ t.size := by rw [hd]; exact decode_fits t i hlt
        have hdu : (Utf8.decode u 0).2 = d := by rw [hu, decode_ext, hd]
        have HD := Lib.hid (And.intro hd hdu)
        clear C hu hd hdu hus hu0
        go_wp2_with (go_at_call 56; refine (HC.out _).mono ?_; rintro e w' ⟨⟨q, rfl, hq, hq0, hq4⟩, rfl⟩; rw [HD.out.2] at hq)
        go_round
        case rel =>
          refine ⟨i + d, k + 1, hd2, ?_, by go_num, by omega, ?_⟩
          · have e : (if 1 < q then q else 1) = (d : Int) := by split <;> omega
            first | (rw [e]; go_num) | go_num
          · show _ = _
            rw [← HR.out, show m - k = (m - (k + 1)) + 1 by omega, after_step t _ i hlt, HD.out.1]
        case measure => simp [intOf]; omega
      · obtain rfl : i = t.size := by omega
        have e := HR.out
        rw [after_end t _ _ hlt] at e
        rw [← e]
        go_wp2
        go_ret
        exact ⟨rfl, rfl⟩
    · obtain rfl : k = m := by omega
      have e := HR.out
      rw [Nat.sub_self] at e
      have HE := Lib.hid (show i = after t k 0 from e)
      clear e HR
      go_wp2
      go_ret
      exact ⟨by show Ending.returned (Value.string (t.extract 0 i)) = _; rw [← HE.out], rfl⟩

set_option maxRecDepth 100000 in
set_option maxHeartbeats 2000000 in
theorem Pad_wide (f : SF) (s : ByteArray) (hs : s.size ≤ 1000000) (hf0 : 0 ≤ f.wid) (hf1 : f.wid ≤ 1000000) (w : World) : Calls Tryz.prog 22 #[f.val, .string s] w fun e w' => e = .returned (.string ⟨(specPad f s.data.toList).toArray⟩) ∧ Only none w w' := by
  obtain ⟨r, hrn⟩ : ∃ r, runes s.data.toList = r := ⟨_, rfl⟩
  have hrl0 : r ≤ s.size := by rw [← hrn, size_list]; exact runes_le _
  have CR := fun W => Runes_any s (by omega) W
  rw [hrn] at CR
  obtain ⟨wid, prec, hasWid, hasPrec, minus, plus, sharp, space, zero⟩ := f
  simp only at hf0 hf1
  have C : ∀ W, Calls Tryz.prog 45 #[.string s] W fun e w' => e = .returned (.int .i64 r) ∧ W = w' := CR
  have C2 : ∀ (c : Int) W, 0 ≤ c → c ≤ 255 → Calls Tryz.prog 46 #[.int .u8 c, .int .i64 (wid - r)] W fun e w' => e = .returned (.string ⟨(rep (B c) (wid - r)).toArray⟩) ∧ Only none W w' := fun c W h0 h1 => repeated_any c h0 h1 _ (by omega) W
  have HC := Lib.hid C
  have HC2 := Lib.hid C2
  have hrl : (rep (B 32) (wid - r)).length ≤ 1000000 := by unfold rep; rw [List.length_replicate]; omega
  have hrl2 : (rep (B 48) (wid - r)).length ≤ 1000000 := by unfold rep; rw [List.length_replicate]; omega
  have hp : ∀ c, ¬ 9223372036854775807 < s.size + (rep (B c) (wid - r)).length ∧ ¬ 9223372036854775807 < (rep (B c) (wid - r)).length + s.size := by
    intro c
    have : (rep (B c) (wid - r)).length ≤ 1000000 := by unfold rep; rw [List.length_replicate]; omega
    omega
  have p32 := hp 32
  have p48 := hp 48
  clear C C2 hp hrl hrl2 CR
  cases hasWid
  · have e : specPad ⟨wid, prec, false, hasPrec, minus, plus, sharp, space, zero⟩ s.data.toList = s.data.toList := rfl
    have e2 : (⟨s.data.toList.toArray⟩ : ByteArray) = s := str_eta s
    rw [e, e2]
    unfold SF.val
    clear e e2 p32 p48
    go_enter Tryz.func22, Tryz.ntmps22
    go_wp2
    go_ret
    exact ⟨rfl, (Only.refl _ _).alloc _⟩
  · cases minus
    · cases zero
      · have e : specPad ⟨wid, prec, true, hasPrec, false, plus, sharp, space, false⟩ s.data.toList = rep (B 32) (wid - r) ++ s.data.toList := by unfold specPad; rw [hrn]; rfl
        rw [e, ← str_app]
        obtain ⟨z, hz⟩ : ∃ z : ByteArray, z = ⟨(rep (B 32) (wid - r)).toArray⟩ := ⟨_, rfl⟩
        have hzs : z.size = (rep (B 32) (wid - r)).length := by rw [hz]; exact str_size _
        rw [← hzs] at p32
        rw [← hz]
        have C := HC2.out 32
        rw [← hz] at C
        have HC3 := Lib.hid C
        unfold SF.val
        clear e p48 hrn C hz hzs HC2
        go_enter Tryz.func22, Tryz.ntmps22
        go_wp2_with fail
        go_region_with (go_at_call 45; refine (HC.out _).mono ?_; rintro e w' ⟨rfl, rfl⟩)
        all_goals
          go_wp2_with (go_at_call 46; refine (HC3.out _ (by decide) (by decide)).mono ?_; rintro e w' ⟨rfl, hO⟩)
          go_ret
          exact ⟨rfl, by first | exact (((Only.refl _ _).alloc _).drew).trans hO | exact ((((Only.refl _ _).alloc _).drew).drew).trans hO | exact ((Only.refl _ _).alloc _).trans hO⟩
      · have e : specPad ⟨wid, prec, true, hasPrec, false, plus, sharp, space, true⟩ s.data.toList = rep (B 48) (wid - r) ++ s.data.toList := by unfold specPad; rw [hrn]; rfl
        rw [e, ← str_app]
        obtain ⟨z, hz⟩ : ∃ z : ByteArray, z = ⟨(rep (B 48) (wid - r)).toArray⟩ := ⟨_, rfl⟩
        have hzs : z.size = (rep (B 48) (wid - r)).length := by rw [hz]; exact str_size _
        rw [← hzs] at p48
        rw [← hz]
        have C := HC2.out 48
        rw [← hz] at C
        have HC3 := Lib.hid C
        unfold SF.val
        clear e p32 hrn C hz hzs HC2
        go_enter Tryz.func22, Tryz.ntmps22
        go_wp2_with fail
        go_region_with (go_at_call 45; refine (HC.out _).mono ?_; rintro e w' ⟨rfl, rfl⟩)
        all_goals
          go_wp2_with (go_at_call 46; refine (HC3.out _ (by decide) (by decide)).mono ?_; rintro e w' ⟨rfl, hO⟩)
          go_ret
          exact ⟨rfl, by first | exact (((Only.refl _ _).alloc _).drew).trans hO | exact ((((Only.refl _ _).alloc _).drew).drew).trans hO | exact ((Only.refl _ _).alloc _).trans hO⟩
    · have e : specPad ⟨wid, prec, true, hasPrec, true, plus, sharp, space, zero⟩ s.data.toList = s.data.toList ++ rep (B 32) (wid - r) := by unfold specPad; rw [hrn]; rfl
      rw [e, ← app_str]
      obtain ⟨z, hz⟩ : ∃ z : ByteArray, z = ⟨(rep (B 32) (wid - r)).toArray⟩ := ⟨_, rfl⟩
      have hzs : z.size = (rep (B 32) (wid - r)).length := by rw [hz]; exact str_size _
      rw [← hzs] at p32
      rw [← hz]
      have C := HC2.out 32
      rw [← hz] at C
      have HC3 := Lib.hid C
      unfold SF.val
      clear e p48 hrn C hz hzs HC2
      go_enter Tryz.func22, Tryz.ntmps22
      go_wp2_with fail
      go_region_with (go_at_call 45; refine (HC.out _).mono ?_; rintro e w' ⟨rfl, rfl⟩)
      all_goals
        go_wp2_with (go_at_call 46; refine (HC3.out _ (by decide) (by decide)).mono ?_; rintro e w' ⟨rfl, hO⟩)
        go_ret
        exact ⟨rfl, by first | exact (((Only.refl _ _).alloc _).drew).trans hO | exact ((((Only.refl _ _).alloc _).drew).drew).trans hO | exact ((Only.refl _ _).alloc _).trans hO⟩

end Go.Proofs.YtcbliojofnigdaaGreatDoor
