/- The printer's readers of a format: numbers, indexes. What they answer, in plain Lean, and that the code answers so. -/
import Derived.Test.YtcbliojofnigdaaGreatDoorState
import Derived.LoopTactic
namespace Go.Proofs.YtcbliojofnigdaaGreatDoor
open Go Go.Proofs Go.RowKit

/-- the byte at a place, as a number -/
def bt (s : ByteArray) (i : Nat) : Int := ((s.get! i).toNat : Int)
theorem bt_eq (s : ByteArray) (i : Nat) (h : i < s.size) : ((s[i]'h).toNat : Int) = bt s i := by
  have e : s.get! i = s[i]'h := by
    cases s with
    | mk d => exact getElem!_pos d i h
  rw [bt, e]
theorem bt_nonneg (s : ByteArray) (i : Nat) : 0 ≤ bt s i := by unfold bt; omega
theorem bt_le (s : ByteArray) (i : Nat) : bt s i ≤ 255 := by
  unfold bt
  have := UInt8.toNat_lt (s.get! i)
  omega

/-- tooLarge -/
def tooLargeB (x : Int) : Bool := decide (1000000 < x) || decide (x < -1000000)

set_option maxRecDepth 100000 in
set_option maxHeartbeats 400000 in
theorem tooLarge_any (x : Int) (w : World) : Calls Tryz.prog 101 #[.int .i64 x] w fun e w' => e = .returned (.bool (tooLargeB x)) ∧ w = w' := by
  rcases (by omega : 1000000 < x ∨ x < -1000000 ∨ (x ≤ 1000000 ∧ -1000000 ≤ x)) with c | c | c
  · have e : tooLargeB x = true := by simp [tooLargeB, c]
    rw [e]
    go_enter Tryz.func101, Tryz.ntmps101
    go_wp2
    go_ret
    exact ⟨rfl, rfl⟩
  · have e : tooLargeB x = true := by simp [tooLargeB, c]
    have c' : ¬ 1000000 < x := by omega
    rw [e]
    go_enter Tryz.func101, Tryz.ntmps101
    go_wp2
    go_ret
    exact ⟨rfl, rfl⟩
  · have e : tooLargeB x = false := by simp [tooLargeB]; omega
    have c1 : ¬ 1000000 < x := by omega
    have c2 : ¬ x < -1000000 := by omega
    rw [e]
    clear c
    go_enter Tryz.func101, Tryz.ntmps101
    go_wp2
    go_ret
    exact ⟨rfl, rfl⟩

/-- parsenum's loop, from place i on -/
def pnum (s : ByteArray) (e : Nat) : Nat → Nat → Nat → Bool → Nat × Bool × Nat
  | 0, i, n, b => (n, b, i)
  | f + 1, i, n, b =>
    if i < e ∧ 48 ≤ bt s i ∧ bt s i ≤ 57 then (if 1000000 < n then (0, false, e) else pnum s e f (i + 1) (n * 10 + (bt s i - 48).toNat) true) else (n, b, i)

/-- parsenum -/
def parsenumM (s : ByteArray) (st e : Nat) : Nat × Bool × Nat := if e ≤ st then (0, false, e) else pnum s e (e - st) st 0 false

theorem pnum_step (s : ByteArray) (e f i n : Nat) (b : Bool) (hf : e - i ≤ f) (hi : i < e) (h1 : 48 ≤ bt s i) (h2 : bt s i ≤ 57) (hn : n ≤ 1000000) : pnum s e f i n b = pnum s e (f - 1) (i + 1) (n * 10 + (bt s i - 48).toNat) true := by
  obtain ⟨f, rfl⟩ : ∃ g, f = g + 1 := ⟨f - 1, by omega⟩
  rw [pnum, if_pos ⟨hi, h1, h2⟩, if_neg (by omega)]
  rfl
theorem pnum_large (s : ByteArray) (e f i n : Nat) (b : Bool) (hf : e - i ≤ f) (hi : i < e) (h1 : 48 ≤ bt s i) (h2 : bt s i ≤ 57) (hn : 1000000 < n) : pnum s e f i n b = (0, false, e) := by
  obtain ⟨f, rfl⟩ : ∃ g, f = g + 1 := ⟨f - 1, by omega⟩
  rw [pnum, if_pos ⟨hi, h1, h2⟩, if_pos hn]
theorem pnum_stop (s : ByteArray) (e f i n : Nat) (b : Bool) (h : ¬ (i < e ∧ 48 ≤ bt s i ∧ bt s i ≤ 57)) : pnum s e f i n b = (n, b, i) := by
  cases f with
  | zero => rfl
  | succ f => rw [pnum, if_neg h]

/-- parsenum answers so -/
def PnAns (r : Nat × Bool × Nat) (w : World) (e : Ending) (w' : World) : Prop := e = .returned (.tuple #[.int .i64 r.1, .bool r.2.1, .int .i64 r.2.2]) ∧ w = w'

set_option maxRecDepth 100000 in
set_option maxHeartbeats 1000000 in
theorem parsenum_any (s : ByteArray) (st e : Nat) (w : World) (he : e ≤ s.size) (hs : s.size ≤ 140737488355328) :
    Calls Tryz.prog 81 #[.string s, .int .i64 st, .int .i64 e] w (PnAns (parsenumM s st e) w) := by
  have hsz : (s.size : Int) ≤ 9223372036854775807 := by omega
  clear hs
  by_cases hse : e ≤ st
  · have hr : parsenumM s st e = (0, false, e) := by rw [parsenumM, if_pos hse]
    rw [hr]
    have c : ¬ ((st : Int) < e) := by omega
    go_enter Tryz.func81, Tryz.ntmps81
    go_wp2
    go_ret3
    exact ⟨rfl, rfl⟩
  · have hr : parsenumM s st e = pnum s e (e - st) st 0 false := by rw [parsenumM, if_neg hse]
    rw [hr]
    obtain ⟨R, hR⟩ : ∃ R, R = pnum s e (e - st) st 0 false := ⟨_, rfl⟩
    rw [← hR]
    have HR := Lib.hid hR
    clear hr hR
    have c : ((st : Int) < e) := by omega
    go_enter Tryz.func81, Tryz.ntmps81
    go_wp2
    go_loop [6, 7, 8] (fun a b c => ∃ (i n f : Nat) (is : Bool), a = .int .i64 n ∧ b = .bool is ∧ c = .int .i64 i ∧ st ≤ i ∧ i ≤ e ∧ n ≤ 10000009 ∧ e - i ≤ f ∧ Hid (R = pnum s e f i n is)) (fun _ _ c => e - (intOf c).toNat)
    case atStart => exact ⟨st, 0, e - st, false, rfl, rfl, rfl, Nat.le_refl _, by omega, by omega, Nat.le_refl _, HR.out⟩
    case round =>
      obtain ⟨i, n, f, is, rfl, rfl, rfl, h1, h2, h3, h4, H⟩ := hrel
      by_cases hlt : i < e
      · have hb := bt_eq s i (by omega)
        have hb0 := bt_nonneg s i
        have hb1 := bt_le s i
        generalize hc : bt s i = c at *
        have HC := Lib.hid hc
        clear hc
        by_cases d1 : 48 ≤ c
        · by_cases d2 : c ≤ 57
          · by_cases dn : 1000000 < n
            · have ht : tooLargeB n = true := by simp [tooLargeB]; omega
              have P := pnum_large s e f i n is h4 hlt (by rw [HC.out]; exact d1) (by rw [HC.out]; exact d2) dn
              have HP := Lib.hid P
              clear P
              go_wp2_with (go_at_call 101; refine (tooLarge_any _ _).mono ?_; rintro e w' ⟨rfl, rfl⟩)
              go_ret3
              exact ⟨by rw [H.out, HP.out]; rfl, rfl⟩
            · have ht : tooLargeB n = false := by simp [tooLargeB]; omega
              have P := pnum_step s e f i n is h4 hlt (by rw [HC.out]; exact d1) (by rw [HC.out]; exact d2) (by omega)
              rw [HC.out] at P
              have HP := Lib.hid P
              clear P
              go_wp2_with (go_at_call 101; refine (tooLarge_any _ _).mono ?_; rintro e w' ⟨rfl, rfl⟩)
              go_round
              case rel => exact ⟨i + 1, n * 10 + (c - 48).toNat, f - 1, true, by go_num, rfl, by go_num, by omega, by omega, by omega, by omega, H.out.trans HP.out⟩
              case measure => simp [intOf]; omega
          · have d3 : 57 < c := by omega
            have P := pnum_stop s e f i n is (by rw [HC.out]; omega)
            clear d2
            have HP := Lib.hid P
            clear P
            go_wp2
            go_ret3
            exact ⟨by rw [H.out, HP.out]; rfl, rfl⟩
        · have d3 : c < 48 := by omega
          have P := pnum_stop s e f i n is (by rw [HC.out]; omega)
          clear d1
          have HP := Lib.hid P
          clear P
          go_wp2
          go_ret3
          exact ⟨by rw [H.out, HP.out]; rfl, rfl⟩
      · have P := pnum_stop s e f i n is (by omega)
        have HP := Lib.hid P
        clear P
        go_wp2
        go_ret3
        exact ⟨by rw [H.out, HP.out]; rfl, rfl⟩

end Go.Proofs.YtcbliojofnigdaaGreatDoor
