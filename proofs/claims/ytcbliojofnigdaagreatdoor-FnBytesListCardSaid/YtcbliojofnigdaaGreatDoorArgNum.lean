/- parseArgNumber and argNumber. -/
import Derived.Test.YtcbliojofnigdaaGreatDoorIntArg
namespace Go.Proofs.YtcbliojofnigdaaGreatDoor
open Go Go.Proofs Go.RowKit

def PanAns (r : Int × Nat × Bool) (w : World) (e : Ending) (w' : World) : Prop := e = .returned (.tuple #[.int .i64 r.1, .int .i64 r.2.1, .bool r.2.2]) ∧ w = w'

set_option maxRecDepth 100000 in
set_option maxHeartbeats 1000000 in
theorem parseArgNumber_any (s : ByteArray) (w : World) (hs : s.size ≤ 140737488355328) : Calls Tryz.prog 99 #[.string s] w (PanAns (panM s) w) := by
  have hsz : (s.size : Int) ≤ 9223372036854775807 := by omega
  by_cases h3 : s.size < 3
  · have hr : panM s = (0, 1, false) := by unfold panM; rw [if_pos h3]
    rw [hr]
    have c : (s.size : Int) < 3 := by omega
    clear hr
    go_enter Tryz.func99, Tryz.ntmps99
    go_wp2
    go_ret3
    exact ⟨rfl, rfl⟩
  · have hr : panM s = panFrom s s.size 1 := by unfold panM; rw [if_neg h3]
    rw [hr]
    have c : ¬ (s.size : Int) < 3 := by omega
    obtain ⟨R, hR⟩ : ∃ R, R = panFrom s s.size 1 := ⟨_, rfl⟩
    rw [← hR]
    have HR := Lib.hid hR
    clear hr hR
    go_enter Tryz.func99, Tryz.ntmps99
    go_wp2
    go_loop [5] (fun a => ∃ (i f : Nat), a = .int .i64 i ∧ 1 ≤ i ∧ i ≤ s.size ∧ s.size ≤ i + f ∧ Hid (R = panFrom s f i)) (fun a => s.size - (intOf a).toNat)
    case atStart => exact ⟨1, s.size, rfl, Nat.le_refl _, by omega, by omega, HR.out⟩
    case round =>
      obtain ⟨i, f, rfl, h1, h2, hf, H⟩ := hrel
      by_cases hlt : i < s.size
      · obtain ⟨f, rfl⟩ : ∃ g, f = g + 1 := ⟨f - 1, by omega⟩
        have hb := bt_eq s i hlt
        have HH := H.out
        rw [panFrom, if_pos hlt] at HH
        by_cases h93 : bt s i = 93
        · rw [if_pos h93] at HH
          rw [h93] at hb
          have CP := parsenum_any s 1 i w h2 hs
          obtain ⟨r, hr⟩ : ∃ r, r = parsenumM s 1 i := ⟨_, rfl⟩
          have hle := parsenumM_le s 1 i
          rw [← hr] at HH CP hle
          obtain ⟨r1, r2, r3⟩ := r
          simp only at HH hle
          have HC := Lib.hid CP
          clear H h93 hr CP
          cases r2 with
          | false =>
            simp only [true_or, if_true] at HH
            have HX := Lib.hid HH
            clear HH
            go_wp2_with (go_at_call 81; refine (HC.out).mono ?_; rintro e w' ⟨rfl, rfl⟩)
            go_ret3
            exact ⟨by rw [HX.out]; rfl, rfl⟩
          | true =>
            by_cases hri : r3 = i
            · subst hri
              have HX := Lib.hid (show R = ((r1 : Int) - 1, r3 + 1, true) by rw [HH, if_neg (by simp)])
              clear HH
              go_wp2_with (go_at_call 81; refine (HC.out).mono ?_; rintro e w' ⟨rfl, rfl⟩)
              go_ret3
              exact ⟨by rw [HX.out]; rfl, rfl⟩
            · have HX := Lib.hid (show R = ((0 : Int), i + 1, false) by rw [HH, if_pos (.inr hri)])
              have hri' : ¬ (r3 : Int) = i := by omega
              clear HH
              go_wp2_with (go_at_call 81; refine (HC.out).mono ?_; rintro e w' ⟨rfl, rfl⟩)
              go_ret3
              exact ⟨by rw [HX.out]; rfl, rfl⟩
        · rw [if_neg h93] at HH
          have HX := Lib.hid HH
          clear HH H
          go_wp2
          go_round
          case rel => exact ⟨i + 1, f, by go_num, by omega, by omega, by omega, HX.out⟩
          case measure => simp [intOf]; omega
      · have HX := Lib.hid (show R = ((0 : Int), 1, false) by rw [H.out]; cases f <;> simp [panFrom, hlt])
        clear H
        go_wp2
        go_ret3
        exact ⟨by rw [HX.out]; rfl, rfl⟩

set_option maxRecDepth 100000 in
set_option maxHeartbeats 1000000 in
theorem argNumber_any {b : Nat} {w : World} {v : Value} {ib : List Value} {d : D} (h : PP b w d.s v ib) (t : ByteArray) (n : Nat) (hi : d.i ≤ t.size) (_hk : (d.k : Int) ≤ 100000000) (ht : Fits t.size) (_hn : n ≤ 100000000) :
    Calls Tryz.prog 79 #[.pointer (some ⟨b, 0, none⟩), .int .i64 d.k, .string t, .int .i64 d.i, .int .i64 n] w fun e w' =>
      e = .returned (.tuple #[.int .i64 (idxD t n d).k, .int .i64 (idxD t n d).i, .bool (idxD t n d).af]) ∧ PP b w' (idxD t n d).s v ib ∧ Fr b w v w' v := by
  have hts : (t.size : Int) ≤ 100000000000000 := by have : t.size ≤ 35184372088832 := ht; omega
  by_cases hlt : t.size ≤ d.i
  · have hr : idxD t n d = { d with af := false } := by unfold idxD; rw [if_pos (.inl hlt)]
    rw [hr]
    have hq : (t.size : Int) ≤ d.i := by omega
    have HP := Lib.hid h
    clear hr h
    go_enter Tryz.func79, Tryz.ntmps79
    go_wp2
    go_ret3
    exact ⟨rfl, HP.out, Fr.refl _ _ _⟩
  · have hlt' : d.i < t.size := by omega
    have hb := bt_eq t d.i hlt'
    by_cases h91 : bt t d.i = 91
    · have hsz : (t.extract d.i t.size).size = t.size - d.i := by rw [ByteArray.size_extract]; omega
      have ht2 : t.size ≤ 35184372088832 := ht
      have CP := fun W => parseArgNumber_any (t.extract d.i t.size) W (by omega)
      have hle := panM_le (t.extract d.i t.size)
      rw [hsz] at hle
      obtain ⟨r, hr⟩ : ∃ r, r = panM (t.extract d.i t.size) := ⟨_, rfl⟩
      have hx : idxD t n d = if r.2.2 = true ∧ 0 ≤ r.1 ∧ r.1 < n then ⟨{ d.s with reord := true }, d.i + r.2.1, r.1.toNat, true⟩ else ⟨{ d.s with reord := true, good := false }, d.i + r.2.1, d.k, r.2.2⟩ := by
        unfold idxD
        rw [if_neg (by intro h; rcases h with h | h; exact hlt h; exact h h91)]
        rw [← hr]
      rw [← hr] at CP hle
      rw [h91] at hb
      obtain ⟨r1, r2, r3⟩ := r
      simp only at hx hle CP
      have HC := Lib.hid CP
      have c81 := h.c81
      have c82 := h.c82
      have f81 := h.frz 81
      have f82 := h.frz 82
      have HP := Lib.hid h
      obtain ⟨g1, g2, g3, g4⟩ := hle
      have g2' : r2 ≤ t.size - d.i := by omega
      by_cases hok : r3 = true ∧ 0 ≤ r1 ∧ r1 < n
      · rw [if_pos hok] at hx
        rw [hx]
        obtain ⟨rfl, q1, q2⟩ := hok
        obtain ⟨m, rfl⟩ := Int.eq_ofNat_of_zero_le q1
        clear hx CP hr h h91 g2 g3 g4 hsz
        go_enter Tryz.func79, Tryz.ntmps79
        go_wp2_with (go_at_call 99; refine (HC.out _).mono ?_; rintro e w' ⟨rfl, rfl⟩)
        go_ret3
        exact ⟨by simp, HP.out.setReord true, (Fr.refl _ _ _).setB _ _⟩
      · rw [if_neg hok] at hx
        rw [hx]
        clear hx CP hr h h91 g2 hsz
        have HF : PP b ((w.setCell ⟨b, 81, none⟩ (.bool true)).setCell ⟨b, 82, none⟩ (.bool false)) { d.s with reord := true, good := false } v ib := (HP.out.setReord true).setGood false
        have HF := Lib.hid HF
        cases r3 with
        | false =>
          clear hok
          go_enter Tryz.func79, Tryz.ntmps79
          go_wp2_with (go_at_call 99; refine (HC.out _).mono ?_; rintro e w' ⟨rfl, rfl⟩)
          go_ret3
          exact ⟨by simp, HF.out, ((Fr.refl _ _ _).setB _ _).setB _ _⟩
        | true =>
          by_cases q1 : 0 ≤ r1
          · have q2 : ¬ r1 < n := fun h => hok ⟨rfl, q1, h⟩
            clear hok
            go_enter Tryz.func79, Tryz.ntmps79
            go_wp2_with (go_at_call 99; refine (HC.out _).mono ?_; rintro e w' ⟨rfl, rfl⟩)
            go_ret3
            exact ⟨by simp, HF.out, ((Fr.refl _ _ _).setB _ _).setB _ _⟩
          · have q1' : r1 < 0 := by omega
            clear hok q1
            go_enter Tryz.func79, Tryz.ntmps79
            go_wp2_with (go_at_call 99; refine (HC.out _).mono ?_; rintro e w' ⟨rfl, rfl⟩)
            go_ret3
            exact ⟨by simp, HF.out, ((Fr.refl _ _ _).setB _ _).setB _ _⟩
    · have hr : idxD t n d = { d with af := false } := by unfold idxD; rw [if_pos (.inr h91)]
      rw [hr]
      have HP := Lib.hid h
      clear hr h
      go_enter Tryz.func79, Tryz.ntmps79
      go_wp2
      go_ret3
      exact ⟨rfl, HP.out, Fr.refl _ _ _⟩

end Go.Proofs.YtcbliojofnigdaaGreatDoor
