/- fmt.truncateString, fmt.fmtS. -/
import Derived.Test.YtcbliojofnigdaaGreatDoorPadB
import Derived.Test.YtcbliojofnigdaaGreatDoorRunesAny
import Derived.Test.YtcbliojofnigdaaGreatDoorPaInt
import Derived.LoopTactic
set_option linter.unusedVariables false
set_option linter.unusedSimpArgs false
namespace Go.Proofs.YtcbliojofnigdaaGreatDoor
open Go Go.Proofs Go.RowKit

/-- what is left of a text by the precision -/
def truncB (f : Fl) (t : Bytes) : Bytes := if f.precP then firstB f.prec.toNat t else t

set_option maxRecDepth 100000 in
set_option maxHeartbeats 1000000 in
theorem truncateString_any {b : Nat} {w : World} {s : PS} {v : Value} {ib : List Value} (h : PP b w s v ib) (t : ByteArray) (hs : t.size < 4611686018427387904) (hp : s.fl.precP = true → 0 ≤ s.fl.prec ∧ s.fl.prec ≤ 1000000) :
    Calls Tryz.prog 107 #[.pointer (some ⟨b, 1, none⟩), .string t] w fun e w' => e = .returned (.string ⟨(truncB s.fl t.data.toList).toArray⟩) ∧ (w' = w ∨ ∃ pos, w' = w.iter t pos) := by
  have c3 := h.c3
  have c12 := h.c12
  have hblt := h.lt
  unfold truncB
  cases hpp : s.fl.precP with
  | false =>
    rw [hpp] at c3
    have e : (⟨(if (false : Bool) = true then firstB s.fl.prec.toNat t.data.toList else t.data.toList).toArray⟩ : ByteArray) = t := str_eta t
    rw [e]
    clear e h hp c12
    go_enter Tryz.func107, Tryz.ntmps107
    go_wp2
    go_ret
    exact ⟨rfl, .inl rfl⟩
  | true =>
    obtain ⟨p0, p1⟩ := hp hpp
    rw [hpp] at c3
    obtain ⟨m, hm⟩ := Int.eq_ofNat_of_zero_le p0
    rw [hm] at c12 p1
    rw [hm]
    have e : (⟨(if (true : Bool) = true then firstB ((m : Int)).toNat t.data.toList else t.data.toList).toArray⟩ : ByteArray) = t.extract 0 (after t m 0) := by
      rw [if_pos rfl, Int.toNat_natCast]
      exact str_of (by unfold firstB; rw [str_eta]; simp)
    rw [e]
    clear e h hp hm p0 hpp
    go_enter Tryz.func107, Tryz.ntmps107
    go_wp2
    go_loopw [5] (fun n W => ∃ (pos k : Nat), W = w.iter t pos ∧ n = .int .i64 ((m : Int) - k) ∧ pos ≤ t.size ∧ k ≤ m ∧ Hid (after t (m - k) pos = after t m 0)) (fun _ W => t.size - W.iterPos w.heap.size)
    case atStart => exact ⟨0, 0, rfl, by simp, Nat.zero_le _, Nat.zero_le _, rfl⟩
    case round =>
      obtain ⟨pos, k, rfl, rfl, hpos, hk, HR⟩ := hrel
      by_cases hlt : pos < t.size
      · have hnx : ∀ ty, (Instr.next (.pointer (some ⟨w.heap.size, 0, none⟩)) true ty).run Tryz.prog (w.iter t pos) = _ := fun ty => run_next_any w t pos ty hlt
        have hwd := Lib.decode_width_pos t pos hlt
        have hwf := decode_fits t pos hlt
        by_cases hkm : k < m
        · go_wp2
          go_roundw
          case rel =>
            refine ⟨pos + (Utf8.decode t pos).2, k + 1, rfl, by go_num, hwf, by omega, ?_⟩
            show _ = _
            rw [← HR.out, show m - k = (m - (k + 1)) + 1 by omega, after_step t _ pos hlt]
          case measure =>
            simp
            omega
        · obtain rfl : k = m := by omega
          have e := HR.out
          rw [Nat.sub_self] at e
          have HE := Lib.hid (show pos = after t k 0 from e)
          clear e HR
          go_wp2
          go_ret
          exact ⟨by show Ending.returned (Value.string (t.extract 0 pos)) = _; rw [← HE.out], .inr ⟨_, rfl⟩⟩
      · have hnx : ∀ ty, (Instr.next (.pointer (some ⟨w.heap.size, 0, none⟩)) true ty).run Tryz.prog (w.iter t pos) = _ := fun ty => run_next_end w t pos ty hlt
        have e := HR.out
        rw [after_end t _ _ hlt] at e
        have hps : pos = t.size := by omega
        have HE := Lib.hid (show t.extract 0 (after t m 0) = t by rw [← e, hps]; exact ext_all t)
        clear e HR hps
        go_wp2
        go_ret
        exact ⟨by show Ending.returned (Value.string t) = _; rw [HE.out], .inr ⟨_, rfl⟩⟩

theorem truncB_len (f : Fl) (t : Bytes) : (truncB f t).length ≤ t.length := by
  unfold truncB firstB
  split
  · rw [List.length_take]; omega
  · exact Nat.le_refl _

set_option maxRecDepth 100000 in
set_option maxHeartbeats 1000000 in
theorem fmtS_any {b : Nat} {w : World} {s : PS} {v : Value} {ib : List Value} (h : PP b w s v ib) (t : ByteArray) (hf : FlOk s.fl) (hp : s.fl.precP = true → 0 ≤ s.fl.prec ∧ s.fl.prec ≤ 1000000) (hl : Fits (s.out.length + t.size + s.fl.wid.toNat)) :
    Calls Tryz.prog 90 #[.pointer (some ⟨b, 1, none⟩), .string t] w (Wrote b w s v ib (padM s.fl (truncB s.fl t.data.toList))) := by
  have hts : t.size < 4611686018427387904 := by have : s.out.length + t.size + s.fl.wid.toNat ≤ 35184372088832 := hl; omega
  have hlt := truncB_len s.fl t.data.toList
  rw [← size_list] at hlt
  have C107 := truncateString_any h t hts hp
  obtain ⟨x, hx⟩ : ∃ x : ByteArray, x = ⟨(truncB s.fl t.data.toList).toArray⟩ := ⟨_, rfl⟩
  have hxs : x.size ≤ t.size := by rw [hx, str_size]; exact hlt
  have hxd : x.data.toList = truncB s.fl t.data.toList := by rw [hx]
  rw [← hx] at C107
  rw [← hxd]
  have C88 : ∀ W, (W = w ∨ ∃ pos, W = w.iter t pos) → Calls Tryz.prog 88 #[.pointer (some ⟨b, 1, none⟩), .string x] W (Wrote b w s v ib (padM s.fl x.data.toList)) := by
    intro W hW
    have hPF : PP b W s v ib ∧ Fr b w v W v := by
      rcases hW with rfl | ⟨pos, rfl⟩
      · exact ⟨h, Fr.refl _ _ _⟩
      · exact ⟨h.alloc _, (Fr.refl _ _ _).alloc _⟩
    refine (padString_any hPF.1 x hf (hl.le (by omega))).mono ?_
    rintro e w' ⟨he, v', h1, h2⟩
    exact ⟨he, v', h1, hPF.2.trans h2⟩
  have H107 := Lib.hid C107
  have H88 := Lib.hid C88
  clear C107 C88 hx hxs hxd hlt hts hl hp hf h
  go_enter Tryz.func90, Tryz.ntmps90
  go_wp2_with (first
    | (go_at_call 107; refine (H107.out).mono ?_; rintro e w1 ⟨rfl, hW1⟩; have HW := Lib.hid hW1; clear hW1)
    | (go_at_call 88; refine (H88.out _ HW.out).mono ?_; rintro e w2 ⟨rfl, hq⟩; have HQ := Lib.hid hq; clear hq))
  go_end0
  exact ⟨rfl, HQ.out⟩

theorem Wrote.toI {b : Nat} {w : World} {s : PS} {v : Value} {ib : List Value} {t : Bytes} {e : Ending} {w' : World} (h : Wrote b w s v ib t e w') : WroteI b w s v t e w' := by
  obtain ⟨h1, v', h2, h3⟩ := h
  exact ⟨h1, v', ib, h2, h3⟩
set_option maxRecDepth 100000 in
set_option maxHeartbeats 1000000 in
theorem fmtString_sv {b : Nat} {w : World} {s : PS} {v : Value} {ib : List Value} (h : PP b w s v ib) (x : Value) (t : ByteArray) (r : Int) (hr : r = 118 ∨ r = 115) (hsv : s.fl.sharpV = false) (hf : FlOk s.fl) (hp : s.fl.precP = true → 0 ≤ s.fl.prec ∧ s.fl.prec ≤ 1000000) (hl : Fits (s.out.length + t.size + s.fl.wid.toNat)) :
    Calls Tryz.prog 95 #[.pointer (some ⟨b, 0, none⟩), x, .agg #[], .string t, .int .i32 r] w (WroteI b w s v (padM s.fl (truncB s.fl t.data.toList))) := by
  have c10 := h.c10
  have hblt := h.lt
  rw [hsv] at c10
  have C : ∀ (W : World), PP b W s v ib → Fr b w v W v → Calls Tryz.prog 90 #[.pointer (some ⟨b, 1, none⟩), .string t] W (WroteI b w s v (padM s.fl (truncB s.fl t.data.toList))) := by
    intro W hP hF
    refine (fmtS_any hP t hf hp hl).mono ?_
    rintro e w' ⟨he, v', h1, h2⟩
    exact ⟨he, v', ib, h1, hF.trans h2⟩
  have HP := Lib.hid h
  have HC := Lib.hid C
  clear C h hl hp hf hsv
  rcases hr with rfl | rfl
  all_goals
    go_enter Tryz.func95, Tryz.ntmps95
    go_wp2_with (go_at_call 90; refine (HC.out _ (by first | exact HP.out | exact HP.out.alloc _) (by first | exact Fr.refl _ _ _ | exact (Fr.refl _ _ _).alloc _)).mono ?_; rintro e w' ⟨rfl, hq⟩)
    go_end0
    exact ⟨rfl, hq⟩

set_option maxRecDepth 100000 in
set_option maxHeartbeats 1000000 in
theorem printArg_9 {b : Nat} {w : World} {s : PS} {v : Value} (t : ByteArray) (r : Int) (hv1 : ¬ r = 84) (hv2 : ¬ r = 112) {T : Bytes} (C : ∀ y : Value, Calls Tryz.prog 95 #[.pointer (some ⟨b, 0, none⟩), y, .agg #[], .string t, .int .i32 r] w (WroteI b w s v T)) :
    Calls Tryz.prog 78 #[.pointer (some ⟨b, 0, none⟩), .iface 9 (.string t), .int .i32 r] w (WroteI b w s v T) := by
  have q4 := ta_9_4
  have q149 := ta_9_149
  have q151 := ta_9_151
  have q152 := ta_9_152
  have q154 := ta_9_154
  have q3 := ta_9_3
  have q83 := ta_9_83
  have q84 := ta_9_84
  have q21 := ta_9_21
  have q2 := ta_9_2
  have q88 := ta_9_88
  have q5 := ta_9_5
  have q156 := ta_9_156
  have q53 := ta_9_53
  have q22 := ta_9_22
  have q12 := ta_9_12
  have q9 := ta_9_9
  have HC := Lib.hid C
  clear C
  go_enter Tryz.func78, Tryz.ntmps78
  go_wp2_with (go_at_call 95; refine (HC.out _).mono ?_; rintro e w' ⟨rfl, hq⟩)
  go_end0
  exact ⟨rfl, hq⟩

end Go.Proofs.YtcbliojofnigdaaGreatDoor
