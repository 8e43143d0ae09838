/- The printer's pad: bytes that lie anywhere outside the printer's text. -/
import Derived.Test.YtcbliojofnigdaaGreatDoorPad
namespace Go.Proofs.YtcbliojofnigdaaGreatDoor
open Go Go.Proofs Go.RowKit

set_option maxRecDepth 100000 in
set_option maxHeartbeats 1000000 in
theorem pad_no {b : Nat} {w : World} {s : PS} {v : Value} {ib : List Value} (h : PP b w s v ib) (x : Value) (t : Bytes) (hx : Held b w v x t) (hw : s.fl.widP = false ∨ s.fl.wid = 0) (hl : Fits (s.out.length + t.length)) :
    Calls Tryz.prog 122 #[.pointer (some ⟨b, 1, none⟩), x] w (Wrote b w s v ib (padM s.fl t)) := by
  have hp : padM s.fl t = t := by unfold padM; rw [if_pos hw]
  rw [hp]
  have h1 := h.c1
  have h2 := h.c2
  have h11 := h.c11
  have C := write_any h x t hx.1 hl.room
  have HC := Lib.hid C
  clear hp C
  cases hwp : s.fl.widP
  · rw [hwp] at h2
    clear hwp hw
    go_enter Tryz.func122, Tryz.ntmps122
    go_wp2_with (go_at_call 123; refine (HC.out).mono ?_; rintro e w' ⟨rfl, hq⟩)
    go_end0
    exact ⟨rfl, by assumption⟩
  · rw [hwp] at h2
    have hz : s.fl.wid = 0 := by rcases hw with h | h; (rw [hwp] at h; cases h); exact h
    rw [hz] at h11
    clear hwp hw hz
    go_enter Tryz.func122, Tryz.ntmps122
    go_wp2_with (go_at_call 123; refine (HC.out).mono ?_; rintro e w' ⟨rfl, hq⟩)
    go_end0
    exact ⟨rfl, by assumption⟩

set_option maxRecDepth 100000 in
set_option maxHeartbeats 1000000 in
theorem pad_yes {b : Nat} {w : World} {s : PS} {v : Value} {ib : List Value} (h : PP b w s v ib) (x : Value) (t : Bytes) (hx : Held b w v x t) (hw1 : s.fl.widP = true) (hw2 : 0 < s.fl.wid) (hw3 : s.fl.wid ≤ 100000000) (hl : Fits (s.out.length + t.length + s.fl.wid.toNat)) :
    Calls Tryz.prog 122 #[.pointer (some ⟨b, 1, none⟩), x] w (Wrote b w s v ib (padM s.fl t)) := by
  have hl' : s.out.length + t.length + s.fl.wid.toNat ≤ 35184372088832 := hl
  have hle := runes_le t
  obtain ⟨d, hd⟩ : ∃ d : Int, d = s.fl.wid - runes t := ⟨_, rfl⟩
  have hd1 : d.toNat ≤ s.fl.wid.toNat := by omega
  have hd2 : d ≤ 100000000 := by omega
  have hn : ¬ (s.fl.widP = false ∨ s.fl.wid = 0) := by rw [hw1]; simp; omega
  have hp : padM s.fl t = if s.fl.minus then t ++ padding s.fl d else padding s.fl d ++ t := by unfold padM; rw [if_neg hn, hd]
  have h1 := h.c1
  have h2 := h.c2
  have h4 := h.c4
  have h11 := h.c11
  rw [hw1] at h2
  have hwr : IntKind.i64.wrap (s.fl.wid - (runes t : Int)) = d := by rw [hd]; exact IntWalk.i64_in _ (by omega)
  have R : ∀ W, Only none w W → Calls Tryz.prog 136 #[x] W fun e w' => e = .returned (.int .i64 (runes t)) ∧ One W w' := fun W hO => RuneCount_any (hx.1.only hO (fun _ _ _ _ _ _ he => by cases he)) (Fits.room (show _ ≤ _ by omega))
  generalize hc : (runes t) = c at *
  obtain ⟨wd, hwd⟩ : ∃ wd, wd = s.fl.wid := ⟨_, rfl⟩
  rw [← hwd] at h11 hwr hw2
  have hw0 : (wd == 0) = false := by rw [beq_eq_false_iff_ne]; omega
  have hblt := h.lt
  have hlen : s.out.length + d.toNat + t.length ≤ 35184372088832 := by omega
  have HR := Lib.hid R
  have hh := h
  have HH := Lib.hid h
  have HL := Lib.hid hlen
  have HWD := Lib.hid hwd.symm
  have HD := Lib.hid hd2
  clear R hn hd hd1 hd2 hle hl hl' hw3 hwd hlen
  have HP := Lib.hid hp
  clear hp
  have C1 : ∀ (W : World) (s' : PS) (v' : Value), PP b W s' v' ib → s'.fl = s.fl → s'.out.length + d.toNat ≤ 35184372088832 → Calls Tryz.prog 106 #[.pointer (some ⟨b, 1, none⟩), .int .i64 d] W (Wrote b W s' v' ib (padding s.fl d)) :=
    fun W s' v' hP hfl hb => hfl ▸ writePadding_any hP d (show _ ≤ _ by omega) (by have := HD.out; omega) (by omega)
  have HC1 := Lib.hid C1
  have C2 : ∀ (W : World) (s' : PS) (v' : Value), PP b W s' v' ib → Fr b w v W v' → s'.out.length + t.length ≤ 35184372088832 → Calls Tryz.prog 123 #[.pointer (some ⟨b, 0, none⟩), x] W (Wrote b W s' v' ib t) :=
    fun W s' v' hP hF hb => write_any hP x t (hx.step h hP hF).1 (Fits.room hb)
  have HC2 := Lib.hid C2
  clear C1 C2 h hh
  have HX := Lib.hid hx
  clear hx
  cases hm : s.fl.minus
  · have hp := HP.out
    rw [hm] at h4 hp
    rw [hp]
    have HM := Lib.hid hm
    clear hp hm
    go_enter Tryz.func122, Tryz.ntmps122
    go_wp2_with fail
    go_region_with (go_at_call 136; refine (HR.out _ (by first | exact (Only.refl _ _).drew | exact Only.refl _ _)).mono ?_; rintro e w' ⟨rfl, hO⟩; have hP' := (HH.out.drew).only (hO.only none) (fun _ _ _ he => by cases he); have g11 := hP'.c11; rw [HWD.out] at g11; have HP0 := Lib.hid hP'; have HO := Lib.hid hO; clear hP' hO)
    all_goals
      have g1 := HP0.out.c1
      have g4 := HP0.out.c4
      rw [HM.out] at g4
      have HFW := Lib.hid (((Fr.refl b w v).drew).only (HO.out.only none) (fun _ _ _ he => by cases he))
      go_wp2_with fail
      refine (HC1.out _ _ _ HP0.out rfl (by have := HL.out; omega)).mono ?_
      rintro e w1 ⟨rfl, v1, hP1, hF1⟩
      have g1 := hP1.c1
      have HP1 := Lib.hid hP1
      have HF1 := Lib.hid hF1
      clear hP1 hF1
      go_wp2_with fail
      refine (HC2.out _ _ _ HP1.out (HFW.out.trans HF1.out) (by have := HL.out; simp only [List.length_append, padding_length]; omega)).mono ?_
      rintro e w2 hW2
      have R2 := Wrote.append (HFW.out.trans HF1.out) hW2
      obtain ⟨rfl, hq⟩ := R2
      clear hW2
      go_wp2_with fail
      go_end0
      exact ⟨rfl, hq⟩
  · have hp := HP.out
    rw [hm] at h4 hp
    rw [hp]
    have HM := Lib.hid hm
    clear hp hm
    go_enter Tryz.func122, Tryz.ntmps122
    go_wp2_with fail
    go_region_with (go_at_call 136; refine (HR.out _ (by first | exact (Only.refl _ _).drew | exact Only.refl _ _)).mono ?_; rintro e w' ⟨rfl, hO⟩; have hP' := (HH.out.drew).only (hO.only none) (fun _ _ _ he => by cases he); have g11 := hP'.c11; rw [HWD.out] at g11; have HP0 := Lib.hid hP'; have HO := Lib.hid hO; clear hP' hO)
    all_goals
      have g1 := HP0.out.c1
      have g4 := HP0.out.c4
      rw [HM.out] at g4
      have HFW := Lib.hid (((Fr.refl b w v).drew).only (HO.out.only none) (fun _ _ _ he => by cases he))
      go_wp2_with fail
      refine (HC2.out _ _ _ HP0.out HFW.out (by have := HL.out; omega)).mono ?_
      rintro e w1 ⟨rfl, v1, hP1, hF1⟩
      have g1 := hP1.c1
      have HP1 := Lib.hid hP1
      have HF1 := Lib.hid hF1
      clear hP1 hF1
      go_wp2_with fail
      refine (HC1.out _ _ _ HP1.out rfl (by have := HL.out; show (s.out ++ t).length + d.toNat ≤ 35184372088832; rw [List.length_append]; omega)).mono ?_
      rintro e w2 hW2
      have R2 := Wrote.append (HFW.out.trans HF1.out) hW2
      obtain ⟨rfl, hq⟩ := R2
      clear hW2
      go_wp2_with fail
      go_end0
      exact ⟨rfl, hq⟩

theorem pad_any {b : Nat} {w : World} {s : PS} {v : Value} {ib : List Value} (h : PP b w s v ib) (x : Value) (t : Bytes) (hx : Held b w v x t) (hf : FlOk s.fl) (hl : Fits (s.out.length + t.length + s.fl.wid.toNat)) :
    Calls Tryz.prog 122 #[.pointer (some ⟨b, 1, none⟩), x] w (Wrote b w s v ib (padM s.fl t)) := by
  have hf1 := hf.1
  have hf2 := hf.2.1
  cases hw : s.fl.widP
  · exact pad_no h x t hx (.inl hw) (hl.le (by omega))
  · by_cases h0 : s.fl.wid = 0
    · exact pad_no h x t hx (.inr h0) (hl.le (by omega))
    · exact pad_yes h x t hx hw (by omega) hf2 hl

end Go.Proofs.YtcbliojofnigdaaGreatDoor
