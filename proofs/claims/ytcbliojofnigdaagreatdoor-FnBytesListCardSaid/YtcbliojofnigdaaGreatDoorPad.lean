/- The printer's pad and padString. -/
import Derived.Test.YtcbliojofnigdaaGreatDoorPadding
import Derived.Test.YtcbliojofnigdaaGreatDoorRunes
import Derived.Deep.RegionWith
import Derived.Handy
namespace Go.Proofs.YtcbliojofnigdaaGreatDoor
open Go Go.Proofs Go.RowKit

/-- so long a text is no trouble (a plain name: the walk must not look at the number) -/
def Fits (n : Nat) : Prop := n ≤ 35184372088832
theorem Fits.le {m n : Nat} (h : Fits n) (k : m ≤ n) : Fits m := Nat.le_trans k h
theorem Fits.room {n : Nat} (h : Fits n) : Room n := Nat.le_trans h (by decide)
/-- width and precision are no less than 0 and not great -/
def FlOk (f : Fl) : Prop := 0 ≤ f.wid ∧ f.wid ≤ 100000000 ∧ 0 ≤ f.prec ∧ f.prec ≤ 100000000

/-- a text filled up to the width -/
def padM (f : Fl) (t : Bytes) : Bytes :=
  if f.widP = false ∨ f.wid = 0 then t
  else if f.minus then t ++ padding f (f.wid - runes t) else padding f (f.wid - runes t) ++ t

theorem padding_length (f : Fl) (n : Int) : (padding f n).length = n.toNat := by simp [padding]

theorem padM_length (f : Fl) (t : Bytes) : (padM f t).length ≤ t.length + f.wid.toNat := by
  unfold padM
  split
  · omega
  · split <;> simp only [List.length_append, padding_length] <;> omega
theorem padM_ge (f : Fl) (t : Bytes) : t.length ≤ (padM f t).length := by
  unfold padM
  split
  · omega
  · split <;> simp only [List.length_append] <;> omega

theorem Wrote.append {b : Nat} {w w1 : World} {s : PS} {v : Value} {ib : List Value} {t t' : Bytes} {v1 : Value} (hf : Fr b w v w1 v1) {e : Ending} {w2 : World}
    (h : Wrote b w1 { s with out := s.out ++ t } v1 ib t' e w2) : Wrote b w s v ib (t ++ t') e w2 := by
  obtain ⟨h1, v2, h2, h3⟩ := h
  exact ⟨h1, v2, by simpa [List.append_assoc] using h2, hf.trans h3⟩

theorem str_eta (t : ByteArray) : str t.data.toList = t := by cases t; simp

set_option maxRecDepth 100000 in
set_option maxHeartbeats 1000000 in
theorem padString_no {b : Nat} {w : World} {s : PS} {v : Value} {ib : List Value} (h : PP b w s v ib) (t : ByteArray) (hw : s.fl.widP = false ∨ s.fl.wid = 0) (hl : Fits (s.out.length + t.size)) :
    Calls Tryz.prog 88 #[.pointer (some ⟨b, 1, none⟩), .string t] w (Wrote b w s v ib (padM s.fl t.data.toList)) := by
  have hp : padM s.fl t.data.toList = t.data.toList := by unfold padM; rw [if_pos hw]
  rw [hp]
  have h1 := h.c1
  have h2 := h.c2
  have h11 := h.c11
  have C := writeString_any h t hl.room
  have HC := Lib.hid C
  clear hp C
  cases hwp : s.fl.widP
  · rw [hwp] at h2
    clear hwp hw
    go_enter Tryz.func88, Tryz.ntmps88
    go_wp2_with (go_at_call 76; refine (HC.out).mono ?_; rintro e w' ⟨rfl, hq⟩)
    go_end0
    exact ⟨rfl, by assumption⟩
  · rw [hwp] at h2
    have hz : s.fl.wid = 0 := by rcases hw with h | h; (rw [hwp] at h; cases h); exact h
    rw [hz] at h11
    clear hwp hw hz
    go_enter Tryz.func88, Tryz.ntmps88
    go_wp2_with (go_at_call 76; refine (HC.out).mono ?_; rintro e w' ⟨rfl, hq⟩)
    go_end0
    exact ⟨rfl, by assumption⟩

set_option maxRecDepth 100000 in
set_option maxHeartbeats 1000000 in
theorem padString_yes {b : Nat} {w : World} {s : PS} {v : Value} {ib : List Value} (h : PP b w s v ib) (t : ByteArray) (hw1 : s.fl.widP = true) (hw2 : 0 < s.fl.wid) (hw3 : s.fl.wid ≤ 100000000) (hl : Fits (s.out.length + t.size + s.fl.wid.toNat)) :
    Calls Tryz.prog 88 #[.pointer (some ⟨b, 1, none⟩), .string t] w (Wrote b w s v ib (padM s.fl t.data.toList)) := by
  have hl' : s.out.length + t.size + s.fl.wid.toNat ≤ 35184372088832 := hl
  have hsz : t.data.toList.length = t.size := by rw [Array.length_toList]; rfl
  have hrl : Lib.runeCount t = runes t.data.toList := by unfold runes; rw [str_eta]
  have hle := Lib.runeCount_le t
  obtain ⟨d, hd⟩ : ∃ d : Int, d = s.fl.wid - runes t.data.toList := ⟨_, rfl⟩
  have hd1 : d.toNat ≤ s.fl.wid.toNat := by omega
  have hd2 : d ≤ 100000000 := by omega
  have hn : ¬ (s.fl.widP = false ∨ s.fl.wid = 0) := by rw [hw1]; simp; omega
  have hp : padM s.fl t.data.toList = if s.fl.minus then t.data.toList ++ padding s.fl d else padding s.fl d ++ t.data.toList := by unfold padM; rw [if_neg hn, hd]
  have h1 := h.c1
  have h2 := h.c2
  have h4 := h.c4
  have h11 := h.c11
  rw [hw1] at h2
  have hwr : IntKind.i64.wrap (s.fl.wid - (Lib.runeCount t : Int)) = d := by rw [hd, hrl]; exact IntWalk.i64_in _ (by omega)
  have R : ∀ W, Calls Tryz.prog 105 #[.string t] W fun e w' => e = .returned (.int .i64 (Lib.runeCount t)) ∧ ∃ o, w' = W.alloc o := fun W => (RuneCountInString_any t W (by omega)).mono fun e w' ⟨he, pos, hw⟩ => ⟨he, _, hw⟩
  generalize hc : (Lib.runeCount t) = c at *
  obtain ⟨wd, hwd⟩ : ∃ wd, wd = s.fl.wid := ⟨_, rfl⟩
  rw [← hwd] at h11 hwr hw2
  have hw0 : (wd == 0) = false := by rw [beq_eq_false_iff_ne]; omega
  have hblt := h.lt
  have hlen : s.out.length + d.toNat + t.size ≤ 35184372088832 := by omega
  have HR := Lib.hid R
  have HH := Lib.hid h
  have HL := Lib.hid hlen
  have HD := Lib.hid hd2
  clear R h hn hd hd1 hd2 hle hsz hl hl' hw3 hrl hwd hlen
  have HP := Lib.hid hp
  clear hp
  have C1 : ∀ (W : World) (s' : PS) (v' : Value), PP b W s' v' ib → s'.fl = s.fl → s'.out.length + d.toNat ≤ 35184372088832 → Calls Tryz.prog 106 #[.pointer (some ⟨b, 1, none⟩), .int .i64 d] W (Wrote b W s' v' ib (padding s.fl d)) :=
    fun W s' v' hP hfl hb => hfl ▸ writePadding_any hP d (show _ ≤ _ by omega) (by have := HD.out; omega) (by omega)
  have HC1 := Lib.hid C1
  have C2 : ∀ (W : World) (s' : PS) (v' : Value), s'.out.length + t.size ≤ 35184372088832 → PP b W s' v' ib → Calls Tryz.prog 76 #[.pointer (some ⟨b, 0, none⟩), .string t] W (Wrote b W s' v' ib t.data.toList) :=
    fun W s' v' hb hP => writeString_any hP t (Fits.room hb)
  have HC2 := Lib.hid C2
  clear C1 C2
  have hsz : t.data.toList.length = t.size := by rw [Array.length_toList]; rfl
  have HS := Lib.hid hsz
  clear hsz
  cases hm : s.fl.minus
  · have hp := HP.out
    rw [hm] at h4 hp
    rw [hp]
    clear hp hm
    go_enter Tryz.func88, Tryz.ntmps88
    go_wp2_with fail
    go_region_with (go_at_call 105; refine (HR.out _).mono ?_; rintro e w' ⟨rfl, o, rfl⟩)
    all_goals
      have HPw : ∃ W, Hid (W = (w.alloc o).drew) ∧ Hid (PP b W s v ib) ∧ Hid (Fr b w v W v) := ⟨_, rfl, (HH.out.alloc _).drew, ((Fr.refl _ _ _).alloc _).drew⟩
      obtain ⟨W, HW, HPW, HFW⟩ := HPw
      go_wp2_with fail
      first | (rw [← HW.out]) | skip
      refine (HC1.out _ _ _ HPW.out rfl (by have := HL.out; omega)).mono ?_
      rintro e w1 ⟨rfl, v1, hP1, hF1⟩
      have g1 := hP1.c1
      have HP1 := Lib.hid hP1
      have HF1 := Lib.hid hF1
      clear hP1 hF1
      go_wp2_with fail
      refine (HC2.out _ _ _ (by have := HL.out; simp only [List.length_append, padding_length]; omega) HP1.out).mono ?_
      rintro e w2 hW2
      have R2 := Wrote.append (HFW.out.trans HF1.out) hW2
      obtain ⟨rfl, hq⟩ := R2
      clear hW2
      go_wp2_with fail
      go_end0
      exact ⟨rfl, hq⟩
  · have hp := HP.out
    rw [hm] at h4 hp
    rw [hp]
    clear hp hm
    go_enter Tryz.func88, Tryz.ntmps88
    go_wp2_with fail
    go_region_with (go_at_call 105; refine (HR.out _).mono ?_; rintro e w' ⟨rfl, o, rfl⟩)
    all_goals
      have HPw : ∃ W, Hid (W = (w.alloc o).drew) ∧ Hid (PP b W s v ib) ∧ Hid (Fr b w v W v) := ⟨_, rfl, (HH.out.alloc _).drew, ((Fr.refl _ _ _).alloc _).drew⟩
      obtain ⟨W, HW, HPW, HFW⟩ := HPw
      go_wp2_with fail
      first | (rw [← HW.out]) | skip
      refine (HC2.out _ _ _ (by have := HL.out; omega) HPW.out).mono ?_
      rintro e w1 ⟨rfl, v1, hP1, hF1⟩
      have g1 := hP1.c1
      have HP1 := Lib.hid hP1
      have HF1 := Lib.hid hF1
      clear hP1 hF1
      go_wp2_with fail
      refine (HC1.out _ _ _ HP1.out rfl (by have := HL.out; show (s.out ++ t.data.toList).length + d.toNat ≤ 35184372088832; rw [List.length_append, HS.out]; omega)).mono ?_
      rintro e w2 hW2
      have R2 := Wrote.append (HFW.out.trans HF1.out) hW2
      obtain ⟨rfl, hq⟩ := R2
      clear hW2
      go_wp2_with fail
      go_end0
      exact ⟨rfl, hq⟩

theorem padString_any {b : Nat} {w : World} {s : PS} {v : Value} {ib : List Value} (h : PP b w s v ib) (t : ByteArray) (hf : FlOk s.fl) (hl : Fits (s.out.length + t.size + s.fl.wid.toNat)) :
    Calls Tryz.prog 88 #[.pointer (some ⟨b, 1, none⟩), .string t] w (Wrote b w s v ib (padM s.fl t.data.toList)) := by
  have hf1 := hf.1
  have hf2 := hf.2.1
  cases hw : s.fl.widP
  · exact padString_no h t (.inl hw) (hl.le (by omega))
  · by_cases h0 : s.fl.wid = 0
    · exact padString_no h t (.inr h0) (hl.le (by omega))
    · exact padString_yes h t hw (by omega) hf2 hl

end Go.Proofs.YtcbliojofnigdaaGreatDoor
