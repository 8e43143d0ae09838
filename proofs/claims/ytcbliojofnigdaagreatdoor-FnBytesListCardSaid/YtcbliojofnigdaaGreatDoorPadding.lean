/- The printer's padding. -/
import Derived.Test.YtcbliojofnigdaaGreatDoorWrite
import Derived.Test.YtcbliojofnigdaaGreatDoorMemB
namespace Go.Proofs.YtcbliojofnigdaaGreatDoor
open Go Go.Proofs Go.RowKit

/-- the byte that fills -/
def padB (f : Fl) : UInt8 := if f.zero && !f.minus then 48 else 32
def padding (f : Fl) (n : Int) : Bytes := List.replicate n.toNat (padB f)

set_option maxRecDepth 100000 in
set_option maxHeartbeats 400000 in
theorem writePadding_none {b : Nat} {w : World} {s : PS} {v : Value} {ib : List Value} (h : PP b w s v ib) (n : Int) (hn : n ≤ 0) :
    Calls Tryz.prog 106 #[.pointer (some ⟨b, 1, none⟩), .int .i64 n] w (Wrote b w s v ib (padding s.fl n)) := by
  go_enter Tryz.func106, Tryz.ntmps106
  go_wp2
  go_end0
  have : n.toNat = 0 := by omega
  exact ⟨rfl, v, by simpa [padding, this] using h, Fr.refl _ _ _⟩

set_option maxRecDepth 100000 in
set_option maxHeartbeats 1000000 in
theorem writePadding_fits {b : Nat} {w : World} {s : PS} {b1 o1 c1 L : Nat} {ib : List Value} (h : PP b w s (.slice (some ⟨b1, o1, none⟩) L c1) ib) (n : Int) (hn : 0 < n) (hfit : (L : Int) + n ≤ c1) (hc1 : (c1 : Int) ≤ 9223372036854775807) :
    Calls Tryz.prog 106 #[.pointer (some ⟨b, 1, none⟩), .int .i64 n] w (Wrote b w s (.slice (some ⟨b1, o1, none⟩) L c1) ib (padding s.fl n)) := by
  obtain ⟨n, rfl⟩ := Int.eq_ofNat_of_zero_le (show 0 ≤ n by omega)
  have h0 := h.c0
  have h1 := h.c1
  have h4 := h.c4
  have h8 := h.c8
  have hL := h.buf.len.1
  have hfin : ∀ (wr : World), App w (.slice (some ⟨b1, o1, none⟩) L c1) wr (.slice (some ⟨b1, o1, none⟩) (L + n) c1) (s.out ++ List.replicate n (padB s.fl)) →
      Wrote b w s (.slice (some ⟨b1, o1, none⟩) L c1) ib (padding s.fl n) (.returned (.tuple #[])) (wr.setCell ⟨b, 0, none⟩ (.slice (some ⟨b1, o1, none⟩) (L + n) c1)).drew := by
    intro wr hA
    have R := h.text hA
    exact ⟨rfl, _, by simpa [padding] using R.1.drew, R.2.drew⟩
  have HF := Lib.hid hfin
  have HH := Lib.hid h
  clear hfin h
  cases hz : s.fl.zero <;> cases hm : s.fl.minus <;> rw [hz] at h8 <;> rw [hm] at h4
  all_goals
    first
      | (have hu : u8 (padB s.fl) = .int .u8 32 := by simp only [padB, hz, hm]; rfl)
      | (have hu : u8 (padB s.fl) = .int .u8 48 := by simp only [padB, hz, hm]; rfl)
    have HU := Lib.hid hu
    clear hz hm hu
    obtain ⟨p, hp⟩ : ∃ p : UInt8, p = padB s.fl := ⟨_, rfl⟩
    rw [← hp] at HF HU
    clear hp
    go_enter Tryz.func106, Tryz.ntmps106
    go_wp2
    go_loopw [60] (fun i wr => ∃ k : Nat, k ≤ n ∧ i = .int .i64 k ∧ App w (.slice (some ⟨b1, o1, none⟩) L c1) wr (.slice (some ⟨b1, o1, none⟩) (L + k) c1) (s.out ++ List.replicate k p)) (fun i _ => n - (intOf i).toNat)
    case atStart => exact ⟨0, Nat.zero_le _, rfl, by simpa using App.refl HH.out.buf⟩
    case round =>
      obtain ⟨k, hk, rfl, hA⟩ := hrel
      by_cases hlt : k < n
      · obtain ⟨u, hu⟩ := hA.cellFree (L + k) (by omega)
        rw [← Nat.add_assoc] at hu
        have hf := hA.frz (o1 + L + k)
        have R := hA.store (by simp; omega) (by omega) p
        rw [← Nat.add_assoc, List.append_assoc, ← List.replicate_succ', HU.out] at R
        have RH := Lib.hid R
        clear hA R
        go_wp2
        go_roundw
        case rel => exact ⟨k + 1, by omega, by go_num, RH.out⟩
        case measure => simp [intOf]; omega
      · obtain rfl : k = n := by omega
        have g0 := HH.out.still0 hA
        have g1 : wr.cell? ⟨b, 1, none⟩ = some (.pointer (some ⟨b, 0, none⟩)) := by rw [World.cell?_of_block (a := ⟨b, 1, none⟩) (HH.out.still hA)]; exact h1
        have gf := HH.out.stillf hA 0
        have RH := Lib.hid (HF.out wr hA)
        clear hA h0 h1 h4 h8
        go_wp2
        go_region
        all_goals (go_end0; exact RH.out)

set_option maxRecDepth 100000 in
set_option maxHeartbeats 1000000 in
theorem writePadding_grows {b : Nat} {w : World} {s : PS} {ao : Option Addr} {c1 L : Nat} {ib : List Value} (h : PP b w s (.slice ao L c1) ib) (n : Int) (hn : 0 < n) (hfit : (c1 : Int) < L + n) (hr : Room (c1 * 2 + n.toNat)) :
    Calls Tryz.prog 106 #[.pointer (some ⟨b, 1, none⟩), .int .i64 n] w (Wrote b w s (.slice ao L c1) ib (padding s.fl n)) := by
  obtain ⟨n, rfl⟩ := Int.eq_ofNat_of_zero_le (show 0 ≤ n by omega)
  have h0 := h.c0
  have h1 := h.c1
  have hL := h.buf.len.1
  have hLc := h.buf.len.2.1
  have hc : c1 * 2 + n ≤ 140737488355328 := hr
  have hc2 : (c1 : Int) * 2 + n ≤ 9223372036854775807 := by omega
  clear hc
  have hfin : ∀ (m g : Nat) (v2 : Value) (w1 wr : World), Only none w w1 → w.heap.size ≤ g → App w1 (.slice (some ⟨g, 0, none⟩) m m) wr (.slice (some ⟨g, 0, none⟩) (L + n) m) (s.out ++ List.replicate n (padB s.fl)) →
      Wrote b w s (.slice ao L c1) ib (padding s.fl n) (.returned (.tuple #[])) (wr.setCell ⟨b, 0, none⟩ (.slice (some ⟨g, 0, none⟩) (L + n) m)).drew := by
    intro m g v2 w1 wr hO hg hA
    have hA' : App w (.slice ao L c1) wr (.slice (some ⟨g, 0, none⟩) (L + n) m) (s.out ++ List.replicate n (padB s.fl)) := by
      refine ⟨hA.buf, (Only.none hO).fresh hg hA.only, .inr ⟨g, 0, m, rfl, hg⟩⟩
    have R := h.text hA'
    exact ⟨rfl, _, by simpa [padding] using R.1.drew, R.2.drew⟩
  have HF := Lib.hid hfin
  have HH := Lib.hid h
  clear hfin h
  cases hz : s.fl.zero <;> cases hm : s.fl.minus
  all_goals
    first
      | (have hu : u8 (padB s.fl) = .int .u8 32 := by simp only [padB, hz, hm]; rfl)
      | (have hu : u8 (padB s.fl) = .int .u8 48 := by simp only [padB, hz, hm]; rfl)
    have HU := Lib.hid hu
    have HZ := Lib.hid hz
    have HM := Lib.hid hm
    clear hz hm hu
    obtain ⟨p, hp⟩ : ∃ p : UInt8, p = padB s.fl := ⟨_, rfl⟩
    rw [← hp] at HF HU
    clear hp
    go_enter Tryz.func106, Tryz.ntmps106
    go_wp2_with (at_make; refine wpList_mk rfl _ _ 119 rfl 5 Tryz.underlying119 byte5 .i64 .i64 _ _ (c1 * 2 + n) rfl rfl (by omega) (by omega) hr ?_)
    intro w1 hB hO hs
    have hP1 : PP b w1 s (.slice ao L c1) ib := HH.out.only hO (fun _ _ _ he => by cases he)
    have g0 := hP1.c0
    have g1 := hP1.c1
    have hgN : b < w.heap.size := HH.out.lt
    obtain ⟨g, hg⟩ : ∃ g, g = w.heap.size := ⟨_, rfl⟩
    rw [← hg] at hB hs hgN ⊢
    have HG := Lib.hid hg
    obtain ⟨m, hm⟩ : ∃ m, m = c1 * 2 + n := ⟨_, rfl⟩
    rw [← hm] at hB ⊢
    have hLm : L + n ≤ m := by omega
    have hmm : (m : Int) ≤ 9223372036854775807 := by omega
    have HB := Lib.hid hB
    have HO := Lib.hid hO
    have HP1 := Lib.hid hP1
    clear hB hO hP1 hg hm h0 h1
    go_wp2_with (refine wpList_cp rfl (.tmp 33) (.tmp 39) 119 119 rfl 5 Tryz.underlying119 (by kernel_rfl) g 0 m m _ rfl HB.out (.slice ao L c1) s.out rfl HP1.out.buf (by omega) ?_)
    intro w2 hA
    have hP2 : PP b w2 s (.slice ao L c1) ib := HP1.out.only hA.only (fun b' o c he => by
      cases he
      refine ⟨show g ≠ b by omega, fun b1 o1 c1 hv => show b1 ≠ g from ?_⟩
      have := HH.out.buf.place_lt hv
      have := HG.out
      omega)
    have g0 := hP2.c0
    have g1 := hP2.c1
    have g4 := hP2.c4
    have g8 := hP2.c8
    rw [HZ.out] at g8
    rw [HM.out] at g4
    have HA := Lib.hid hA
    have HP2 := Lib.hid hP2
    clear hA hP2
    go_wp2
    go_loopw [60] (fun i wr => ∃ k : Nat, k ≤ n ∧ i = .int .i64 k ∧ App w1 (.slice (some ⟨g, 0, none⟩) m m) wr (.slice (some ⟨g, 0, none⟩) (L + k) m) (s.out ++ List.replicate k p)) (fun i _ => n - (intOf i).toNat)
    case atStart => exact ⟨0, Nat.zero_le _, rfl, by have := HA.out; simpa using this⟩
    case round =>
      obtain ⟨k, hk, rfl, hA⟩ := hrel
      by_cases hlt : k < n
      · obtain ⟨u, hu⟩ := hA.cellFree (L + k) (by omega)
        rw [Nat.zero_add] at hu
        have hf := hA.frz (L + k)
        have R := hA.store (by simp; omega) (by omega) p
        rw [Nat.zero_add, Nat.add_assoc, List.append_assoc, ← List.replicate_succ', HU.out] at R
        have RH := Lib.hid R
        clear hA R
        go_wp2
        go_roundw
        case rel => exact ⟨k + 1, by omega, by go_num, RH.out⟩
        case measure => simp [intOf]; omega
      · obtain rfl : k = n := by omega
        have hP3 : PP b wr s (.slice ao L c1) ib := HP1.out.only hA.only (fun b' o c he => by
          cases he
          refine ⟨show g ≠ b by omega, fun b1 o1 c1 hv => show b1 ≠ g from ?_⟩
          have := HH.out.buf.place_lt hv
          have := HG.out
          omega)
        have g0 := hP3.c0
        have g1 := hP3.c1
        have gf := hP3.frz 0
        have RH := Lib.hid (HF.out m g (.slice ao L c1) w1 wr HO.out (by rw [← HG.out]; exact Nat.le_refl _) hA)
        clear hA hP3
        go_wp2
        go_region
        all_goals (go_end0; exact RH.out)

theorem writePadding_any {b : Nat} {w : World} {s : PS} {v : Value} {ib : List Value} (h : PP b w s v ib) (n : Int) (_hr : Room (s.out.length + n.toNat)) (hr2 : n ≤ 140737488) (hr3 : s.out.length ≤ 35184372088832) :
    Calls Tryz.prog 106 #[.pointer (some ⟨b, 1, none⟩), .int .i64 n] w (Wrote b w s v ib (padding s.fl n)) := by
  by_cases hn : n ≤ 0
  · exact writePadding_none h n hn
  · obtain ⟨ao, L, c1, rfl⟩ := h.buf.slice
    have hl := h.buf.len
    by_cases hfit : (L : Int) + n ≤ c1
    · rcases h.buf with ⟨hv, _⟩ | ⟨b', o, c, cs, e, hv, _⟩
      · cases hv; omega
      · cases hv
        exact writePadding_fits h n (by omega) hfit (by have := hl.2.2; unfold maxLen at this; omega)
    · exact writePadding_grows h n (by omega) (by omega) (show _ ≤ _ by omega)

end Go.Proofs.YtcbliojofnigdaaGreatDoor
