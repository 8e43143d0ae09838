/- FnString: the law's walk (printed by tools/gen_fnstring.py). -/
import Derived.Test.YtcbliojofnigdaaGreatDoorFlagAny
import Derived.Test.YtcbliojofnigdaaGreatDoorStrSetup
import Derived.Test.YtcbliojofnigdaaGreatDoorIntSpec
namespace Go.Proofs.YtcbliojofnigdaaGreatDoor
open Go Go.Proofs Go.RowKit

set_option maxRecDepth 100000 in
set_option maxHeartbeats 8000000 in
theorem FnString_115 (z : LA) (hz : z.text.size ≤ 4096) (hk : 15 ≤ z.kind ∧ z.kind ≤ 18) (h0 : 0 ≤ z.bits) (h1 : z.bits ≤ 18446744073709551615) (verb bits wid prec : Int) (hv : verb % 4 = 0) (w : World) (hT : Tabs w) :
    Calls Tryz.prog 12 #[z.val, .int .i64 verb, .int .i64 bits, .int .i64 wid, .int .i64 prec] w fun e w' => e = .returned (.bool true) ∧ Below w.heap.size w w' := by
  obtain ⟨b0, b1, b2, b3, b4, r, p, hr, hp, C21⟩ := flags_any bits wid prec
  have C16 := fun W => zzFits2_yes z (by omega) W
  have C17 := fun W => below_4 verb W
  rw [hv] at C17
  have C20 := fun (h16 : (115 : UInt8) = 118 → z.kind ≠ 16) (h118 : (115 : UInt8) = 118 → b2 = false) W (hT : Tabs W) => one_text z hk hz h0 h1 b0 b1 b2 b3 b4 r p hr hp 115 (by decide) h16 h118 W hT
  have hpg : p.getD 0 < 200 := by
    cases p with
    | none => decide
    | some k => exact hp k rfl
  have hps : (⟨(fmtOf b0 b1 b2 b3 b4 r p).toArray⟩ : ByteArray).size ≤ 100 := by
    rw [str_size]
    have hn := widB_num r (by omega)
    have hfl : (flagB b0 b1 b2 b3 b4).length ≤ 5 := by cases b0 <;> cases b1 <;> cases b2 <;> cases b3 <;> cases b4 <;> decide
    have := hn.2.2.1
    have hpl : (precB (p.map dec)).length ≤ 7 := by
      cases p with
      | none => decide
      | some k =>
        have := dec_len k (by have := hp k rfl; omega)
        simp only [Option.map_some, precB, List.length_cons]
        omega
    simp only [fmtOf, List.length_append, List.length_cons]
    omega
  obtain ⟨P, hP⟩ : ∃ P : ByteArray, P = ⟨(fmtOf b0 b1 b2 b3 b4 r p).toArray⟩ := ⟨_, rfl⟩
  rw [← hP] at C21 C20 hps
  have hroom : ¬ 9223372036854775807 < P.size + 1 := by omega
  have hfv : (sfOf b0 b1 b2 b3 b4 r p).val = .agg #[.int .i64 r, .int .i64 ((p.getD 0 : Nat) : Int), .bool (decide (r ≠ 0)), .bool p.isSome, .bool b0, .bool b1, .bool b2, .bool b3, .bool (b4 && !b0)] := rfl
  have q1 := kcOne 115 115 rfl
  have hw1 : (sfOf b0 b1 b2 b3 b4 r p).wid ≤ 1000000 := by show (r : Int) ≤ 1000000; omega
  have hw0 : 0 ≤ (sfOf b0 b1 b2 b3 b4 r p).wid := by show (0 : Int) ≤ (r : Int); omega
  have hpp : (sfOf b0 b1 b2 b3 b4 r p).hasPrec = true → 0 ≤ (sfOf b0 b1 b2 b3 b4 r p).prec ∧ (sfOf b0 b1 b2 b3 b4 r p).prec ≤ 1000000 := by
    intro _
    show (0 : Int) ≤ ((p.getD 0 : Nat) : Int) ∧ ((p.getD 0 : Nat) : Int) ≤ 1000000
    omega
  have C41 := fun W => String_any (sfOf b0 b1 b2 b3 b4 r p) z.text (by omega) hw0 hw1 hpp W
  obtain ⟨S, hS⟩ : ∃ S : ByteArray, S = ⟨(specStr (sfOf b0 b1 b2 b3 b4 r p) z.text.data.toList).toArray⟩ := ⟨_, rfl⟩
  rw [← hS] at C41
  have C20' : ((115 : UInt8) = 118 → z.kind ≠ 16) → ((115 : UInt8) = 118 → b2 = false) → ∀ W, Tabs W → Calls Tryz.prog 20 #[.string (P ++ ⟨#[115]⟩), z.val] W fun e w' => e = .returned (.string S) ∧ Only none W w' := by
    intro h16 h118 W hT
    have := C20 h16 h118 W hT
    rw [text_sv b0 b1 b2 b3 b4 r p _ (by decide) (fun h => h118 (by revert h; decide)), ← hS] at this
    exact this
  rw [hfv] at C21 C41
  have HT := Lib.hid hT
  have hzk1 : ¬ z.kind < 15 := by omega
  have hzk2 : ¬ 18 < z.kind := by omega
  have hzt : ¬ 4096 < (z.text.size : Int) := by omega
  generalize (b4 && !b0) = b5 at *
  generalize decide (r ≠ 0) = b6 at *
  generalize p.isSome = b7 at *
  generalize ((p.getD 0 : Nat) : Int) = pz at *
  clear C20 hS hP hfv hw1 hw0 hpp hpg hp hr hv h0 h1 hT hk hz
  obtain ⟨zk, zb, zt⟩ := z
  unfold LA.val at C16 C20' ⊢
  dsimp only at C16 C20' C41 hzk1 hzk2 hzt
  have H16 := Lib.hid C16
  have H17 := Lib.hid C17
  have H21 := Lib.hid C21
  have H41 := Lib.hid C41
  clear C16 C17 C21 C41
  have C20'' := C20' (fun h => by cases h) (fun h => by cases h)
  have H20 := Lib.hid C20''
  clear C20' C20''
  go_enter Tryz.func12, Tryz.ntmps12
  go_wp2_with (first
    | (go_at_call 16; refine (H16.out _).mono ?_; rintro e w2 ⟨rfl, hO2⟩; have hc2 := fun j => only_cellAt hO2 (k := w.heap.size) (by simp) j; have hs2 : w.heap.size < w2.heap.size := Nat.lt_of_lt_of_le (by simp) hO2.size)
    | (go_at_call 17; refine (H17.out _).mono ?_; rintro e w4 ⟨rfl, rfl⟩)
    | (go_at_call 21; refine (H21.out _).mono ?_; rintro e w5 ⟨rfl, hO5⟩; have hc5 := fun j => only_cellAt hO5 (k := w.heap.size) (by first | assumption | omega | (simp; omega)) j; have hd5 := fun j => only_cellAt hO5 (k := w2.heap.size) (by simp) j; have hs5 : w.heap.size < w5.heap.size := Nat.lt_of_lt_of_le (by first | assumption | omega | (simp; omega)) hO5.size; have hs25 : w2.heap.size < w5.heap.size := Nat.lt_of_lt_of_le (by simp) hO5.size)
    | (go_at_call 20; refine (H20.out _ ?_).mono ?_; (· exact HT.out.only ((((((((Only.refl _ _).alloc _).trans hO2).alloc _).trans hO5).alloc _).alloc _))); rintro e w6 ⟨rfl, hO6⟩; have hc6 := fun j => only_cellAt hO6 (k := w.heap.size) (by first | assumption | omega | (simp; omega)) j; have hd6 := fun j => only_cellAt hO6 (k := w5.heap.size) (by first | assumption | omega | (simp; omega)) j; have hs6 : w.heap.size < w6.heap.size := Nat.lt_of_lt_of_le (by first | assumption | omega | (simp; omega)) hO6.size)
    | (go_at_call 41; refine (H41.out _).mono ?_; rintro e w7 ⟨rfl, hO7⟩))
  all_goals try (exfalso; omega)
  go_ret
  exact ⟨rfl, Only.below ((((((((((Only.refl _ _).alloc _).trans hO2).alloc _).trans hO5).alloc _).alloc _).trans hO6).trans hO7))⟩

set_option maxRecDepth 100000 in
set_option maxHeartbeats 8000000 in
theorem FnString_118 (z : LA) (hz : z.text.size ≤ 4096) (hk : 15 ≤ z.kind ∧ z.kind ≤ 18) (h0 : 0 ≤ z.bits) (h1 : z.bits ≤ 18446744073709551615) (verb bits wid prec : Int) (hv : verb % 4 = 1) (w : World) (hT : Tabs w) :
    Calls Tryz.prog 12 #[z.val, .int .i64 verb, .int .i64 bits, .int .i64 wid, .int .i64 prec] w fun e w' => e = .returned (.bool true) ∧ Below w.heap.size w w' := by
  obtain ⟨b0, b1, b2, b3, b4, r, p, hr, hp, C21⟩ := flags_any bits wid prec
  have C16 := fun W => zzFits2_yes z (by omega) W
  have C17 := fun W => below_4 verb W
  rw [hv] at C17
  have C20 := fun (h16 : (118 : UInt8) = 118 → z.kind ≠ 16) (h118 : (118 : UInt8) = 118 → b2 = false) W (hT : Tabs W) => one_text z hk hz h0 h1 b0 b1 b2 b3 b4 r p hr hp 118 (by decide) h16 h118 W hT
  have hpg : p.getD 0 < 200 := by
    cases p with
    | none => decide
    | some k => exact hp k rfl
  have hps : (⟨(fmtOf b0 b1 b2 b3 b4 r p).toArray⟩ : ByteArray).size ≤ 100 := by
    rw [str_size]
    have hn := widB_num r (by omega)
    have hfl : (flagB b0 b1 b2 b3 b4).length ≤ 5 := by cases b0 <;> cases b1 <;> cases b2 <;> cases b3 <;> cases b4 <;> decide
    have := hn.2.2.1
    have hpl : (precB (p.map dec)).length ≤ 7 := by
      cases p with
      | none => decide
      | some k =>
        have := dec_len k (by have := hp k rfl; omega)
        simp only [Option.map_some, precB, List.length_cons]
        omega
    simp only [fmtOf, List.length_append, List.length_cons]
    omega
  obtain ⟨P, hP⟩ : ∃ P : ByteArray, P = ⟨(fmtOf b0 b1 b2 b3 b4 r p).toArray⟩ := ⟨_, rfl⟩
  rw [← hP] at C21 C20 hps
  have hroom : ¬ 9223372036854775807 < P.size + 1 := by omega
  have hfv : (sfOf b0 b1 b2 b3 b4 r p).val = .agg #[.int .i64 r, .int .i64 ((p.getD 0 : Nat) : Int), .bool (decide (r ≠ 0)), .bool p.isSome, .bool b0, .bool b1, .bool b2, .bool b3, .bool (b4 && !b0)] := rfl
  have q1 := kcOne 118 118 rfl
  have hw1 : (sfOf b0 b1 b2 b3 b4 r p).wid ≤ 1000000 := by show (r : Int) ≤ 1000000; omega
  have hw0 : 0 ≤ (sfOf b0 b1 b2 b3 b4 r p).wid := by show (0 : Int) ≤ (r : Int); omega
  have hpp : (sfOf b0 b1 b2 b3 b4 r p).hasPrec = true → 0 ≤ (sfOf b0 b1 b2 b3 b4 r p).prec ∧ (sfOf b0 b1 b2 b3 b4 r p).prec ≤ 1000000 := by
    intro _
    show (0 : Int) ≤ ((p.getD 0 : Nat) : Int) ∧ ((p.getD 0 : Nat) : Int) ≤ 1000000
    omega
  have C41 := fun W => String_any (sfOf b0 b1 b2 b3 b4 r p) z.text (by omega) hw0 hw1 hpp W
  obtain ⟨S, hS⟩ : ∃ S : ByteArray, S = ⟨(specStr (sfOf b0 b1 b2 b3 b4 r p) z.text.data.toList).toArray⟩ := ⟨_, rfl⟩
  rw [← hS] at C41
  have C20' : ((118 : UInt8) = 118 → z.kind ≠ 16) → ((118 : UInt8) = 118 → b2 = false) → ∀ W, Tabs W → Calls Tryz.prog 20 #[.string (P ++ ⟨#[118]⟩), z.val] W fun e w' => e = .returned (.string S) ∧ Only none W w' := by
    intro h16 h118 W hT
    have := C20 h16 h118 W hT
    rw [text_sv b0 b1 b2 b3 b4 r p _ (by decide) (fun h => h118 (by revert h; decide)), ← hS] at this
    exact this
  rw [hfv] at C21 C41
  have HT := Lib.hid hT
  have hzk1 : ¬ z.kind < 15 := by omega
  have hzk2 : ¬ 18 < z.kind := by omega
  have hzt : ¬ 4096 < (z.text.size : Int) := by omega
  generalize (b4 && !b0) = b5 at *
  generalize decide (r ≠ 0) = b6 at *
  generalize p.isSome = b7 at *
  generalize ((p.getD 0 : Nat) : Int) = pz at *
  clear C20 hS hP hfv hw1 hw0 hpp hpg hp hr hv h0 h1 hT hk hz
  obtain ⟨zk, zb, zt⟩ := z
  unfold LA.val at C16 C20' ⊢
  dsimp only at C16 C20' C41 hzk1 hzk2 hzt
  have H16 := Lib.hid C16
  have H17 := Lib.hid C17
  have H21 := Lib.hid C21
  have H41 := Lib.hid C41
  clear C16 C17 C21 C41
  by_cases hb : b2 = true ∨ zk = 16
  · clear C20'
    rcases (by cases b2 <;> simp at hb ⊢ <;> exact hb : b2 = true ∨ (b2 = false ∧ zk = 16)) with rfl | ⟨rfl, rfl⟩
    all_goals
      clear hb
      go_enter Tryz.func12, Tryz.ntmps12
      go_wp2_with (first
    | (go_at_call 16; refine (H16.out _).mono ?_; rintro e w2 ⟨rfl, hO2⟩; have hc2 := fun j => only_cellAt hO2 (k := w.heap.size) (by simp) j; have hs2 : w.heap.size < w2.heap.size := Nat.lt_of_lt_of_le (by simp) hO2.size)
    | (go_at_call 17; refine (H17.out _).mono ?_; rintro e w4 ⟨rfl, rfl⟩)
    | (go_at_call 21; refine (H21.out _).mono ?_; rintro e w5 ⟨rfl, hO5⟩; have hc5 := fun j => only_cellAt hO5 (k := w.heap.size) (by first | assumption | omega | (simp; omega)) j; have hd5 := fun j => only_cellAt hO5 (k := w2.heap.size) (by simp) j; have hs5 : w.heap.size < w5.heap.size := Nat.lt_of_lt_of_le (by first | assumption | omega | (simp; omega)) hO5.size; have hs25 : w2.heap.size < w5.heap.size := Nat.lt_of_lt_of_le (by simp) hO5.size)
    | (go_at_call 20; refine (H20.out _ ?_).mono ?_; (· exact HT.out.only ((((((((Only.refl _ _).alloc _).trans hO2).alloc _).trans hO5).alloc _).alloc _))); rintro e w6 ⟨rfl, hO6⟩; have hc6 := fun j => only_cellAt hO6 (k := w.heap.size) (by first | assumption | omega | (simp; omega)) j; have hd6 := fun j => only_cellAt hO6 (k := w5.heap.size) (by first | assumption | omega | (simp; omega)) j; have hs6 : w.heap.size < w6.heap.size := Nat.lt_of_lt_of_le (by first | assumption | omega | (simp; omega)) hO6.size))
      all_goals try (exfalso; omega)
      go_ret
      exact ⟨rfl, Only.below ((((((Only.refl _ _).alloc _).trans hO2).alloc _).trans hO5).alloc _)⟩
  · obtain ⟨rfl, hk16⟩ : b2 = false ∧ ¬ zk = 16 := by cases b2 <;> simp at hb ⊢ <;> exact hb
    clear hb
    have C20'' := C20' (fun _ => hk16) (fun _ => rfl)
    have H20 := Lib.hid C20''
    clear C20' C20''
    go_enter Tryz.func12, Tryz.ntmps12
    go_wp2_with (first
    | (go_at_call 16; refine (H16.out _).mono ?_; rintro e w2 ⟨rfl, hO2⟩; have hc2 := fun j => only_cellAt hO2 (k := w.heap.size) (by simp) j; have hs2 : w.heap.size < w2.heap.size := Nat.lt_of_lt_of_le (by simp) hO2.size)
    | (go_at_call 17; refine (H17.out _).mono ?_; rintro e w4 ⟨rfl, rfl⟩)
    | (go_at_call 21; refine (H21.out _).mono ?_; rintro e w5 ⟨rfl, hO5⟩; have hc5 := fun j => only_cellAt hO5 (k := w.heap.size) (by first | assumption | omega | (simp; omega)) j; have hd5 := fun j => only_cellAt hO5 (k := w2.heap.size) (by simp) j; have hs5 : w.heap.size < w5.heap.size := Nat.lt_of_lt_of_le (by first | assumption | omega | (simp; omega)) hO5.size; have hs25 : w2.heap.size < w5.heap.size := Nat.lt_of_lt_of_le (by simp) hO5.size)
    | (go_at_call 20; refine (H20.out _ ?_).mono ?_; (· exact HT.out.only ((((((((Only.refl _ _).alloc _).trans hO2).alloc _).trans hO5).alloc _).alloc _))); rintro e w6 ⟨rfl, hO6⟩; have hc6 := fun j => only_cellAt hO6 (k := w.heap.size) (by first | assumption | omega | (simp; omega)) j; have hd6 := fun j => only_cellAt hO6 (k := w5.heap.size) (by first | assumption | omega | (simp; omega)) j; have hs6 : w.heap.size < w6.heap.size := Nat.lt_of_lt_of_le (by first | assumption | omega | (simp; omega)) hO6.size)
    | (go_at_call 41; refine (H41.out _).mono ?_; rintro e w7 ⟨rfl, hO7⟩))
    all_goals try (exfalso; omega)
    go_ret
    exact ⟨rfl, Only.below ((((((((((Only.refl _ _).alloc _).trans hO2).alloc _).trans hO5).alloc _).alloc _).trans hO6).trans hO7))⟩

set_option maxRecDepth 100000 in
set_option maxHeartbeats 8000000 in
theorem FnString_120 (z : LA) (hz : z.text.size ≤ 4096) (hk : 15 ≤ z.kind ∧ z.kind ≤ 18) (h0 : 0 ≤ z.bits) (h1 : z.bits ≤ 18446744073709551615) (verb bits wid prec : Int) (hv : verb % 4 = 2) (w : World) (hT : Tabs w) :
    Calls Tryz.prog 12 #[z.val, .int .i64 verb, .int .i64 bits, .int .i64 wid, .int .i64 prec] w fun e w' => e = .returned (.bool true) ∧ Below w.heap.size w w' := by
  obtain ⟨b0, b1, b2, b3, b4, r, p, hr, hp, C21⟩ := flags_any bits wid prec
  have C16 := fun W => zzFits2_yes z (by omega) W
  have C17 := fun W => below_4 verb W
  rw [hv] at C17
  have C20 := fun (h16 : (120 : UInt8) = 118 → z.kind ≠ 16) (h118 : (120 : UInt8) = 118 → b2 = false) W (hT : Tabs W) => one_text z hk hz h0 h1 b0 b1 b2 b3 b4 r p hr hp 120 (by decide) h16 h118 W hT
  have hpg : p.getD 0 < 200 := by
    cases p with
    | none => decide
    | some k => exact hp k rfl
  have hps : (⟨(fmtOf b0 b1 b2 b3 b4 r p).toArray⟩ : ByteArray).size ≤ 100 := by
    rw [str_size]
    have hn := widB_num r (by omega)
    have hfl : (flagB b0 b1 b2 b3 b4).length ≤ 5 := by cases b0 <;> cases b1 <;> cases b2 <;> cases b3 <;> cases b4 <;> decide
    have := hn.2.2.1
    have hpl : (precB (p.map dec)).length ≤ 7 := by
      cases p with
      | none => decide
      | some k =>
        have := dec_len k (by have := hp k rfl; omega)
        simp only [Option.map_some, precB, List.length_cons]
        omega
    simp only [fmtOf, List.length_append, List.length_cons]
    omega
  obtain ⟨P, hP⟩ : ∃ P : ByteArray, P = ⟨(fmtOf b0 b1 b2 b3 b4 r p).toArray⟩ := ⟨_, rfl⟩
  rw [← hP] at C21 C20 hps
  have hroom : ¬ 9223372036854775807 < P.size + 1 := by omega
  have hfv : (sfOf b0 b1 b2 b3 b4 r p).val = .agg #[.int .i64 r, .int .i64 ((p.getD 0 : Nat) : Int), .bool (decide (r ≠ 0)), .bool p.isSome, .bool b0, .bool b1, .bool b2, .bool b3, .bool (b4 && !b0)] := rfl
  have q1 := kcOne 120 120 rfl
  have hw1 : (sfOf b0 b1 b2 b3 b4 r p).wid ≤ 1000000 := by show (r : Int) ≤ 1000000; omega
  have hw0 : 0 ≤ (sfOf b0 b1 b2 b3 b4 r p).wid := by show (0 : Int) ≤ (r : Int); omega
  have hpp : (sfOf b0 b1 b2 b3 b4 r p).hasPrec = true → 0 ≤ (sfOf b0 b1 b2 b3 b4 r p).prec ∧ (sfOf b0 b1 b2 b3 b4 r p).prec ≤ 1000000 := by
    intro _
    show (0 : Int) ≤ ((p.getD 0 : Nat) : Int) ∧ ((p.getD 0 : Nat) : Int) ≤ 1000000
    omega
  have C20' : ∀ W, Tabs W → Calls Tryz.prog 20 #[.string (P ++ ⟨#[120]⟩), z.val] W fun e w' => e = .returned (.string ⟨(strM ((flOf b0 b1 b2 b3 b4 r p).forVerb 120) 120 z.text.data.toList).toArray⟩) ∧ Only none W w' := fun W hT => C20 (fun h => by cases h) (fun h => by cases h) W hT
  have hX := fun y hy => text_x b0 b1 b2 b3 b4 r p 120 (by decide) z.text.data.toList y hy
  have CY := fun y hy W => Bytes_yes (sfOf b0 b1 b2 b3 b4 r p) z.text false y hy hz hw0 hw1 hpp W
  have CN := fun hy W => Bytes_no (sfOf b0 b1 b2 b3 b4 r p) z.text false hy hpp W
  obtain ⟨T, hTT⟩ : ∃ T, T = specHex (sfOf b0 b1 b2 b3 b4 r p) false z.text.data.toList := ⟨_, rfl⟩
  rw [← hTT] at CY CN
  have hX' : ∀ y, T = some y → strM ((flOf b0 b1 b2 b3 b4 r p).forVerb 120) 120 z.text.data.toList = y := fun y hy => hX y (by rw [← hy, hTT]; rfl)
  generalize strM ((flOf b0 b1 b2 b3 b4 r p).forVerb 120) 120 z.text.data.toList = M at *
  rw [hfv] at C21 CY CN
  have HT := Lib.hid hT
  have hzk1 : ¬ z.kind < 15 := by omega
  have hzk2 : ¬ 18 < z.kind := by omega
  have hzt : ¬ 4096 < (z.text.size : Int) := by omega
  generalize (b4 && !b0) = b5 at *
  generalize decide (r ≠ 0) = b6 at *
  generalize p.isSome = b7 at *
  generalize ((p.getD 0 : Nat) : Int) = pz at *
  clear C20 hX hTT hP hfv hw1 hw0 hpp hpg hp hr hv h0 h1 hT hk hz
  obtain ⟨zk, zb, zt⟩ := z
  unfold LA.val at C16 C20' ⊢
  dsimp only at C16 C20' CY CN hzk1 hzk2 hzt
  have H16 := Lib.hid C16
  have H17 := Lib.hid C17
  have H21 := Lib.hid C21
  clear C16 C17 C21
  obtain ⟨S, hS⟩ : ∃ S : ByteArray, S = ⟨M.toArray⟩ := ⟨_, rfl⟩
  rw [← hS] at C20'
  have H20 := Lib.hid C20'
  clear C20'
  cases T with
  | none =>
    have H42 := Lib.hid (CN rfl)
    clear CN CY hX' hS
    go_enter Tryz.func12, Tryz.ntmps12
    go_wp2_with (first
    | (go_at_call 16; refine (H16.out _).mono ?_; rintro e w2 ⟨rfl, hO2⟩; have hc2 := fun j => only_cellAt hO2 (k := w.heap.size) (by simp) j; have hs2 : w.heap.size < w2.heap.size := Nat.lt_of_lt_of_le (by simp) hO2.size)
    | (go_at_call 17; refine (H17.out _).mono ?_; rintro e w4 ⟨rfl, rfl⟩)
    | (go_at_call 21; refine (H21.out _).mono ?_; rintro e w5 ⟨rfl, hO5⟩; have hc5 := fun j => only_cellAt hO5 (k := w.heap.size) (by first | assumption | omega | (simp; omega)) j; have hd5 := fun j => only_cellAt hO5 (k := w2.heap.size) (by simp) j; have hs5 : w.heap.size < w5.heap.size := Nat.lt_of_lt_of_le (by first | assumption | omega | (simp; omega)) hO5.size; have hs25 : w2.heap.size < w5.heap.size := Nat.lt_of_lt_of_le (by simp) hO5.size)
    | (go_at_call 20; refine (H20.out _ ?_).mono ?_; (· exact HT.out.only ((((((((Only.refl _ _).alloc _).trans hO2).alloc _).trans hO5).alloc _).alloc _))); rintro e w6 ⟨rfl, hO6⟩; have hc6 := fun j => only_cellAt hO6 (k := w.heap.size) (by first | assumption | omega | (simp; omega)) j; have hd6 := fun j => only_cellAt hO6 (k := w5.heap.size) (by first | assumption | omega | (simp; omega)) j; have hs6 : w.heap.size < w6.heap.size := Nat.lt_of_lt_of_le (by first | assumption | omega | (simp; omega)) hO6.size)
    | (go_at_call 42; refine (H42.out _).mono ?_; rintro e w7 ⟨rfl, hO7⟩))
    all_goals try (exfalso; omega)
    go_ret
    exact ⟨rfl, Only.below ((((((((((Only.refl _ _).alloc _).trans hO2).alloc _).trans hO5).alloc _).alloc _).trans hO6).trans hO7))⟩
  | some y =>
    have hm := hX' y rfl
    have CY' := CY y rfl
    rw [← hm, ← hS] at CY'
    have H42 := Lib.hid CY'
    clear CN CY CY' hX' hS hm
    go_enter Tryz.func12, Tryz.ntmps12
    go_wp2_with (first
    | (go_at_call 16; refine (H16.out _).mono ?_; rintro e w2 ⟨rfl, hO2⟩; have hc2 := fun j => only_cellAt hO2 (k := w.heap.size) (by simp) j; have hs2 : w.heap.size < w2.heap.size := Nat.lt_of_lt_of_le (by simp) hO2.size)
    | (go_at_call 17; refine (H17.out _).mono ?_; rintro e w4 ⟨rfl, rfl⟩)
    | (go_at_call 21; refine (H21.out _).mono ?_; rintro e w5 ⟨rfl, hO5⟩; have hc5 := fun j => only_cellAt hO5 (k := w.heap.size) (by first | assumption | omega | (simp; omega)) j; have hd5 := fun j => only_cellAt hO5 (k := w2.heap.size) (by simp) j; have hs5 : w.heap.size < w5.heap.size := Nat.lt_of_lt_of_le (by first | assumption | omega | (simp; omega)) hO5.size; have hs25 : w2.heap.size < w5.heap.size := Nat.lt_of_lt_of_le (by simp) hO5.size)
    | (go_at_call 20; refine (H20.out _ ?_).mono ?_; (· exact HT.out.only ((((((((Only.refl _ _).alloc _).trans hO2).alloc _).trans hO5).alloc _).alloc _))); rintro e w6 ⟨rfl, hO6⟩; have hc6 := fun j => only_cellAt hO6 (k := w.heap.size) (by first | assumption | omega | (simp; omega)) j; have hd6 := fun j => only_cellAt hO6 (k := w5.heap.size) (by first | assumption | omega | (simp; omega)) j; have hs6 : w.heap.size < w6.heap.size := Nat.lt_of_lt_of_le (by first | assumption | omega | (simp; omega)) hO6.size)
    | (go_at_call 42; refine (H42.out _).mono ?_; rintro e w7 ⟨rfl, hO7⟩))
    all_goals try (exfalso; omega)
    go_ret
    exact ⟨rfl, Only.below ((((((((((Only.refl _ _).alloc _).trans hO2).alloc _).trans hO5).alloc _).alloc _).trans hO6).trans hO7))⟩

set_option maxRecDepth 100000 in
set_option maxHeartbeats 8000000 in
theorem FnString_88 (z : LA) (hz : z.text.size ≤ 4096) (hk : 15 ≤ z.kind ∧ z.kind ≤ 18) (h0 : 0 ≤ z.bits) (h1 : z.bits ≤ 18446744073709551615) (verb bits wid prec : Int) (hv : verb % 4 = 3) (w : World) (hT : Tabs w) :
    Calls Tryz.prog 12 #[z.val, .int .i64 verb, .int .i64 bits, .int .i64 wid, .int .i64 prec] w fun e w' => e = .returned (.bool true) ∧ Below w.heap.size w w' := by
  obtain ⟨b0, b1, b2, b3, b4, r, p, hr, hp, C21⟩ := flags_any bits wid prec
  have C16 := fun W => zzFits2_yes z (by omega) W
  have C17 := fun W => below_4 verb W
  rw [hv] at C17
  have C20 := fun (h16 : (88 : UInt8) = 118 → z.kind ≠ 16) (h118 : (88 : UInt8) = 118 → b2 = false) W (hT : Tabs W) => one_text z hk hz h0 h1 b0 b1 b2 b3 b4 r p hr hp 88 (by decide) h16 h118 W hT
  have hpg : p.getD 0 < 200 := by
    cases p with
    | none => decide
    | some k => exact hp k rfl
  have hps : (⟨(fmtOf b0 b1 b2 b3 b4 r p).toArray⟩ : ByteArray).size ≤ 100 := by
    rw [str_size]
    have hn := widB_num r (by omega)
    have hfl : (flagB b0 b1 b2 b3 b4).length ≤ 5 := by cases b0 <;> cases b1 <;> cases b2 <;> cases b3 <;> cases b4 <;> decide
    have := hn.2.2.1
    have hpl : (precB (p.map dec)).length ≤ 7 := by
      cases p with
      | none => decide
      | some k =>
        have := dec_len k (by have := hp k rfl; omega)
        simp only [Option.map_some, precB, List.length_cons]
        omega
    simp only [fmtOf, List.length_append, List.length_cons]
    omega
  obtain ⟨P, hP⟩ : ∃ P : ByteArray, P = ⟨(fmtOf b0 b1 b2 b3 b4 r p).toArray⟩ := ⟨_, rfl⟩
  rw [← hP] at C21 C20 hps
  have hroom : ¬ 9223372036854775807 < P.size + 1 := by omega
  have hfv : (sfOf b0 b1 b2 b3 b4 r p).val = .agg #[.int .i64 r, .int .i64 ((p.getD 0 : Nat) : Int), .bool (decide (r ≠ 0)), .bool p.isSome, .bool b0, .bool b1, .bool b2, .bool b3, .bool (b4 && !b0)] := rfl
  have q1 := kcOne 88 88 rfl
  have hw1 : (sfOf b0 b1 b2 b3 b4 r p).wid ≤ 1000000 := by show (r : Int) ≤ 1000000; omega
  have hw0 : 0 ≤ (sfOf b0 b1 b2 b3 b4 r p).wid := by show (0 : Int) ≤ (r : Int); omega
  have hpp : (sfOf b0 b1 b2 b3 b4 r p).hasPrec = true → 0 ≤ (sfOf b0 b1 b2 b3 b4 r p).prec ∧ (sfOf b0 b1 b2 b3 b4 r p).prec ≤ 1000000 := by
    intro _
    show (0 : Int) ≤ ((p.getD 0 : Nat) : Int) ∧ ((p.getD 0 : Nat) : Int) ≤ 1000000
    omega
  have C20' : ∀ W, Tabs W → Calls Tryz.prog 20 #[.string (P ++ ⟨#[88]⟩), z.val] W fun e w' => e = .returned (.string ⟨(strM ((flOf b0 b1 b2 b3 b4 r p).forVerb 88) 88 z.text.data.toList).toArray⟩) ∧ Only none W w' := fun W hT => C20 (fun h => by cases h) (fun h => by cases h) W hT
  have hX := fun y hy => text_x b0 b1 b2 b3 b4 r p 88 (by decide) z.text.data.toList y hy
  have CY := fun y hy W => Bytes_yes (sfOf b0 b1 b2 b3 b4 r p) z.text true y hy hz hw0 hw1 hpp W
  have CN := fun hy W => Bytes_no (sfOf b0 b1 b2 b3 b4 r p) z.text true hy hpp W
  obtain ⟨T, hTT⟩ : ∃ T, T = specHex (sfOf b0 b1 b2 b3 b4 r p) true z.text.data.toList := ⟨_, rfl⟩
  rw [← hTT] at CY CN
  have hX' : ∀ y, T = some y → strM ((flOf b0 b1 b2 b3 b4 r p).forVerb 88) 88 z.text.data.toList = y := fun y hy => hX y (by rw [← hy, hTT]; rfl)
  generalize strM ((flOf b0 b1 b2 b3 b4 r p).forVerb 88) 88 z.text.data.toList = M at *
  rw [hfv] at C21 CY CN
  have HT := Lib.hid hT
  have hzk1 : ¬ z.kind < 15 := by omega
  have hzk2 : ¬ 18 < z.kind := by omega
  have hzt : ¬ 4096 < (z.text.size : Int) := by omega
  generalize (b4 && !b0) = b5 at *
  generalize decide (r ≠ 0) = b6 at *
  generalize p.isSome = b7 at *
  generalize ((p.getD 0 : Nat) : Int) = pz at *
  clear C20 hX hTT hP hfv hw1 hw0 hpp hpg hp hr hv h0 h1 hT hk hz
  obtain ⟨zk, zb, zt⟩ := z
  unfold LA.val at C16 C20' ⊢
  dsimp only at C16 C20' CY CN hzk1 hzk2 hzt
  have H16 := Lib.hid C16
  have H17 := Lib.hid C17
  have H21 := Lib.hid C21
  clear C16 C17 C21
  obtain ⟨S, hS⟩ : ∃ S : ByteArray, S = ⟨M.toArray⟩ := ⟨_, rfl⟩
  rw [← hS] at C20'
  have H20 := Lib.hid C20'
  clear C20'
  cases T with
  | none =>
    have H42 := Lib.hid (CN rfl)
    clear CN CY hX' hS
    go_enter Tryz.func12, Tryz.ntmps12
    go_wp2_with (first
    | (go_at_call 16; refine (H16.out _).mono ?_; rintro e w2 ⟨rfl, hO2⟩; have hc2 := fun j => only_cellAt hO2 (k := w.heap.size) (by simp) j; have hs2 : w.heap.size < w2.heap.size := Nat.lt_of_lt_of_le (by simp) hO2.size)
    | (go_at_call 17; refine (H17.out _).mono ?_; rintro e w4 ⟨rfl, rfl⟩)
    | (go_at_call 21; refine (H21.out _).mono ?_; rintro e w5 ⟨rfl, hO5⟩; have hc5 := fun j => only_cellAt hO5 (k := w.heap.size) (by first | assumption | omega | (simp; omega)) j; have hd5 := fun j => only_cellAt hO5 (k := w2.heap.size) (by simp) j; have hs5 : w.heap.size < w5.heap.size := Nat.lt_of_lt_of_le (by first | assumption | omega | (simp; omega)) hO5.size; have hs25 : w2.heap.size < w5.heap.size := Nat.lt_of_lt_of_le (by simp) hO5.size)
    | (go_at_call 20; refine (H20.out _ ?_).mono ?_; (· exact HT.out.only ((((((((Only.refl _ _).alloc _).trans hO2).alloc _).trans hO5).alloc _).alloc _))); rintro e w6 ⟨rfl, hO6⟩; have hc6 := fun j => only_cellAt hO6 (k := w.heap.size) (by first | assumption | omega | (simp; omega)) j; have hd6 := fun j => only_cellAt hO6 (k := w5.heap.size) (by first | assumption | omega | (simp; omega)) j; have hs6 : w.heap.size < w6.heap.size := Nat.lt_of_lt_of_le (by first | assumption | omega | (simp; omega)) hO6.size)
    | (go_at_call 42; refine (H42.out _).mono ?_; rintro e w7 ⟨rfl, hO7⟩))
    all_goals try (exfalso; omega)
    go_ret
    exact ⟨rfl, Only.below ((((((((((Only.refl _ _).alloc _).trans hO2).alloc _).trans hO5).alloc _).alloc _).trans hO6).trans hO7))⟩
  | some y =>
    have hm := hX' y rfl
    have CY' := CY y rfl
    rw [← hm, ← hS] at CY'
    have H42 := Lib.hid CY'
    clear CN CY CY' hX' hS hm
    go_enter Tryz.func12, Tryz.ntmps12
    go_wp2_with (first
    | (go_at_call 16; refine (H16.out _).mono ?_; rintro e w2 ⟨rfl, hO2⟩; have hc2 := fun j => only_cellAt hO2 (k := w.heap.size) (by simp) j; have hs2 : w.heap.size < w2.heap.size := Nat.lt_of_lt_of_le (by simp) hO2.size)
    | (go_at_call 17; refine (H17.out _).mono ?_; rintro e w4 ⟨rfl, rfl⟩)
    | (go_at_call 21; refine (H21.out _).mono ?_; rintro e w5 ⟨rfl, hO5⟩; have hc5 := fun j => only_cellAt hO5 (k := w.heap.size) (by first | assumption | omega | (simp; omega)) j; have hd5 := fun j => only_cellAt hO5 (k := w2.heap.size) (by simp) j; have hs5 : w.heap.size < w5.heap.size := Nat.lt_of_lt_of_le (by first | assumption | omega | (simp; omega)) hO5.size; have hs25 : w2.heap.size < w5.heap.size := Nat.lt_of_lt_of_le (by simp) hO5.size)
    | (go_at_call 20; refine (H20.out _ ?_).mono ?_; (· exact HT.out.only ((((((((Only.refl _ _).alloc _).trans hO2).alloc _).trans hO5).alloc _).alloc _))); rintro e w6 ⟨rfl, hO6⟩; have hc6 := fun j => only_cellAt hO6 (k := w.heap.size) (by first | assumption | omega | (simp; omega)) j; have hd6 := fun j => only_cellAt hO6 (k := w5.heap.size) (by first | assumption | omega | (simp; omega)) j; have hs6 : w.heap.size < w6.heap.size := Nat.lt_of_lt_of_le (by first | assumption | omega | (simp; omega)) hO6.size)
    | (go_at_call 42; refine (H42.out _).mono ?_; rintro e w7 ⟨rfl, hO7⟩))
    all_goals try (exfalso; omega)
    go_ret
    exact ⟨rfl, Only.below ((((((((((Only.refl _ _).alloc _).trans hO2).alloc _).trans hO5).alloc _).alloc _).trans hO6).trans hO7))⟩

set_option maxRecDepth 100000 in
set_option maxHeartbeats 1000000 in
theorem FnString_great (z : LA) (h : 2147483647 < z.text.size) (verb bits wid prec : Int) (w : World) :
    Calls Tryz.prog 12 #[z.val, .int .i64 verb, .int .i64 bits, .int .i64 wid, .int .i64 prec] w fun e w' => e = .returned (.bool true) ∧ Below w.heap.size w w' := by
  have C16 := fun W => zzFits2_no z h W
  obtain ⟨zk, zb, zt⟩ := z
  unfold LA.val at C16 ⊢
  dsimp only at C16
  have H16 := Lib.hid C16
  clear C16 h
  go_enter Tryz.func12, Tryz.ntmps12
  go_wp2_with (go_at_call 16; refine (H16.out _).mono ?_; rintro e w2 ⟨rfl, hO2⟩)
  go_ret
  exact ⟨rfl, Only.below (((Only.refl _ _).alloc _).trans hO2)⟩

set_option maxRecDepth 100000 in
set_option maxHeartbeats 1000000 in
theorem FnString_other (z : LA) (hz : z.text.size ≤ 2147483647) (h : z.kind < 15 ∨ 18 < z.kind ∨ (15 ≤ z.kind ∧ z.kind ≤ 18 ∧ 4096 < z.text.size)) (verb bits wid prec : Int) (w : World) :
    Calls Tryz.prog 12 #[z.val, .int .i64 verb, .int .i64 bits, .int .i64 wid, .int .i64 prec] w fun e w' => e = .returned (.bool true) ∧ Below w.heap.size w w' := by
  have C16 := fun W => zzFits2_yes z hz W
  obtain ⟨zk, zb, zt⟩ := z
  unfold LA.val at C16 ⊢
  dsimp only at C16 h
  have H16 := Lib.hid C16
  clear C16 hz
  rcases h with h | h | ⟨h1, h2, h3⟩
  · go_enter Tryz.func12, Tryz.ntmps12
    go_wp2_with (go_at_call 16; refine (H16.out _).mono ?_; rintro e w2 ⟨rfl, hO2⟩; have hc2 := fun j => only_cellAt hO2 (k := w.heap.size) (by simp) j)
    all_goals try (exfalso; omega)
    go_ret
    exact ⟨rfl, Only.below (((Only.refl _ _).alloc _).trans hO2)⟩
  · have h1 : ¬ zk < 15 := by omega
    go_enter Tryz.func12, Tryz.ntmps12
    go_wp2_with (go_at_call 16; refine (H16.out _).mono ?_; rintro e w2 ⟨rfl, hO2⟩; have hc2 := fun j => only_cellAt hO2 (k := w.heap.size) (by simp) j)
    all_goals try (exfalso; omega)
    go_ret
    exact ⟨rfl, Only.below (((Only.refl _ _).alloc _).trans hO2)⟩
  · have h4 : ¬ zk < 15 := by omega
    have h5 : ¬ 18 < zk := by omega
    have h6 : (4096 : Int) < zt.size := by omega
    go_enter Tryz.func12, Tryz.ntmps12
    go_wp2_with (go_at_call 16; refine (H16.out _).mono ?_; rintro e w2 ⟨rfl, hO2⟩; have hc2 := fun j => only_cellAt hO2 (k := w.heap.size) (by simp) j)
    all_goals try (exfalso; omega)
    go_ret
    exact ⟨rfl, Only.below (((Only.refl _ _).alloc _).trans hO2)⟩

theorem FnString_walk (z : LA) (h0 : 0 ≤ z.bits) (h1 : z.bits ≤ 18446744073709551615) (verb bits wid prec : Int) (w : World) (hT : Tabs w) :
    Calls Tryz.prog 12 #[z.val, .int .i64 verb, .int .i64 bits, .int .i64 wid, .int .i64 prec] w fun e w' => e = .returned (.bool true) ∧ Below w.heap.size w w' := by
  by_cases hz : z.text.size ≤ 2147483647
  · by_cases hk : 15 ≤ z.kind ∧ z.kind ≤ 18 ∧ z.text.size ≤ 4096
    · obtain ⟨k1, k2, k3⟩ := hk
      rcases (by omega : verb % 4 = 0 ∨ verb % 4 = 1 ∨ verb % 4 = 2 ∨ verb % 4 = 3) with h | h | h | h
      · exact FnString_115 z k3 ⟨k1, k2⟩ h0 h1 verb bits wid prec h w hT
      · exact FnString_118 z k3 ⟨k1, k2⟩ h0 h1 verb bits wid prec h w hT
      · exact FnString_120 z k3 ⟨k1, k2⟩ h0 h1 verb bits wid prec h w hT
      · exact FnString_88 z k3 ⟨k1, k2⟩ h0 h1 verb bits wid prec h w hT
    · exact FnString_other z hz (by omega) verb bits wid prec w
  · exact FnString_great z (by omega) verb bits wid prec w

end Go.Proofs.YtcbliojofnigdaaGreatDoor
