/- FnInteger, a verb at a time (printed by tools/gen_fninteger.py). -/
import Derived.Test.YtcbliojofnigdaaGreatDoorIntSetup
namespace Go.Proofs.YtcbliojofnigdaaGreatDoor
open Go Go.Proofs Go.RowKit Go.Maps

set_option maxRecDepth 100000 in
set_option maxHeartbeats 8000000 in
theorem FnInteger_79 (z : LA) (hzt : z.text.size ≤ 2147483647) (hzk : 2 ≤ z.kind ∧ z.kind ≤ 12) (h0 : 0 ≤ z.bits) (h1 : z.bits ≤ 18446744073709551615) (verb bits wid : Int) (hv : verb % 7 = 3) (w : World) :
    Calls Tryz.prog 10 #[z.val, .int .i64 verb, .int .i64 bits, .int .i64 wid] w fun e w' => e = .returned (.bool true) ∧ Below w.heap.size w w' := by
  obtain ⟨ty, kd, n, hz, C18⟩ := Integer_yes z hzk h0 h1
  obtain ⟨f, P, hP, hfp, hf0, hf1, C21, C20⟩ := int_setup z ty kd n hz h0 h1 bits wid
  have C16 := fun W => zzFits2_yes z hzt W
  have C17 := fun W => below_7 verb W
  rw [hv] at C17
  have hps : ¬ 9223372036854775807 < P.size + 1 := by omega
  have hu0 : 0 ≤ uN n := by unfold uN; omega
  have hu1 : uN n ≤ 18446744073709551615 := by unfold uN; omega
  have C39 := fun W => Integer_spec f hfp hf0 hf1 (uN n) hu0 hu1 8 (by decide) (sgK kd) 79 false (by decide) W
  obtain ⟨T, hT⟩ : ∃ T, T = specInt f (uN n) 8 (sgK kd) 79 false := ⟨_, rfl⟩
  rw [← hT] at C39
  have C20' : ∀ x, T = some x → ∀ W, Calls Tryz.prog 20 #[.string (P ++ ⟨#[79]⟩), z.val] W fun e w' => e = .returned (.string ⟨x.toArray⟩) ∧ Only none W w' :=
    fun x hx W => C20 79 8 false (by unfold verbB; decide) (by decide) (fun h => absurd h (by decide)) rfl rfl x (by rw [← hx, hT]; rfl) W
  obtain ⟨u, hu⟩ : ∃ u, u = uN n := ⟨_, rfl⟩
  obtain ⟨sg, hsg⟩ : ∃ sg, sg = sgK kd := ⟨_, rfl⟩
  rw [← hu, ← hsg] at C18 C39
  have q1 := kcOne 79 79 rfl
  clear hu hsg hT C20 hu0 hu1 hv hP hfp hf0 hf1 h0 h1 hz hzt hzk
  obtain ⟨fw, fp, hw, hp, fm, fpl, fs, fsp, fz⟩ := f
  obtain ⟨zk, zb, zt⟩ := z
  unfold SF.val at C21 C39
  unfold LA.val at C16 C18 C20' ⊢
  dsimp only at C16 C18 C20' C21 C39
  have H16 := Lib.hid C16
  have H17 := Lib.hid C17
  have H18 := Lib.hid C18
  have H21 := Lib.hid C21
  clear C16 C17 C18 C21
  have hmm := @run_makeMap Tryz.prog
  cases T with
  | none =>
    have C39' : ∀ W, Calls Tryz.prog 39 #[.agg #[.int .i64 fw, .int .i64 fp, .bool hw, .bool hp, .bool fm, .bool fpl, .bool fs, .bool fsp, .bool fz], .int .u64 u, .int .i64 8, .bool sg, .int .u8 79, .bool false] W fun e w' => e = .returned (.tuple #[.string ⟨#[]⟩, .int .i64 0]) ∧ Only none W w' := C39
    have H39 := Lib.hid C39'
    clear C39 C39' C20'
    go_enter Tryz.func10, Tryz.ntmps10
    go_wp2_with (first
    | (go_at_call 16; refine (H16.out _).mono ?_; rintro e w2 ⟨rfl, hO2⟩; have hc2 := fun j => only_cellAt hO2 (k := w.heap.size) (by simp) j; have hs2 : w.heap.size < w2.heap.size := Nat.lt_of_lt_of_le (by simp) hO2.size)
    | (go_at_call 18; refine (H18.out _).mono ?_; rintro e w3 ⟨rfl, hO3⟩; have hc3 := fun j => only_cellAt hO3 (k := w.heap.size) (by first | assumption | omega | (simp; omega)) j; have hs3 : w.heap.size < w3.heap.size := Nat.lt_of_lt_of_le (by first | assumption | omega | (simp; omega)) hO3.size)
    | (go_at_call 17; refine (H17.out _).mono ?_; rintro e w4 ⟨rfl, rfl⟩)
    | (go_at_call 21; refine (H21.out _).mono ?_; rintro e w5 ⟨rfl, hO5⟩; have hc5 := fun j => only_cellAt hO5 (k := w.heap.size) (by first | assumption | omega | (simp; omega)) j; have hs5 : w.heap.size < w5.heap.size := Nat.lt_of_lt_of_le (by first | assumption | omega | (simp; omega)) hO5.size)
    | (go_at_call 39; refine (H39.out _).mono ?_; rintro e w9 ⟨rfl, hO9⟩; have hc9 := fun j => only_cellAt hO9 (k := w.heap.size) (by first | assumption | omega | (simp; omega)) j; have hs9 : w.heap.size < w9.heap.size := Nat.lt_of_lt_of_le (by first | assumption | omega | (simp; omega)) hO9.size)
    | (go_at_call 20; refine (H20.out _).mono ?_; rintro e w10 ⟨rfl, hO10⟩)
    | (refine wpList_entry _ _ rfl _ _ _ 71 rfl 5 3 law5 Tryz.underlying71 (plainElem Tryz.prog 3) _ _ _ rfl hM (by unfold maxLen; omega) _ _ _ rfl rfl (key5 _ (by decide)) _ _ (elem3 _ (by decide)) ?_; clear hM; intro w8 hM)
    | (refine wpList_entry _ _ rfl _ _ _ 71 rfl 5 3 law5 Tryz.underlying71 (plainElem Tryz.prog 3) _ _ _ rfl (made_at _ _ (by simp)) (by unfold maxLen; omega) _ _ _ rfl rfl (key5 _ (by decide)) _ _ (elem3 _ (by decide)) ?_; intro w8 hM)
    | (at_lookup; refine wpList_look _ _ rfl _ _ 71 rfl 5 3 .i64 law5 Tryz.underlying71 Tryz.underlying3 (zero3 _) _ _ _ rfl hM _ _ rfl (key5 _ (by decide)) 8 bases_79 ?_; have hOM := hM.2.1; clear hM; have hc8 := fun j => only_cellAt hOM (k := w.heap.size) (by first | assumption | omega | (simp; omega)) j; have hd8 := fun j => only_cellAt hOM (k := w5.heap.size) (by simp) j; have hs8 : w.heap.size < w8.heap.size := Nat.lt_of_lt_of_le (by first | assumption | omega | (simp; omega)) hOM.size))
    go_ret
    exact ⟨rfl, Only.below (((((((((Only.refl _ _).alloc _).trans hO2).trans hO3).alloc _).trans hO5).alloc _).trans hOM).trans hO9)⟩
  | some x =>
    obtain ⟨X, hX⟩ : ∃ X : ByteArray, X = ⟨x.toArray⟩ := ⟨_, rfl⟩
    have C39' : ∀ W, Calls Tryz.prog 39 #[.agg #[.int .i64 fw, .int .i64 fp, .bool hw, .bool hp, .bool fm, .bool fpl, .bool fs, .bool fsp, .bool fz], .int .u64 u, .int .i64 8, .bool sg, .int .u8 79, .bool false] W fun e w' => e = .returned (.tuple #[.string ⟨x.toArray⟩, .int .i64 1]) ∧ Only none W w' := C39
    have C20 := C20' x rfl
    rw [← hX] at C39' C20
    have H39 := Lib.hid C39'
    have H20 := Lib.hid C20
    clear C39 C39' C20' C20 hX
    go_enter Tryz.func10, Tryz.ntmps10
    go_wp2_with (first
    | (go_at_call 16; refine (H16.out _).mono ?_; rintro e w2 ⟨rfl, hO2⟩; have hc2 := fun j => only_cellAt hO2 (k := w.heap.size) (by simp) j; have hs2 : w.heap.size < w2.heap.size := Nat.lt_of_lt_of_le (by simp) hO2.size)
    | (go_at_call 18; refine (H18.out _).mono ?_; rintro e w3 ⟨rfl, hO3⟩; have hc3 := fun j => only_cellAt hO3 (k := w.heap.size) (by first | assumption | omega | (simp; omega)) j; have hs3 : w.heap.size < w3.heap.size := Nat.lt_of_lt_of_le (by first | assumption | omega | (simp; omega)) hO3.size)
    | (go_at_call 17; refine (H17.out _).mono ?_; rintro e w4 ⟨rfl, rfl⟩)
    | (go_at_call 21; refine (H21.out _).mono ?_; rintro e w5 ⟨rfl, hO5⟩; have hc5 := fun j => only_cellAt hO5 (k := w.heap.size) (by first | assumption | omega | (simp; omega)) j; have hs5 : w.heap.size < w5.heap.size := Nat.lt_of_lt_of_le (by first | assumption | omega | (simp; omega)) hO5.size)
    | (go_at_call 39; refine (H39.out _).mono ?_; rintro e w9 ⟨rfl, hO9⟩; have hc9 := fun j => only_cellAt hO9 (k := w.heap.size) (by first | assumption | omega | (simp; omega)) j; have hs9 : w.heap.size < w9.heap.size := Nat.lt_of_lt_of_le (by first | assumption | omega | (simp; omega)) hO9.size)
    | (go_at_call 20; refine (H20.out _).mono ?_; rintro e w10 ⟨rfl, hO10⟩)
    | (refine wpList_entry _ _ rfl _ _ _ 71 rfl 5 3 law5 Tryz.underlying71 (plainElem Tryz.prog 3) _ _ _ rfl hM (by unfold maxLen; omega) _ _ _ rfl rfl (key5 _ (by decide)) _ _ (elem3 _ (by decide)) ?_; clear hM; intro w8 hM)
    | (refine wpList_entry _ _ rfl _ _ _ 71 rfl 5 3 law5 Tryz.underlying71 (plainElem Tryz.prog 3) _ _ _ rfl (made_at _ _ (by simp)) (by unfold maxLen; omega) _ _ _ rfl rfl (key5 _ (by decide)) _ _ (elem3 _ (by decide)) ?_; intro w8 hM)
    | (at_lookup; refine wpList_look _ _ rfl _ _ 71 rfl 5 3 .i64 law5 Tryz.underlying71 Tryz.underlying3 (zero3 _) _ _ _ rfl hM _ _ rfl (key5 _ (by decide)) 8 bases_79 ?_; have hOM := hM.2.1; clear hM; have hc8 := fun j => only_cellAt hOM (k := w.heap.size) (by first | assumption | omega | (simp; omega)) j; have hd8 := fun j => only_cellAt hOM (k := w5.heap.size) (by simp) j; have hs8 : w.heap.size < w8.heap.size := Nat.lt_of_lt_of_le (by first | assumption | omega | (simp; omega)) hOM.size))
    go_ret
    exact ⟨rfl, Only.below (((((((((((Only.refl _ _).alloc _).trans hO2).trans hO3).alloc _).trans hO5).alloc _).trans hOM).trans hO9).alloc _).trans hO10)⟩

set_option maxRecDepth 100000 in
set_option maxHeartbeats 8000000 in
theorem FnInteger_120 (z : LA) (hzt : z.text.size ≤ 2147483647) (hzk : 2 ≤ z.kind ∧ z.kind ≤ 12) (h0 : 0 ≤ z.bits) (h1 : z.bits ≤ 18446744073709551615) (verb bits wid : Int) (hv : verb % 7 = 4) (w : World) :
    Calls Tryz.prog 10 #[z.val, .int .i64 verb, .int .i64 bits, .int .i64 wid] w fun e w' => e = .returned (.bool true) ∧ Below w.heap.size w w' := by
  obtain ⟨ty, kd, n, hz, C18⟩ := Integer_yes z hzk h0 h1
  obtain ⟨f, P, hP, hfp, hf0, hf1, C21, C20⟩ := int_setup z ty kd n hz h0 h1 bits wid
  have C16 := fun W => zzFits2_yes z hzt W
  have C17 := fun W => below_7 verb W
  rw [hv] at C17
  have hps : ¬ 9223372036854775807 < P.size + 1 := by omega
  have hu0 : 0 ≤ uN n := by unfold uN; omega
  have hu1 : uN n ≤ 18446744073709551615 := by unfold uN; omega
  have C39 := fun W => Integer_spec f hfp hf0 hf1 (uN n) hu0 hu1 16 (by decide) (sgK kd) 120 false (by decide) W
  obtain ⟨T, hT⟩ : ∃ T, T = specInt f (uN n) 16 (sgK kd) 120 false := ⟨_, rfl⟩
  rw [← hT] at C39
  have C20' : ∀ x, T = some x → ∀ W, Calls Tryz.prog 20 #[.string (P ++ ⟨#[120]⟩), z.val] W fun e w' => e = .returned (.string ⟨x.toArray⟩) ∧ Only none W w' :=
    fun x hx W => C20 120 16 false (by unfold verbB; decide) (by decide) (fun h => absurd h (by decide)) rfl rfl x (by rw [← hx, hT]; rfl) W
  obtain ⟨u, hu⟩ : ∃ u, u = uN n := ⟨_, rfl⟩
  obtain ⟨sg, hsg⟩ : ∃ sg, sg = sgK kd := ⟨_, rfl⟩
  rw [← hu, ← hsg] at C18 C39
  have q1 := kcOne 120 120 rfl
  clear hu hsg hT C20 hu0 hu1 hv hP hfp hf0 hf1 h0 h1 hz hzt hzk
  obtain ⟨fw, fp, hw, hp, fm, fpl, fs, fsp, fz⟩ := f
  obtain ⟨zk, zb, zt⟩ := z
  unfold SF.val at C21 C39
  unfold LA.val at C16 C18 C20' ⊢
  dsimp only at C16 C18 C20' C21 C39
  have H16 := Lib.hid C16
  have H17 := Lib.hid C17
  have H18 := Lib.hid C18
  have H21 := Lib.hid C21
  clear C16 C17 C18 C21
  have hmm := @run_makeMap Tryz.prog
  cases T with
  | none =>
    have C39' : ∀ W, Calls Tryz.prog 39 #[.agg #[.int .i64 fw, .int .i64 fp, .bool hw, .bool hp, .bool fm, .bool fpl, .bool fs, .bool fsp, .bool fz], .int .u64 u, .int .i64 16, .bool sg, .int .u8 120, .bool false] W fun e w' => e = .returned (.tuple #[.string ⟨#[]⟩, .int .i64 0]) ∧ Only none W w' := C39
    have H39 := Lib.hid C39'
    clear C39 C39' C20'
    go_enter Tryz.func10, Tryz.ntmps10
    go_wp2_with (first
    | (go_at_call 16; refine (H16.out _).mono ?_; rintro e w2 ⟨rfl, hO2⟩; have hc2 := fun j => only_cellAt hO2 (k := w.heap.size) (by simp) j; have hs2 : w.heap.size < w2.heap.size := Nat.lt_of_lt_of_le (by simp) hO2.size)
    | (go_at_call 18; refine (H18.out _).mono ?_; rintro e w3 ⟨rfl, hO3⟩; have hc3 := fun j => only_cellAt hO3 (k := w.heap.size) (by first | assumption | omega | (simp; omega)) j; have hs3 : w.heap.size < w3.heap.size := Nat.lt_of_lt_of_le (by first | assumption | omega | (simp; omega)) hO3.size)
    | (go_at_call 17; refine (H17.out _).mono ?_; rintro e w4 ⟨rfl, rfl⟩)
    | (go_at_call 21; refine (H21.out _).mono ?_; rintro e w5 ⟨rfl, hO5⟩; have hc5 := fun j => only_cellAt hO5 (k := w.heap.size) (by first | assumption | omega | (simp; omega)) j; have hs5 : w.heap.size < w5.heap.size := Nat.lt_of_lt_of_le (by first | assumption | omega | (simp; omega)) hO5.size)
    | (go_at_call 39; refine (H39.out _).mono ?_; rintro e w9 ⟨rfl, hO9⟩; have hc9 := fun j => only_cellAt hO9 (k := w.heap.size) (by first | assumption | omega | (simp; omega)) j; have hs9 : w.heap.size < w9.heap.size := Nat.lt_of_lt_of_le (by first | assumption | omega | (simp; omega)) hO9.size)
    | (go_at_call 20; refine (H20.out _).mono ?_; rintro e w10 ⟨rfl, hO10⟩)
    | (refine wpList_entry _ _ rfl _ _ _ 71 rfl 5 3 law5 Tryz.underlying71 (plainElem Tryz.prog 3) _ _ _ rfl hM (by unfold maxLen; omega) _ _ _ rfl rfl (key5 _ (by decide)) _ _ (elem3 _ (by decide)) ?_; clear hM; intro w8 hM)
    | (refine wpList_entry _ _ rfl _ _ _ 71 rfl 5 3 law5 Tryz.underlying71 (plainElem Tryz.prog 3) _ _ _ rfl (made_at _ _ (by simp)) (by unfold maxLen; omega) _ _ _ rfl rfl (key5 _ (by decide)) _ _ (elem3 _ (by decide)) ?_; intro w8 hM)
    | (at_lookup; refine wpList_look _ _ rfl _ _ 71 rfl 5 3 .i64 law5 Tryz.underlying71 Tryz.underlying3 (zero3 _) _ _ _ rfl hM _ _ rfl (key5 _ (by decide)) 16 bases_120 ?_; have hOM := hM.2.1; clear hM; have hc8 := fun j => only_cellAt hOM (k := w.heap.size) (by first | assumption | omega | (simp; omega)) j; have hd8 := fun j => only_cellAt hOM (k := w5.heap.size) (by simp) j; have hs8 : w.heap.size < w8.heap.size := Nat.lt_of_lt_of_le (by first | assumption | omega | (simp; omega)) hOM.size))
    go_ret
    exact ⟨rfl, Only.below (((((((((Only.refl _ _).alloc _).trans hO2).trans hO3).alloc _).trans hO5).alloc _).trans hOM).trans hO9)⟩
  | some x =>
    obtain ⟨X, hX⟩ : ∃ X : ByteArray, X = ⟨x.toArray⟩ := ⟨_, rfl⟩
    have C39' : ∀ W, Calls Tryz.prog 39 #[.agg #[.int .i64 fw, .int .i64 fp, .bool hw, .bool hp, .bool fm, .bool fpl, .bool fs, .bool fsp, .bool fz], .int .u64 u, .int .i64 16, .bool sg, .int .u8 120, .bool false] W fun e w' => e = .returned (.tuple #[.string ⟨x.toArray⟩, .int .i64 1]) ∧ Only none W w' := C39
    have C20 := C20' x rfl
    rw [← hX] at C39' C20
    have H39 := Lib.hid C39'
    have H20 := Lib.hid C20
    clear C39 C39' C20' C20 hX
    go_enter Tryz.func10, Tryz.ntmps10
    go_wp2_with (first
    | (go_at_call 16; refine (H16.out _).mono ?_; rintro e w2 ⟨rfl, hO2⟩; have hc2 := fun j => only_cellAt hO2 (k := w.heap.size) (by simp) j; have hs2 : w.heap.size < w2.heap.size := Nat.lt_of_lt_of_le (by simp) hO2.size)
    | (go_at_call 18; refine (H18.out _).mono ?_; rintro e w3 ⟨rfl, hO3⟩; have hc3 := fun j => only_cellAt hO3 (k := w.heap.size) (by first | assumption | omega | (simp; omega)) j; have hs3 : w.heap.size < w3.heap.size := Nat.lt_of_lt_of_le (by first | assumption | omega | (simp; omega)) hO3.size)
    | (go_at_call 17; refine (H17.out _).mono ?_; rintro e w4 ⟨rfl, rfl⟩)
    | (go_at_call 21; refine (H21.out _).mono ?_; rintro e w5 ⟨rfl, hO5⟩; have hc5 := fun j => only_cellAt hO5 (k := w.heap.size) (by first | assumption | omega | (simp; omega)) j; have hs5 : w.heap.size < w5.heap.size := Nat.lt_of_lt_of_le (by first | assumption | omega | (simp; omega)) hO5.size)
    | (go_at_call 39; refine (H39.out _).mono ?_; rintro e w9 ⟨rfl, hO9⟩; have hc9 := fun j => only_cellAt hO9 (k := w.heap.size) (by first | assumption | omega | (simp; omega)) j; have hs9 : w.heap.size < w9.heap.size := Nat.lt_of_lt_of_le (by first | assumption | omega | (simp; omega)) hO9.size)
    | (go_at_call 20; refine (H20.out _).mono ?_; rintro e w10 ⟨rfl, hO10⟩)
    | (refine wpList_entry _ _ rfl _ _ _ 71 rfl 5 3 law5 Tryz.underlying71 (plainElem Tryz.prog 3) _ _ _ rfl hM (by unfold maxLen; omega) _ _ _ rfl rfl (key5 _ (by decide)) _ _ (elem3 _ (by decide)) ?_; clear hM; intro w8 hM)
    | (refine wpList_entry _ _ rfl _ _ _ 71 rfl 5 3 law5 Tryz.underlying71 (plainElem Tryz.prog 3) _ _ _ rfl (made_at _ _ (by simp)) (by unfold maxLen; omega) _ _ _ rfl rfl (key5 _ (by decide)) _ _ (elem3 _ (by decide)) ?_; intro w8 hM)
    | (at_lookup; refine wpList_look _ _ rfl _ _ 71 rfl 5 3 .i64 law5 Tryz.underlying71 Tryz.underlying3 (zero3 _) _ _ _ rfl hM _ _ rfl (key5 _ (by decide)) 16 bases_120 ?_; have hOM := hM.2.1; clear hM; have hc8 := fun j => only_cellAt hOM (k := w.heap.size) (by first | assumption | omega | (simp; omega)) j; have hd8 := fun j => only_cellAt hOM (k := w5.heap.size) (by simp) j; have hs8 : w.heap.size < w8.heap.size := Nat.lt_of_lt_of_le (by first | assumption | omega | (simp; omega)) hOM.size))
    go_ret
    exact ⟨rfl, Only.below (((((((((((Only.refl _ _).alloc _).trans hO2).trans hO3).alloc _).trans hO5).alloc _).trans hOM).trans hO9).alloc _).trans hO10)⟩

set_option maxRecDepth 100000 in
set_option maxHeartbeats 8000000 in
theorem FnInteger_88 (z : LA) (hzt : z.text.size ≤ 2147483647) (hzk : 2 ≤ z.kind ∧ z.kind ≤ 12) (h0 : 0 ≤ z.bits) (h1 : z.bits ≤ 18446744073709551615) (verb bits wid : Int) (hv : verb % 7 = 5) (w : World) :
    Calls Tryz.prog 10 #[z.val, .int .i64 verb, .int .i64 bits, .int .i64 wid] w fun e w' => e = .returned (.bool true) ∧ Below w.heap.size w w' := by
  obtain ⟨ty, kd, n, hz, C18⟩ := Integer_yes z hzk h0 h1
  obtain ⟨f, P, hP, hfp, hf0, hf1, C21, C20⟩ := int_setup z ty kd n hz h0 h1 bits wid
  have C16 := fun W => zzFits2_yes z hzt W
  have C17 := fun W => below_7 verb W
  rw [hv] at C17
  have hps : ¬ 9223372036854775807 < P.size + 1 := by omega
  have hu0 : 0 ≤ uN n := by unfold uN; omega
  have hu1 : uN n ≤ 18446744073709551615 := by unfold uN; omega
  have C39 := fun W => Integer_spec f hfp hf0 hf1 (uN n) hu0 hu1 16 (by decide) (sgK kd) 88 true (by decide) W
  obtain ⟨T, hT⟩ : ∃ T, T = specInt f (uN n) 16 (sgK kd) 88 true := ⟨_, rfl⟩
  rw [← hT] at C39
  have C20' : ∀ x, T = some x → ∀ W, Calls Tryz.prog 20 #[.string (P ++ ⟨#[88]⟩), z.val] W fun e w' => e = .returned (.string ⟨x.toArray⟩) ∧ Only none W w' :=
    fun x hx W => C20 88 16 true (by unfold verbB; decide) (by decide) (fun h => absurd h (by decide)) rfl rfl x (by rw [← hx, hT]; rfl) W
  obtain ⟨u, hu⟩ : ∃ u, u = uN n := ⟨_, rfl⟩
  obtain ⟨sg, hsg⟩ : ∃ sg, sg = sgK kd := ⟨_, rfl⟩
  rw [← hu, ← hsg] at C18 C39
  have q1 := kcOne 88 88 rfl
  clear hu hsg hT C20 hu0 hu1 hv hP hfp hf0 hf1 h0 h1 hz hzt hzk
  obtain ⟨fw, fp, hw, hp, fm, fpl, fs, fsp, fz⟩ := f
  obtain ⟨zk, zb, zt⟩ := z
  unfold SF.val at C21 C39
  unfold LA.val at C16 C18 C20' ⊢
  dsimp only at C16 C18 C20' C21 C39
  have H16 := Lib.hid C16
  have H17 := Lib.hid C17
  have H18 := Lib.hid C18
  have H21 := Lib.hid C21
  clear C16 C17 C18 C21
  have hmm := @run_makeMap Tryz.prog
  cases T with
  | none =>
    have C39' : ∀ W, Calls Tryz.prog 39 #[.agg #[.int .i64 fw, .int .i64 fp, .bool hw, .bool hp, .bool fm, .bool fpl, .bool fs, .bool fsp, .bool fz], .int .u64 u, .int .i64 16, .bool sg, .int .u8 88, .bool true] W fun e w' => e = .returned (.tuple #[.string ⟨#[]⟩, .int .i64 0]) ∧ Only none W w' := C39
    have H39 := Lib.hid C39'
    clear C39 C39' C20'
    go_enter Tryz.func10, Tryz.ntmps10
    go_wp2_with (first
    | (go_at_call 16; refine (H16.out _).mono ?_; rintro e w2 ⟨rfl, hO2⟩; have hc2 := fun j => only_cellAt hO2 (k := w.heap.size) (by simp) j; have hs2 : w.heap.size < w2.heap.size := Nat.lt_of_lt_of_le (by simp) hO2.size)
    | (go_at_call 18; refine (H18.out _).mono ?_; rintro e w3 ⟨rfl, hO3⟩; have hc3 := fun j => only_cellAt hO3 (k := w.heap.size) (by first | assumption | omega | (simp; omega)) j; have hs3 : w.heap.size < w3.heap.size := Nat.lt_of_lt_of_le (by first | assumption | omega | (simp; omega)) hO3.size)
    | (go_at_call 17; refine (H17.out _).mono ?_; rintro e w4 ⟨rfl, rfl⟩)
    | (go_at_call 21; refine (H21.out _).mono ?_; rintro e w5 ⟨rfl, hO5⟩; have hc5 := fun j => only_cellAt hO5 (k := w.heap.size) (by first | assumption | omega | (simp; omega)) j; have hs5 : w.heap.size < w5.heap.size := Nat.lt_of_lt_of_le (by first | assumption | omega | (simp; omega)) hO5.size)
    | (go_at_call 39; refine (H39.out _).mono ?_; rintro e w9 ⟨rfl, hO9⟩; have hc9 := fun j => only_cellAt hO9 (k := w.heap.size) (by first | assumption | omega | (simp; omega)) j; have hs9 : w.heap.size < w9.heap.size := Nat.lt_of_lt_of_le (by first | assumption | omega | (simp; omega)) hO9.size)
    | (go_at_call 20; refine (H20.out _).mono ?_; rintro e w10 ⟨rfl, hO10⟩)
    | (refine wpList_entry _ _ rfl _ _ _ 71 rfl 5 3 law5 Tryz.underlying71 (plainElem Tryz.prog 3) _ _ _ rfl hM (by unfold maxLen; omega) _ _ _ rfl rfl (key5 _ (by decide)) _ _ (elem3 _ (by decide)) ?_; clear hM; intro w8 hM)
    | (refine wpList_entry _ _ rfl _ _ _ 71 rfl 5 3 law5 Tryz.underlying71 (plainElem Tryz.prog 3) _ _ _ rfl (made_at _ _ (by simp)) (by unfold maxLen; omega) _ _ _ rfl rfl (key5 _ (by decide)) _ _ (elem3 _ (by decide)) ?_; intro w8 hM)
    | (at_lookup; refine wpList_look _ _ rfl _ _ 71 rfl 5 3 .i64 law5 Tryz.underlying71 Tryz.underlying3 (zero3 _) _ _ _ rfl hM _ _ rfl (key5 _ (by decide)) 16 bases_88 ?_; have hOM := hM.2.1; clear hM; have hc8 := fun j => only_cellAt hOM (k := w.heap.size) (by first | assumption | omega | (simp; omega)) j; have hd8 := fun j => only_cellAt hOM (k := w5.heap.size) (by simp) j; have hs8 : w.heap.size < w8.heap.size := Nat.lt_of_lt_of_le (by first | assumption | omega | (simp; omega)) hOM.size))
    go_ret
    exact ⟨rfl, Only.below (((((((((Only.refl _ _).alloc _).trans hO2).trans hO3).alloc _).trans hO5).alloc _).trans hOM).trans hO9)⟩
  | some x =>
    obtain ⟨X, hX⟩ : ∃ X : ByteArray, X = ⟨x.toArray⟩ := ⟨_, rfl⟩
    have C39' : ∀ W, Calls Tryz.prog 39 #[.agg #[.int .i64 fw, .int .i64 fp, .bool hw, .bool hp, .bool fm, .bool fpl, .bool fs, .bool fsp, .bool fz], .int .u64 u, .int .i64 16, .bool sg, .int .u8 88, .bool true] W fun e w' => e = .returned (.tuple #[.string ⟨x.toArray⟩, .int .i64 1]) ∧ Only none W w' := C39
    have C20 := C20' x rfl
    rw [← hX] at C39' C20
    have H39 := Lib.hid C39'
    have H20 := Lib.hid C20
    clear C39 C39' C20' C20 hX
    go_enter Tryz.func10, Tryz.ntmps10
    go_wp2_with (first
    | (go_at_call 16; refine (H16.out _).mono ?_; rintro e w2 ⟨rfl, hO2⟩; have hc2 := fun j => only_cellAt hO2 (k := w.heap.size) (by simp) j; have hs2 : w.heap.size < w2.heap.size := Nat.lt_of_lt_of_le (by simp) hO2.size)
    | (go_at_call 18; refine (H18.out _).mono ?_; rintro e w3 ⟨rfl, hO3⟩; have hc3 := fun j => only_cellAt hO3 (k := w.heap.size) (by first | assumption | omega | (simp; omega)) j; have hs3 : w.heap.size < w3.heap.size := Nat.lt_of_lt_of_le (by first | assumption | omega | (simp; omega)) hO3.size)
    | (go_at_call 17; refine (H17.out _).mono ?_; rintro e w4 ⟨rfl, rfl⟩)
    | (go_at_call 21; refine (H21.out _).mono ?_; rintro e w5 ⟨rfl, hO5⟩; have hc5 := fun j => only_cellAt hO5 (k := w.heap.size) (by first | assumption | omega | (simp; omega)) j; have hs5 : w.heap.size < w5.heap.size := Nat.lt_of_lt_of_le (by first | assumption | omega | (simp; omega)) hO5.size)
    | (go_at_call 39; refine (H39.out _).mono ?_; rintro e w9 ⟨rfl, hO9⟩; have hc9 := fun j => only_cellAt hO9 (k := w.heap.size) (by first | assumption | omega | (simp; omega)) j; have hs9 : w.heap.size < w9.heap.size := Nat.lt_of_lt_of_le (by first | assumption | omega | (simp; omega)) hO9.size)
    | (go_at_call 20; refine (H20.out _).mono ?_; rintro e w10 ⟨rfl, hO10⟩)
    | (refine wpList_entry _ _ rfl _ _ _ 71 rfl 5 3 law5 Tryz.underlying71 (plainElem Tryz.prog 3) _ _ _ rfl hM (by unfold maxLen; omega) _ _ _ rfl rfl (key5 _ (by decide)) _ _ (elem3 _ (by decide)) ?_; clear hM; intro w8 hM)
    | (refine wpList_entry _ _ rfl _ _ _ 71 rfl 5 3 law5 Tryz.underlying71 (plainElem Tryz.prog 3) _ _ _ rfl (made_at _ _ (by simp)) (by unfold maxLen; omega) _ _ _ rfl rfl (key5 _ (by decide)) _ _ (elem3 _ (by decide)) ?_; intro w8 hM)
    | (at_lookup; refine wpList_look _ _ rfl _ _ 71 rfl 5 3 .i64 law5 Tryz.underlying71 Tryz.underlying3 (zero3 _) _ _ _ rfl hM _ _ rfl (key5 _ (by decide)) 16 bases_88 ?_; have hOM := hM.2.1; clear hM; have hc8 := fun j => only_cellAt hOM (k := w.heap.size) (by first | assumption | omega | (simp; omega)) j; have hd8 := fun j => only_cellAt hOM (k := w5.heap.size) (by simp) j; have hs8 : w.heap.size < w8.heap.size := Nat.lt_of_lt_of_le (by first | assumption | omega | (simp; omega)) hOM.size))
    go_ret
    exact ⟨rfl, Only.below (((((((((((Only.refl _ _).alloc _).trans hO2).trans hO3).alloc _).trans hO5).alloc _).trans hOM).trans hO9).alloc _).trans hO10)⟩

end Go.Proofs.YtcbliojofnigdaaGreatDoor
