/- The laws' flags: 10nn 10zn 10pn (printed by tools/gen_flags2.py). The laws' flags: 11nn 11zn 11pn (printed by tools/gen_flags2.py). -/
import Derived.Test.YtcbliojofnigdaaGreatDoorFlag0
set_option linter.unusedVariables false
set_option linter.unusedSimpArgs false
namespace Go.Proofs.YtcbliojofnigdaaGreatDoor
open Go Go.Proofs Go.RowKit

set_option maxRecDepth 100000 in
set_option maxHeartbeats 8000000 in
theorem flags_tf_nn (n wid prec : Int) (k0 : bitN n 0 = true) (k4 : bitN n 4 = false) (hw : wid < 0) (hp : prec < 0) (w : World) :
    Calls Tryz.prog 21 #[.int .i64 n, .int .i64 wid, .int .i64 prec] w fun e w' => e = .returned (.tuple #[(sfOf true (bitN n 1) (bitN n 2) (bitN n 3) false 0 none).val, .string ⟨(fmtOf true (bitN n 1) (bitN n 2) (bitN n 3) false 0 none).toArray⟩]) ∧ Only none w w' := by
  have q := kc26
  have q45 := kcOne 45 45 rfl
  have q43 := kcOne 43 43 rfl
  have q35 := kcOne 35 35 rfl
  have q32 := kcOne 32 32 rfl
  have q48 := kcOne 48 48 rfl
  have d0 : bits .and .i64 n 1 = 1 := (and_bit n 0 (by decide)).trans (by rw [k0]; rfl)
  have d4 : bits .and .i64 n 16 = 0 := (and_bit n 4 (by decide)).trans (by rw [k4]; rfl)
  have s4 : bits .and .i64 (n / 16) 1 = 0 := (shr_bit n 4 16 rfl).trans (by rw [k4]; rfl)
  have D : ∀ j, j ≤ 5 → decide (0 < bits .and .i64 n ((2 ^ j : Nat) : Int)) = bitN n j := by
    intro j hj
    rw [and_bit n j hj]
    cases bitN n j
    · simp
    · simp only [if_true, decide_eq_true_eq]
      have := Nat.two_pow_pos j
      omega
  have d1 : decide (0 < bits .and .i64 n 2) = bitN n 1 := D 1 (by decide)
  have d2 : decide (0 < bits .and .i64 n 4) = bitN n 2 := D 2 (by decide)
  have d3 : decide (0 < bits .and .i64 n 8) = bitN n 3 := D 3 (by decide)
  have s1 : bits .and .i64 (n / 2) 1 = if bitN n 1 = true then 1 else 0 := shr_bit n 1 2 rfl
  have s2 : bits .and .i64 (n / 4) 1 = if bitN n 2 = true then 1 else 0 := shr_bit n 2 4 rfl
  have s3 : bits .and .i64 (n / 8) 1 = if bitN n 3 = true then 1 else 0 := shr_bit n 3 8 rfl
  generalize bitN n 1 = b1 at *
  generalize bitN n 2 = b2 at *
  generalize bitN n 3 = b3 at *
  have S1 := Lib.hid s1
  have S2 := Lib.hid s2
  have S3 := Lib.hid s3
  clear D k0 k4 s1 s2 s3

  go_enter Tryz.func21, Tryz.ntmps21
  go_wp2
  obtain ⟨W1, hW1⟩ : ∃ W1, W1 = (((w.alloc (.cells #[.int .i64 0, .int .i64 0, .bool false, .bool false, .bool false, .bool false, .bool false, .bool false, .bool false] 35)).alloc (.cells #[.int .i64 0, .int .i64 0, .bool false, .bool false, .bool true, .bool b1, .bool b2, .bool b3, .bool false] 35)).alloc (.cells #[.int .u8 45, .int .u8 43, .int .u8 35, .int .u8 32, .int .u8 48] 5 (5, 6))) := ⟨_, rfl⟩
  rw [← hW1]
  have HB0 : W1.heap[w.heap.size]? = some (.cells #[.int .i64 0, .int .i64 0, .bool false, .bool false, .bool false, .bool false, .bool false, .bool false, .bool false] 35 (0, 0)) := by
    rw [hW1, heap_alloc_old _ _ (by simp; omega), heap_alloc_old _ _ (by simp), heap_alloc_new]
  have HB1 : W1.heap[w.heap.size + 1]? = some (.cells #[.int .i64 0, .int .i64 0, .bool false, .bool false, .bool true, .bool b1, .bool b2, .bool b3, .bool false] 35 (0, 0)) := by
    rw [hW1, heap_alloc_old _ _ (by simp)]
    simpa using heap_alloc_new (w.alloc (.cells #[.int .i64 0, .int .i64 0, .bool false, .bool false, .bool false, .bool false, .bool false, .bool false, .bool false] 35)) (.cells #[.int .i64 0, .int .i64 0, .bool false, .bool false, .bool true, .bool b1, .bool b2, .bool b3, .bool false] 35)
  have HB2 : W1.heap[w.heap.size + 1 + 1]? = some (.cells #[.int .u8 45, .int .u8 43, .int .u8 35, .int .u8 32, .int .u8 48] 5 (5, 6)) := by
    rw [hW1]
    simpa using heap_alloc_new ((w.alloc (.cells #[.int .i64 0, .int .i64 0, .bool false, .bool false, .bool false, .bool false, .bool false, .bool false, .bool false] 35)).alloc (.cells #[.int .i64 0, .int .i64 0, .bool false, .bool false, .bool true, .bool b1, .bool b2, .bool b3, .bool false] 35)) (.cells #[.int .u8 45, .int .u8 43, .int .u8 35, .int .u8 32, .int .u8 48] 5 (5, 6))
  have hO1 : Only none w W1 := by rw [hW1]; exact (((Only.refl _ _).alloc _).alloc _).alloc _
  have hsz : w.heap.size + 1 + 1 < W1.heap.size := lt_of_heap HB2
  have H0 := Lib.hid HB0
  have H1 := Lib.hid HB1
  have H2 := Lib.hid HB2
  have HO := Lib.hid hO1
  clear hW1 HB0 HB1 HB2 hO1
  go_loopw [9, 36] (fun a i W => ∃ (k : Nat) (s : ByteArray), i = .int .i64 k ∧ a = .string s ∧ s.size ≤ k + 1 ∧ Only none W1 W ∧ k ≤ 5 ∧ Hid (s.data.toList = 37 :: flagP true b1 b2 b3 false k)) (fun _ i _ => 5 - (intOf i).toNat)
  case atStart => exact ⟨0, _, rfl, rfl, by decide, Only.refl _ _, by decide, rfl⟩
  case round =>
    obtain ⟨k, s, rfl, rfl, hs, hOr, hk, HS⟩ := hrel
    have hsw : W1.heap.size ≤ wr.heap.size := hOr.size
    have G0 : wr.heap[w.heap.size]? = _ := (hOr.other _ (lt_of_heap H0.out) (fun _ _ _ he => by cases he)).trans H0.out
    have G1 : wr.heap[w.heap.size + 1]? = _ := (hOr.other _ (lt_of_heap H1.out) (fun _ _ _ he => by cases he)).trans H1.out
    have G2 : wr.heap[w.heap.size + 1 + 1]? = _ := (hOr.other _ (lt_of_heap H2.out) (fun _ _ _ he => by cases he)).trans H2.out
    have HG0 := Lib.hid G0
    have HG1 := Lib.hid G1
    have HG2 := Lib.hid G2
    have HOr := Lib.hid hOr
    clear hOr G0 G1 G2
    rcases (by omega : k = 0 ∨ k = 1 ∨ k = 2 ∨ k = 3 ∨ k = 4 ∨ k = 5) with rfl | rfl | rfl | rfl | rfl | rfl
    · have hc : wr.cell? ⟨w.heap.size + 1 + 1, 0, none⟩ = some (.int .u8 45) := by simp [World.cell?, HG2.out]
      go_wp2
      go_roundw
      case rel => exact ⟨1, _, rfl, rfl, by first | omega | (rw [ByteArray.size_append]; show s.size + 1 ≤ _; omega), by first | exact HOr.out | exact HOr.out.alloc _, by decide, by show _ = _; first | (rw [append_list, HS.out]; simp [flagP, flagB]) | (rw [HS.out]; simp [flagP, flagB])⟩
      case measure => simp [intOf]
    · cases b1
      · have s1 : bits .and .i64 (n / 2) 1 = 0 := S1.out
        clear S1
        have hc : wr.cell? ⟨w.heap.size + 1 + 1, 1, none⟩ = some (.int .u8 43) := by simp [World.cell?, HG2.out]
        go_wp2
        go_roundw
        case rel => exact ⟨2, _, rfl, rfl, by first | omega | (rw [ByteArray.size_append]; show s.size + 1 ≤ _; omega), by first | exact HOr.out | exact HOr.out.alloc _, by decide, by show _ = _; first | (rw [append_list, HS.out]; simp [flagP, flagB]) | (rw [HS.out]; simp [flagP, flagB])⟩
        case measure => simp [intOf]
      · have s1 : bits .and .i64 (n / 2) 1 = 1 := S1.out
        clear S1
        have hc : wr.cell? ⟨w.heap.size + 1 + 1, 1, none⟩ = some (.int .u8 43) := by simp [World.cell?, HG2.out]
        go_wp2
        go_roundw
        case rel => exact ⟨2, _, rfl, rfl, by first | omega | (rw [ByteArray.size_append]; show s.size + 1 ≤ _; omega), by first | exact HOr.out | exact HOr.out.alloc _, by decide, by show _ = _; first | (rw [append_list, HS.out]; simp [flagP, flagB]) | (rw [HS.out]; simp [flagP, flagB])⟩
        case measure => simp [intOf]
    · cases b2
      · have s1 : bits .and .i64 (n / 4) 1 = 0 := S2.out
        clear S2
        have hc : wr.cell? ⟨w.heap.size + 1 + 1, 2, none⟩ = some (.int .u8 35) := by simp [World.cell?, HG2.out]
        go_wp2
        go_roundw
        case rel => exact ⟨3, _, rfl, rfl, by first | omega | (rw [ByteArray.size_append]; show s.size + 1 ≤ _; omega), by first | exact HOr.out | exact HOr.out.alloc _, by decide, by show _ = _; first | (rw [append_list, HS.out]; simp [flagP, flagB]) | (rw [HS.out]; simp [flagP, flagB])⟩
        case measure => simp [intOf]
      · have s1 : bits .and .i64 (n / 4) 1 = 1 := S2.out
        clear S2
        have hc : wr.cell? ⟨w.heap.size + 1 + 1, 2, none⟩ = some (.int .u8 35) := by simp [World.cell?, HG2.out]
        go_wp2
        go_roundw
        case rel => exact ⟨3, _, rfl, rfl, by first | omega | (rw [ByteArray.size_append]; show s.size + 1 ≤ _; omega), by first | exact HOr.out | exact HOr.out.alloc _, by decide, by show _ = _; first | (rw [append_list, HS.out]; simp [flagP, flagB]) | (rw [HS.out]; simp [flagP, flagB])⟩
        case measure => simp [intOf]
    · cases b3
      · have s1 : bits .and .i64 (n / 8) 1 = 0 := S3.out
        clear S3
        have hc : wr.cell? ⟨w.heap.size + 1 + 1, 3, none⟩ = some (.int .u8 32) := by simp [World.cell?, HG2.out]
        go_wp2
        go_roundw
        case rel => exact ⟨4, _, rfl, rfl, by first | omega | (rw [ByteArray.size_append]; show s.size + 1 ≤ _; omega), by first | exact HOr.out | exact HOr.out.alloc _, by decide, by show _ = _; first | (rw [append_list, HS.out]; simp [flagP, flagB]) | (rw [HS.out]; simp [flagP, flagB])⟩
        case measure => simp [intOf]
      · have s1 : bits .and .i64 (n / 8) 1 = 1 := S3.out
        clear S3
        have hc : wr.cell? ⟨w.heap.size + 1 + 1, 3, none⟩ = some (.int .u8 32) := by simp [World.cell?, HG2.out]
        go_wp2
        go_roundw
        case rel => exact ⟨4, _, rfl, rfl, by first | omega | (rw [ByteArray.size_append]; show s.size + 1 ≤ _; omega), by first | exact HOr.out | exact HOr.out.alloc _, by decide, by show _ = _; first | (rw [append_list, HS.out]; simp [flagP, flagB]) | (rw [HS.out]; simp [flagP, flagB])⟩
        case measure => simp [intOf]
    · have hc : wr.cell? ⟨w.heap.size + 1 + 1, 4, none⟩ = some (.int .u8 48) := by simp [World.cell?, HG2.out]
      go_wp2
      go_roundw
      case rel => exact ⟨5, _, rfl, rfl, by first | omega | (rw [ByteArray.size_append]; show s.size + 1 ≤ _; omega), by first | exact HOr.out | exact HOr.out.alloc _, by decide, by show _ = _; first | (rw [append_list, HS.out]; simp [flagP, flagB]) | (rw [HS.out]; simp [flagP, flagB])⟩
      case measure => simp [intOf]
    · have f0 : ∀ j, wr.frozen? ⟨w.heap.size, j, none⟩ = false := fun j => by simp [World.frozen?, HG0.out]
      have f1 : ∀ j, wr.frozen? ⟨w.heap.size + 1, j, none⟩ = false := fun j => by simp [World.frozen?, HG1.out]
      have x0 : wr.cell? ⟨w.heap.size, 0, none⟩ = some (.int .i64 0) := by simp [World.cell?, HG0.out]
      have y0 : wr.cell? ⟨w.heap.size + 1, 0, none⟩ = some (.int .i64 0) := by simp [World.cell?, HG1.out]
      have x1 : wr.cell? ⟨w.heap.size, 1, none⟩ = some (.int .i64 0) := by simp [World.cell?, HG0.out]
      have y1 : wr.cell? ⟨w.heap.size + 1, 1, none⟩ = some (.int .i64 0) := by simp [World.cell?, HG1.out]
      have x2 : wr.cell? ⟨w.heap.size, 2, none⟩ = some (.bool false) := by simp [World.cell?, HG0.out]
      have y2 : wr.cell? ⟨w.heap.size + 1, 2, none⟩ = some (.bool false) := by simp [World.cell?, HG1.out]
      have x3 : wr.cell? ⟨w.heap.size, 3, none⟩ = some (.bool false) := by simp [World.cell?, HG0.out]
      have y3 : wr.cell? ⟨w.heap.size + 1, 3, none⟩ = some (.bool false) := by simp [World.cell?, HG1.out]
      have x4 : wr.cell? ⟨w.heap.size, 4, none⟩ = some (.bool false) := by simp [World.cell?, HG0.out]
      have y4 : wr.cell? ⟨w.heap.size + 1, 4, none⟩ = some (.bool true) := by simp [World.cell?, HG1.out]
      have x5 : wr.cell? ⟨w.heap.size, 5, none⟩ = some (.bool false) := by simp [World.cell?, HG0.out]
      have y5 : wr.cell? ⟨w.heap.size + 1, 5, none⟩ = some (.bool b1) := by simp [World.cell?, HG1.out]
      have x6 : wr.cell? ⟨w.heap.size, 6, none⟩ = some (.bool false) := by simp [World.cell?, HG0.out]
      have y6 : wr.cell? ⟨w.heap.size + 1, 6, none⟩ = some (.bool b2) := by simp [World.cell?, HG1.out]
      have x7 : wr.cell? ⟨w.heap.size, 7, none⟩ = some (.bool false) := by simp [World.cell?, HG0.out]
      have y7 : wr.cell? ⟨w.heap.size + 1, 7, none⟩ = some (.bool b3) := by simp [World.cell?, HG1.out]
      have x8 : wr.cell? ⟨w.heap.size, 8, none⟩ = some (.bool false) := by simp [World.cell?, HG0.out]
      have y8 : wr.cell? ⟨w.heap.size + 1, 8, none⟩ = some (.bool false) := by simp [World.cell?, HG1.out]
      go_wp2_with (fail)
      have e : (⟨(fmtOf true b1 b2 b3 false 0 none).toArray⟩ : ByteArray) = s := by
        refine str_of ?_
        simp only [append_list, HS.out]
        skip
        simp [fmtOf, flagP, widB, precB]
      rw [e]
      refine bodyPost_ret (v := .tuple #[.agg #[.int .i64 0, .int .i64 0, .bool false, .bool false, .bool true, .bool b1, .bool b2, .bool b3, .bool false], .string (s)]) ?_ rfl ⟨?_, ?_⟩
      · rw [results_cell_tmp rfl]
        go_simp
      · skip
        rfl
      · have hO2 := HO.out.trans HOr.out
        repeat (first | (with_reducible exact hO2) | (with_reducible refine Only.alloc ?_ _) | (with_reducible refine only_set ?_ (by omega) _ _))

set_option maxRecDepth 100000 in
set_option maxHeartbeats 8000000 in
theorem flags_tf_zn (n wid prec : Int) (k0 : bitN n 0 = true) (k4 : bitN n 4 = false) (hw : 0 ≤ wid) (hr : wid % 200 = 0) (hp : prec < 0) (w : World) :
    Calls Tryz.prog 21 #[.int .i64 n, .int .i64 wid, .int .i64 prec] w fun e w' => e = .returned (.tuple #[(sfOf true (bitN n 1) (bitN n 2) (bitN n 3) false 0 none).val, .string ⟨(fmtOf true (bitN n 1) (bitN n 2) (bitN n 3) false 0 none).toArray⟩]) ∧ Only none w w' := by
  have q := kc26
  have q45 := kcOne 45 45 rfl
  have q43 := kcOne 43 43 rfl
  have q35 := kcOne 35 35 rfl
  have q32 := kcOne 32 32 rfl
  have q48 := kcOne 48 48 rfl
  have d0 : bits .and .i64 n 1 = 1 := (and_bit n 0 (by decide)).trans (by rw [k0]; rfl)
  have d4 : bits .and .i64 n 16 = 0 := (and_bit n 4 (by decide)).trans (by rw [k4]; rfl)
  have s4 : bits .and .i64 (n / 16) 1 = 0 := (shr_bit n 4 16 rfl).trans (by rw [k4]; rfl)
  have D : ∀ j, j ≤ 5 → decide (0 < bits .and .i64 n ((2 ^ j : Nat) : Int)) = bitN n j := by
    intro j hj
    rw [and_bit n j hj]
    cases bitN n j
    · simp
    · simp only [if_true, decide_eq_true_eq]
      have := Nat.two_pow_pos j
      omega
  have d1 : decide (0 < bits .and .i64 n 2) = bitN n 1 := D 1 (by decide)
  have d2 : decide (0 < bits .and .i64 n 4) = bitN n 2 := D 2 (by decide)
  have d3 : decide (0 < bits .and .i64 n 8) = bitN n 3 := D 3 (by decide)
  have s1 : bits .and .i64 (n / 2) 1 = if bitN n 1 = true then 1 else 0 := shr_bit n 1 2 rfl
  have s2 : bits .and .i64 (n / 4) 1 = if bitN n 2 = true then 1 else 0 := shr_bit n 2 4 rfl
  have s3 : bits .and .i64 (n / 8) 1 = if bitN n 3 = true then 1 else 0 := shr_bit n 3 8 rfl
  generalize bitN n 1 = b1 at *
  generalize bitN n 2 = b2 at *
  generalize bitN n 3 = b3 at *
  have S1 := Lib.hid s1
  have S2 := Lib.hid s2
  have S3 := Lib.hid s3
  clear D k0 k4 s1 s2 s3

  have ht : Int.tmod wid 200 = 0 := by rw [Int.tmod_eq_emod_of_nonneg hw]; exact hr
  clear hr
  go_enter Tryz.func21, Tryz.ntmps21
  go_wp2
  obtain ⟨W1, hW1⟩ : ∃ W1, W1 = (((w.alloc (.cells #[.int .i64 0, .int .i64 0, .bool false, .bool false, .bool false, .bool false, .bool false, .bool false, .bool false] 35)).alloc (.cells #[.int .i64 0, .int .i64 0, .bool false, .bool false, .bool true, .bool b1, .bool b2, .bool b3, .bool false] 35)).alloc (.cells #[.int .u8 45, .int .u8 43, .int .u8 35, .int .u8 32, .int .u8 48] 5 (5, 6))) := ⟨_, rfl⟩
  rw [← hW1]
  have HB0 : W1.heap[w.heap.size]? = some (.cells #[.int .i64 0, .int .i64 0, .bool false, .bool false, .bool false, .bool false, .bool false, .bool false, .bool false] 35 (0, 0)) := by
    rw [hW1, heap_alloc_old _ _ (by simp; omega), heap_alloc_old _ _ (by simp), heap_alloc_new]
  have HB1 : W1.heap[w.heap.size + 1]? = some (.cells #[.int .i64 0, .int .i64 0, .bool false, .bool false, .bool true, .bool b1, .bool b2, .bool b3, .bool false] 35 (0, 0)) := by
    rw [hW1, heap_alloc_old _ _ (by simp)]
    simpa using heap_alloc_new (w.alloc (.cells #[.int .i64 0, .int .i64 0, .bool false, .bool false, .bool false, .bool false, .bool false, .bool false, .bool false] 35)) (.cells #[.int .i64 0, .int .i64 0, .bool false, .bool false, .bool true, .bool b1, .bool b2, .bool b3, .bool false] 35)
  have HB2 : W1.heap[w.heap.size + 1 + 1]? = some (.cells #[.int .u8 45, .int .u8 43, .int .u8 35, .int .u8 32, .int .u8 48] 5 (5, 6)) := by
    rw [hW1]
    simpa using heap_alloc_new ((w.alloc (.cells #[.int .i64 0, .int .i64 0, .bool false, .bool false, .bool false, .bool false, .bool false, .bool false, .bool false] 35)).alloc (.cells #[.int .i64 0, .int .i64 0, .bool false, .bool false, .bool true, .bool b1, .bool b2, .bool b3, .bool false] 35)) (.cells #[.int .u8 45, .int .u8 43, .int .u8 35, .int .u8 32, .int .u8 48] 5 (5, 6))
  have hO1 : Only none w W1 := by rw [hW1]; exact (((Only.refl _ _).alloc _).alloc _).alloc _
  have hsz : w.heap.size + 1 + 1 < W1.heap.size := lt_of_heap HB2
  have H0 := Lib.hid HB0
  have H1 := Lib.hid HB1
  have H2 := Lib.hid HB2
  have HO := Lib.hid hO1
  clear hW1 HB0 HB1 HB2 hO1
  go_loopw [9, 36] (fun a i W => ∃ (k : Nat) (s : ByteArray), i = .int .i64 k ∧ a = .string s ∧ s.size ≤ k + 1 ∧ Only none W1 W ∧ k ≤ 5 ∧ Hid (s.data.toList = 37 :: flagP true b1 b2 b3 false k)) (fun _ i _ => 5 - (intOf i).toNat)
  case atStart => exact ⟨0, _, rfl, rfl, by decide, Only.refl _ _, by decide, rfl⟩
  case round =>
    obtain ⟨k, s, rfl, rfl, hs, hOr, hk, HS⟩ := hrel
    have hsw : W1.heap.size ≤ wr.heap.size := hOr.size
    have G0 : wr.heap[w.heap.size]? = _ := (hOr.other _ (lt_of_heap H0.out) (fun _ _ _ he => by cases he)).trans H0.out
    have G1 : wr.heap[w.heap.size + 1]? = _ := (hOr.other _ (lt_of_heap H1.out) (fun _ _ _ he => by cases he)).trans H1.out
    have G2 : wr.heap[w.heap.size + 1 + 1]? = _ := (hOr.other _ (lt_of_heap H2.out) (fun _ _ _ he => by cases he)).trans H2.out
    have HG0 := Lib.hid G0
    have HG1 := Lib.hid G1
    have HG2 := Lib.hid G2
    have HOr := Lib.hid hOr
    clear hOr G0 G1 G2
    rcases (by omega : k = 0 ∨ k = 1 ∨ k = 2 ∨ k = 3 ∨ k = 4 ∨ k = 5) with rfl | rfl | rfl | rfl | rfl | rfl
    · have hc : wr.cell? ⟨w.heap.size + 1 + 1, 0, none⟩ = some (.int .u8 45) := by simp [World.cell?, HG2.out]
      go_wp2
      go_roundw
      case rel => exact ⟨1, _, rfl, rfl, by first | omega | (rw [ByteArray.size_append]; show s.size + 1 ≤ _; omega), by first | exact HOr.out | exact HOr.out.alloc _, by decide, by show _ = _; first | (rw [append_list, HS.out]; simp [flagP, flagB]) | (rw [HS.out]; simp [flagP, flagB])⟩
      case measure => simp [intOf]
    · cases b1
      · have s1 : bits .and .i64 (n / 2) 1 = 0 := S1.out
        clear S1
        have hc : wr.cell? ⟨w.heap.size + 1 + 1, 1, none⟩ = some (.int .u8 43) := by simp [World.cell?, HG2.out]
        go_wp2
        go_roundw
        case rel => exact ⟨2, _, rfl, rfl, by first | omega | (rw [ByteArray.size_append]; show s.size + 1 ≤ _; omega), by first | exact HOr.out | exact HOr.out.alloc _, by decide, by show _ = _; first | (rw [append_list, HS.out]; simp [flagP, flagB]) | (rw [HS.out]; simp [flagP, flagB])⟩
        case measure => simp [intOf]
      · have s1 : bits .and .i64 (n / 2) 1 = 1 := S1.out
        clear S1
        have hc : wr.cell? ⟨w.heap.size + 1 + 1, 1, none⟩ = some (.int .u8 43) := by simp [World.cell?, HG2.out]
        go_wp2
        go_roundw
        case rel => exact ⟨2, _, rfl, rfl, by first | omega | (rw [ByteArray.size_append]; show s.size + 1 ≤ _; omega), by first | exact HOr.out | exact HOr.out.alloc _, by decide, by show _ = _; first | (rw [append_list, HS.out]; simp [flagP, flagB]) | (rw [HS.out]; simp [flagP, flagB])⟩
        case measure => simp [intOf]
    · cases b2
      · have s1 : bits .and .i64 (n / 4) 1 = 0 := S2.out
        clear S2
        have hc : wr.cell? ⟨w.heap.size + 1 + 1, 2, none⟩ = some (.int .u8 35) := by simp [World.cell?, HG2.out]
        go_wp2
        go_roundw
        case rel => exact ⟨3, _, rfl, rfl, by first | omega | (rw [ByteArray.size_append]; show s.size + 1 ≤ _; omega), by first | exact HOr.out | exact HOr.out.alloc _, by decide, by show _ = _; first | (rw [append_list, HS.out]; simp [flagP, flagB]) | (rw [HS.out]; simp [flagP, flagB])⟩
        case measure => simp [intOf]
      · have s1 : bits .and .i64 (n / 4) 1 = 1 := S2.out
        clear S2
        have hc : wr.cell? ⟨w.heap.size + 1 + 1, 2, none⟩ = some (.int .u8 35) := by simp [World.cell?, HG2.out]
        go_wp2
        go_roundw
        case rel => exact ⟨3, _, rfl, rfl, by first | omega | (rw [ByteArray.size_append]; show s.size + 1 ≤ _; omega), by first | exact HOr.out | exact HOr.out.alloc _, by decide, by show _ = _; first | (rw [append_list, HS.out]; simp [flagP, flagB]) | (rw [HS.out]; simp [flagP, flagB])⟩
        case measure => simp [intOf]
    · cases b3
      · have s1 : bits .and .i64 (n / 8) 1 = 0 := S3.out
        clear S3
        have hc : wr.cell? ⟨w.heap.size + 1 + 1, 3, none⟩ = some (.int .u8 32) := by simp [World.cell?, HG2.out]
        go_wp2
        go_roundw
        case rel => exact ⟨4, _, rfl, rfl, by first | omega | (rw [ByteArray.size_append]; show s.size + 1 ≤ _; omega), by first | exact HOr.out | exact HOr.out.alloc _, by decide, by show _ = _; first | (rw [append_list, HS.out]; simp [flagP, flagB]) | (rw [HS.out]; simp [flagP, flagB])⟩
        case measure => simp [intOf]
      · have s1 : bits .and .i64 (n / 8) 1 = 1 := S3.out
        clear S3
        have hc : wr.cell? ⟨w.heap.size + 1 + 1, 3, none⟩ = some (.int .u8 32) := by simp [World.cell?, HG2.out]
        go_wp2
        go_roundw
        case rel => exact ⟨4, _, rfl, rfl, by first | omega | (rw [ByteArray.size_append]; show s.size + 1 ≤ _; omega), by first | exact HOr.out | exact HOr.out.alloc _, by decide, by show _ = _; first | (rw [append_list, HS.out]; simp [flagP, flagB]) | (rw [HS.out]; simp [flagP, flagB])⟩
        case measure => simp [intOf]
    · have hc : wr.cell? ⟨w.heap.size + 1 + 1, 4, none⟩ = some (.int .u8 48) := by simp [World.cell?, HG2.out]
      go_wp2
      go_roundw
      case rel => exact ⟨5, _, rfl, rfl, by first | omega | (rw [ByteArray.size_append]; show s.size + 1 ≤ _; omega), by first | exact HOr.out | exact HOr.out.alloc _, by decide, by show _ = _; first | (rw [append_list, HS.out]; simp [flagP, flagB]) | (rw [HS.out]; simp [flagP, flagB])⟩
      case measure => simp [intOf]
    · have f0 : ∀ j, wr.frozen? ⟨w.heap.size, j, none⟩ = false := fun j => by simp [World.frozen?, HG0.out]
      have f1 : ∀ j, wr.frozen? ⟨w.heap.size + 1, j, none⟩ = false := fun j => by simp [World.frozen?, HG1.out]
      have x0 : wr.cell? ⟨w.heap.size, 0, none⟩ = some (.int .i64 0) := by simp [World.cell?, HG0.out]
      have y0 : wr.cell? ⟨w.heap.size + 1, 0, none⟩ = some (.int .i64 0) := by simp [World.cell?, HG1.out]
      have x1 : wr.cell? ⟨w.heap.size, 1, none⟩ = some (.int .i64 0) := by simp [World.cell?, HG0.out]
      have y1 : wr.cell? ⟨w.heap.size + 1, 1, none⟩ = some (.int .i64 0) := by simp [World.cell?, HG1.out]
      have x2 : wr.cell? ⟨w.heap.size, 2, none⟩ = some (.bool false) := by simp [World.cell?, HG0.out]
      have y2 : wr.cell? ⟨w.heap.size + 1, 2, none⟩ = some (.bool false) := by simp [World.cell?, HG1.out]
      have x3 : wr.cell? ⟨w.heap.size, 3, none⟩ = some (.bool false) := by simp [World.cell?, HG0.out]
      have y3 : wr.cell? ⟨w.heap.size + 1, 3, none⟩ = some (.bool false) := by simp [World.cell?, HG1.out]
      have x4 : wr.cell? ⟨w.heap.size, 4, none⟩ = some (.bool false) := by simp [World.cell?, HG0.out]
      have y4 : wr.cell? ⟨w.heap.size + 1, 4, none⟩ = some (.bool true) := by simp [World.cell?, HG1.out]
      have x5 : wr.cell? ⟨w.heap.size, 5, none⟩ = some (.bool false) := by simp [World.cell?, HG0.out]
      have y5 : wr.cell? ⟨w.heap.size + 1, 5, none⟩ = some (.bool b1) := by simp [World.cell?, HG1.out]
      have x6 : wr.cell? ⟨w.heap.size, 6, none⟩ = some (.bool false) := by simp [World.cell?, HG0.out]
      have y6 : wr.cell? ⟨w.heap.size + 1, 6, none⟩ = some (.bool b2) := by simp [World.cell?, HG1.out]
      have x7 : wr.cell? ⟨w.heap.size, 7, none⟩ = some (.bool false) := by simp [World.cell?, HG0.out]
      have y7 : wr.cell? ⟨w.heap.size + 1, 7, none⟩ = some (.bool b3) := by simp [World.cell?, HG1.out]
      have x8 : wr.cell? ⟨w.heap.size, 8, none⟩ = some (.bool false) := by simp [World.cell?, HG0.out]
      have y8 : wr.cell? ⟨w.heap.size + 1, 8, none⟩ = some (.bool false) := by simp [World.cell?, HG1.out]
      go_wp2_with (fail)
      have e : (⟨(fmtOf true b1 b2 b3 false 0 none).toArray⟩ : ByteArray) = s := by
        refine str_of ?_
        simp only [append_list, HS.out]
        skip
        simp [fmtOf, flagP, widB, precB]
      rw [e]
      refine bodyPost_ret (v := .tuple #[.agg #[.int .i64 0, .int .i64 0, .bool false, .bool false, .bool true, .bool b1, .bool b2, .bool b3, .bool false], .string (s)]) ?_ rfl ⟨?_, ?_⟩
      · rw [results_cell_tmp rfl]
        go_simp
      · skip
        rfl
      · have hO2 := HO.out.trans HOr.out
        repeat (first | (with_reducible exact hO2) | (with_reducible refine Only.alloc ?_ _) | (with_reducible refine only_set ?_ (by omega) _ _))

set_option maxRecDepth 100000 in
set_option maxHeartbeats 8000000 in
theorem flags_tf_pn (n wid prec : Int) (k0 : bitN n 0 = true) (k4 : bitN n 4 = false) (hw : 0 ≤ wid) (r : Nat) (hr : wid % 200 = (r : Int)) (hr0 : 0 < r) (hp : prec < 0) (w : World) :
    Calls Tryz.prog 21 #[.int .i64 n, .int .i64 wid, .int .i64 prec] w fun e w' => e = .returned (.tuple #[(sfOf true (bitN n 1) (bitN n 2) (bitN n 3) false r none).val, .string ⟨(fmtOf true (bitN n 1) (bitN n 2) (bitN n 3) false r none).toArray⟩]) ∧ Only none w w' := by
  have q := kc26
  have q45 := kcOne 45 45 rfl
  have q43 := kcOne 43 43 rfl
  have q35 := kcOne 35 35 rfl
  have q32 := kcOne 32 32 rfl
  have q48 := kcOne 48 48 rfl
  have d0 : bits .and .i64 n 1 = 1 := (and_bit n 0 (by decide)).trans (by rw [k0]; rfl)
  have d4 : bits .and .i64 n 16 = 0 := (and_bit n 4 (by decide)).trans (by rw [k4]; rfl)
  have s4 : bits .and .i64 (n / 16) 1 = 0 := (shr_bit n 4 16 rfl).trans (by rw [k4]; rfl)
  have D : ∀ j, j ≤ 5 → decide (0 < bits .and .i64 n ((2 ^ j : Nat) : Int)) = bitN n j := by
    intro j hj
    rw [and_bit n j hj]
    cases bitN n j
    · simp
    · simp only [if_true, decide_eq_true_eq]
      have := Nat.two_pow_pos j
      omega
  have d1 : decide (0 < bits .and .i64 n 2) = bitN n 1 := D 1 (by decide)
  have d2 : decide (0 < bits .and .i64 n 4) = bitN n 2 := D 2 (by decide)
  have d3 : decide (0 < bits .and .i64 n 8) = bitN n 3 := D 3 (by decide)
  have s1 : bits .and .i64 (n / 2) 1 = if bitN n 1 = true then 1 else 0 := shr_bit n 1 2 rfl
  have s2 : bits .and .i64 (n / 4) 1 = if bitN n 2 = true then 1 else 0 := shr_bit n 2 4 rfl
  have s3 : bits .and .i64 (n / 8) 1 = if bitN n 3 = true then 1 else 0 := shr_bit n 3 8 rfl
  generalize bitN n 1 = b1 at *
  generalize bitN n 2 = b2 at *
  generalize bitN n 3 = b3 at *
  have S1 := Lib.hid s1
  have S2 := Lib.hid s2
  have S3 := Lib.hid s3
  clear D k0 k4 s1 s2 s3

  have ht : Int.tmod wid 200 = (r : Int) := by rw [Int.tmod_eq_emod_of_nonneg hw]; exact hr
  have hr9 : r < 200 := by omega
  have hr1 : (0 : Int) < (r : Int) := by omega
  have hdl : (⟨(dec r).toArray⟩ : ByteArray).size ≤ 6 := by rw [str_size]; exact dec_len r (by omega)
  obtain ⟨z, hz⟩ : ∃ z : ByteArray, z = ⟨(dec r).toArray⟩ := ⟨_, rfl⟩
  rw [← hz] at hdl
  have C : ∀ W, Calls Tryz.prog 23 #[.int .u64 r, .int .i64 10, .bool false] W fun e w' => e = .returned (.string z) ∧ W = w' := by
    intro W; rw [hz]; exact Digits_10 r (by omega) W
  have HC := Lib.hid C
  have HZ := Lib.hid hz
  clear C hz hr
  go_enter Tryz.func21, Tryz.ntmps21
  go_wp2
  obtain ⟨W1, hW1⟩ : ∃ W1, W1 = (((w.alloc (.cells #[.int .i64 0, .int .i64 0, .bool false, .bool false, .bool false, .bool false, .bool false, .bool false, .bool false] 35)).alloc (.cells #[.int .i64 0, .int .i64 0, .bool false, .bool false, .bool true, .bool b1, .bool b2, .bool b3, .bool false] 35)).alloc (.cells #[.int .u8 45, .int .u8 43, .int .u8 35, .int .u8 32, .int .u8 48] 5 (5, 6))) := ⟨_, rfl⟩
  rw [← hW1]
  have HB0 : W1.heap[w.heap.size]? = some (.cells #[.int .i64 0, .int .i64 0, .bool false, .bool false, .bool false, .bool false, .bool false, .bool false, .bool false] 35 (0, 0)) := by
    rw [hW1, heap_alloc_old _ _ (by simp; omega), heap_alloc_old _ _ (by simp), heap_alloc_new]
  have HB1 : W1.heap[w.heap.size + 1]? = some (.cells #[.int .i64 0, .int .i64 0, .bool false, .bool false, .bool true, .bool b1, .bool b2, .bool b3, .bool false] 35 (0, 0)) := by
    rw [hW1, heap_alloc_old _ _ (by simp)]
    simpa using heap_alloc_new (w.alloc (.cells #[.int .i64 0, .int .i64 0, .bool false, .bool false, .bool false, .bool false, .bool false, .bool false, .bool false] 35)) (.cells #[.int .i64 0, .int .i64 0, .bool false, .bool false, .bool true, .bool b1, .bool b2, .bool b3, .bool false] 35)
  have HB2 : W1.heap[w.heap.size + 1 + 1]? = some (.cells #[.int .u8 45, .int .u8 43, .int .u8 35, .int .u8 32, .int .u8 48] 5 (5, 6)) := by
    rw [hW1]
    simpa using heap_alloc_new ((w.alloc (.cells #[.int .i64 0, .int .i64 0, .bool false, .bool false, .bool false, .bool false, .bool false, .bool false, .bool false] 35)).alloc (.cells #[.int .i64 0, .int .i64 0, .bool false, .bool false, .bool true, .bool b1, .bool b2, .bool b3, .bool false] 35)) (.cells #[.int .u8 45, .int .u8 43, .int .u8 35, .int .u8 32, .int .u8 48] 5 (5, 6))
  have hO1 : Only none w W1 := by rw [hW1]; exact (((Only.refl _ _).alloc _).alloc _).alloc _
  have hsz : w.heap.size + 1 + 1 < W1.heap.size := lt_of_heap HB2
  have H0 := Lib.hid HB0
  have H1 := Lib.hid HB1
  have H2 := Lib.hid HB2
  have HO := Lib.hid hO1
  clear hW1 HB0 HB1 HB2 hO1
  go_loopw [9, 36] (fun a i W => ∃ (k : Nat) (s : ByteArray), i = .int .i64 k ∧ a = .string s ∧ s.size ≤ k + 1 ∧ Only none W1 W ∧ k ≤ 5 ∧ Hid (s.data.toList = 37 :: flagP true b1 b2 b3 false k)) (fun _ i _ => 5 - (intOf i).toNat)
  case atStart => exact ⟨0, _, rfl, rfl, by decide, Only.refl _ _, by decide, rfl⟩
  case round =>
    obtain ⟨k, s, rfl, rfl, hs, hOr, hk, HS⟩ := hrel
    have hsw : W1.heap.size ≤ wr.heap.size := hOr.size
    have G0 : wr.heap[w.heap.size]? = _ := (hOr.other _ (lt_of_heap H0.out) (fun _ _ _ he => by cases he)).trans H0.out
    have G1 : wr.heap[w.heap.size + 1]? = _ := (hOr.other _ (lt_of_heap H1.out) (fun _ _ _ he => by cases he)).trans H1.out
    have G2 : wr.heap[w.heap.size + 1 + 1]? = _ := (hOr.other _ (lt_of_heap H2.out) (fun _ _ _ he => by cases he)).trans H2.out
    have HG0 := Lib.hid G0
    have HG1 := Lib.hid G1
    have HG2 := Lib.hid G2
    have HOr := Lib.hid hOr
    clear hOr G0 G1 G2
    rcases (by omega : k = 0 ∨ k = 1 ∨ k = 2 ∨ k = 3 ∨ k = 4 ∨ k = 5) with rfl | rfl | rfl | rfl | rfl | rfl
    · have hc : wr.cell? ⟨w.heap.size + 1 + 1, 0, none⟩ = some (.int .u8 45) := by simp [World.cell?, HG2.out]
      go_wp2
      go_roundw
      case rel => exact ⟨1, _, rfl, rfl, by first | omega | (rw [ByteArray.size_append]; show s.size + 1 ≤ _; omega), by first | exact HOr.out | exact HOr.out.alloc _, by decide, by show _ = _; first | (rw [append_list, HS.out]; simp [flagP, flagB]) | (rw [HS.out]; simp [flagP, flagB])⟩
      case measure => simp [intOf]
    · cases b1
      · have s1 : bits .and .i64 (n / 2) 1 = 0 := S1.out
        clear S1
        have hc : wr.cell? ⟨w.heap.size + 1 + 1, 1, none⟩ = some (.int .u8 43) := by simp [World.cell?, HG2.out]
        go_wp2
        go_roundw
        case rel => exact ⟨2, _, rfl, rfl, by first | omega | (rw [ByteArray.size_append]; show s.size + 1 ≤ _; omega), by first | exact HOr.out | exact HOr.out.alloc _, by decide, by show _ = _; first | (rw [append_list, HS.out]; simp [flagP, flagB]) | (rw [HS.out]; simp [flagP, flagB])⟩
        case measure => simp [intOf]
      · have s1 : bits .and .i64 (n / 2) 1 = 1 := S1.out
        clear S1
        have hc : wr.cell? ⟨w.heap.size + 1 + 1, 1, none⟩ = some (.int .u8 43) := by simp [World.cell?, HG2.out]
        go_wp2
        go_roundw
        case rel => exact ⟨2, _, rfl, rfl, by first | omega | (rw [ByteArray.size_append]; show s.size + 1 ≤ _; omega), by first | exact HOr.out | exact HOr.out.alloc _, by decide, by show _ = _; first | (rw [append_list, HS.out]; simp [flagP, flagB]) | (rw [HS.out]; simp [flagP, flagB])⟩
        case measure => simp [intOf]
    · cases b2
      · have s1 : bits .and .i64 (n / 4) 1 = 0 := S2.out
        clear S2
        have hc : wr.cell? ⟨w.heap.size + 1 + 1, 2, none⟩ = some (.int .u8 35) := by simp [World.cell?, HG2.out]
        go_wp2
        go_roundw
        case rel => exact ⟨3, _, rfl, rfl, by first | omega | (rw [ByteArray.size_append]; show s.size + 1 ≤ _; omega), by first | exact HOr.out | exact HOr.out.alloc _, by decide, by show _ = _; first | (rw [append_list, HS.out]; simp [flagP, flagB]) | (rw [HS.out]; simp [flagP, flagB])⟩
        case measure => simp [intOf]
      · have s1 : bits .and .i64 (n / 4) 1 = 1 := S2.out
        clear S2
        have hc : wr.cell? ⟨w.heap.size + 1 + 1, 2, none⟩ = some (.int .u8 35) := by simp [World.cell?, HG2.out]
        go_wp2
        go_roundw
        case rel => exact ⟨3, _, rfl, rfl, by first | omega | (rw [ByteArray.size_append]; show s.size + 1 ≤ _; omega), by first | exact HOr.out | exact HOr.out.alloc _, by decide, by show _ = _; first | (rw [append_list, HS.out]; simp [flagP, flagB]) | (rw [HS.out]; simp [flagP, flagB])⟩
        case measure => simp [intOf]
    · cases b3
      · have s1 : bits .and .i64 (n / 8) 1 = 0 := S3.out
        clear S3
        have hc : wr.cell? ⟨w.heap.size + 1 + 1, 3, none⟩ = some (.int .u8 32) := by simp [World.cell?, HG2.out]
        go_wp2
        go_roundw
        case rel => exact ⟨4, _, rfl, rfl, by first | omega | (rw [ByteArray.size_append]; show s.size + 1 ≤ _; omega), by first | exact HOr.out | exact HOr.out.alloc _, by decide, by show _ = _; first | (rw [append_list, HS.out]; simp [flagP, flagB]) | (rw [HS.out]; simp [flagP, flagB])⟩
        case measure => simp [intOf]
      · have s1 : bits .and .i64 (n / 8) 1 = 1 := S3.out
        clear S3
        have hc : wr.cell? ⟨w.heap.size + 1 + 1, 3, none⟩ = some (.int .u8 32) := by simp [World.cell?, HG2.out]
        go_wp2
        go_roundw
        case rel => exact ⟨4, _, rfl, rfl, by first | omega | (rw [ByteArray.size_append]; show s.size + 1 ≤ _; omega), by first | exact HOr.out | exact HOr.out.alloc _, by decide, by show _ = _; first | (rw [append_list, HS.out]; simp [flagP, flagB]) | (rw [HS.out]; simp [flagP, flagB])⟩
        case measure => simp [intOf]
    · have hc : wr.cell? ⟨w.heap.size + 1 + 1, 4, none⟩ = some (.int .u8 48) := by simp [World.cell?, HG2.out]
      go_wp2
      go_roundw
      case rel => exact ⟨5, _, rfl, rfl, by first | omega | (rw [ByteArray.size_append]; show s.size + 1 ≤ _; omega), by first | exact HOr.out | exact HOr.out.alloc _, by decide, by show _ = _; first | (rw [append_list, HS.out]; simp [flagP, flagB]) | (rw [HS.out]; simp [flagP, flagB])⟩
      case measure => simp [intOf]
    · have f0 : ∀ j, wr.frozen? ⟨w.heap.size, j, none⟩ = false := fun j => by simp [World.frozen?, HG0.out]
      have f1 : ∀ j, wr.frozen? ⟨w.heap.size + 1, j, none⟩ = false := fun j => by simp [World.frozen?, HG1.out]
      have x0 : wr.cell? ⟨w.heap.size, 0, none⟩ = some (.int .i64 0) := by simp [World.cell?, HG0.out]
      have y0 : wr.cell? ⟨w.heap.size + 1, 0, none⟩ = some (.int .i64 0) := by simp [World.cell?, HG1.out]
      have x1 : wr.cell? ⟨w.heap.size, 1, none⟩ = some (.int .i64 0) := by simp [World.cell?, HG0.out]
      have y1 : wr.cell? ⟨w.heap.size + 1, 1, none⟩ = some (.int .i64 0) := by simp [World.cell?, HG1.out]
      have x2 : wr.cell? ⟨w.heap.size, 2, none⟩ = some (.bool false) := by simp [World.cell?, HG0.out]
      have y2 : wr.cell? ⟨w.heap.size + 1, 2, none⟩ = some (.bool false) := by simp [World.cell?, HG1.out]
      have x3 : wr.cell? ⟨w.heap.size, 3, none⟩ = some (.bool false) := by simp [World.cell?, HG0.out]
      have y3 : wr.cell? ⟨w.heap.size + 1, 3, none⟩ = some (.bool false) := by simp [World.cell?, HG1.out]
      have x4 : wr.cell? ⟨w.heap.size, 4, none⟩ = some (.bool false) := by simp [World.cell?, HG0.out]
      have y4 : wr.cell? ⟨w.heap.size + 1, 4, none⟩ = some (.bool true) := by simp [World.cell?, HG1.out]
      have x5 : wr.cell? ⟨w.heap.size, 5, none⟩ = some (.bool false) := by simp [World.cell?, HG0.out]
      have y5 : wr.cell? ⟨w.heap.size + 1, 5, none⟩ = some (.bool b1) := by simp [World.cell?, HG1.out]
      have x6 : wr.cell? ⟨w.heap.size, 6, none⟩ = some (.bool false) := by simp [World.cell?, HG0.out]
      have y6 : wr.cell? ⟨w.heap.size + 1, 6, none⟩ = some (.bool b2) := by simp [World.cell?, HG1.out]
      have x7 : wr.cell? ⟨w.heap.size, 7, none⟩ = some (.bool false) := by simp [World.cell?, HG0.out]
      have y7 : wr.cell? ⟨w.heap.size + 1, 7, none⟩ = some (.bool b3) := by simp [World.cell?, HG1.out]
      have x8 : wr.cell? ⟨w.heap.size, 8, none⟩ = some (.bool false) := by simp [World.cell?, HG0.out]
      have y8 : wr.cell? ⟨w.heap.size + 1, 8, none⟩ = some (.bool false) := by simp [World.cell?, HG1.out]
      go_wp2_with (first | (go_at_call 23; refine (HC.out _).mono ?_; rintro e w' ⟨rfl, rfl⟩))
      have e : (⟨(fmtOf true b1 b2 b3 false r none).toArray⟩ : ByteArray) = s ++ z := by
        refine str_of ?_
        simp only [append_list, HS.out]
        rw [HZ.out]
        simp [fmtOf, flagP, widB, precB, Nat.pos_iff_ne_zero.1 hr0]
      rw [e]
      refine bodyPost_ret (v := .tuple #[.agg #[.int .i64 (r : Int), .int .i64 0, .bool true, .bool false, .bool true, .bool b1, .bool b2, .bool b3, .bool false], .string (s ++ z)]) ?_ rfl ⟨?_, ?_⟩
      · rw [results_cell_tmp rfl]
        go_simp
      · have hd : decide (r ≠ 0) = true := decide_eq_true (by omega)
        simp only [sfOf, SF.val, hd]; rfl
      · have hO2 := HO.out.trans HOr.out
        repeat (first | (with_reducible exact hO2) | (with_reducible refine Only.alloc ?_ _) | (with_reducible refine only_set ?_ (by omega) _ _))

set_option maxRecDepth 100000 in
set_option maxHeartbeats 8000000 in
theorem flags_tt_nn (n wid prec : Int) (k0 : bitN n 0 = true) (k4 : bitN n 4 = true) (hw : wid < 0) (hp : prec < 0) (w : World) :
    Calls Tryz.prog 21 #[.int .i64 n, .int .i64 wid, .int .i64 prec] w fun e w' => e = .returned (.tuple #[(sfOf true (bitN n 1) (bitN n 2) (bitN n 3) true 0 none).val, .string ⟨(fmtOf true (bitN n 1) (bitN n 2) (bitN n 3) true 0 none).toArray⟩]) ∧ Only none w w' := by
  have q := kc26
  have q45 := kcOne 45 45 rfl
  have q43 := kcOne 43 43 rfl
  have q35 := kcOne 35 35 rfl
  have q32 := kcOne 32 32 rfl
  have q48 := kcOne 48 48 rfl
  have d0 : bits .and .i64 n 1 = 1 := (and_bit n 0 (by decide)).trans (by rw [k0]; rfl)
  have d4 : bits .and .i64 n 16 = 16 := (and_bit n 4 (by decide)).trans (by rw [k4]; rfl)
  have s4 : bits .and .i64 (n / 16) 1 = 1 := (shr_bit n 4 16 rfl).trans (by rw [k4]; rfl)
  have D : ∀ j, j ≤ 5 → decide (0 < bits .and .i64 n ((2 ^ j : Nat) : Int)) = bitN n j := by
    intro j hj
    rw [and_bit n j hj]
    cases bitN n j
    · simp
    · simp only [if_true, decide_eq_true_eq]
      have := Nat.two_pow_pos j
      omega
  have d1 : decide (0 < bits .and .i64 n 2) = bitN n 1 := D 1 (by decide)
  have d2 : decide (0 < bits .and .i64 n 4) = bitN n 2 := D 2 (by decide)
  have d3 : decide (0 < bits .and .i64 n 8) = bitN n 3 := D 3 (by decide)
  have s1 : bits .and .i64 (n / 2) 1 = if bitN n 1 = true then 1 else 0 := shr_bit n 1 2 rfl
  have s2 : bits .and .i64 (n / 4) 1 = if bitN n 2 = true then 1 else 0 := shr_bit n 2 4 rfl
  have s3 : bits .and .i64 (n / 8) 1 = if bitN n 3 = true then 1 else 0 := shr_bit n 3 8 rfl
  generalize bitN n 1 = b1 at *
  generalize bitN n 2 = b2 at *
  generalize bitN n 3 = b3 at *
  have S1 := Lib.hid s1
  have S2 := Lib.hid s2
  have S3 := Lib.hid s3
  clear D k0 k4 s1 s2 s3

  go_enter Tryz.func21, Tryz.ntmps21
  go_wp2
  obtain ⟨W1, hW1⟩ : ∃ W1, W1 = (((w.alloc (.cells #[.int .i64 0, .int .i64 0, .bool false, .bool false, .bool false, .bool false, .bool false, .bool false, .bool false] 35)).alloc (.cells #[.int .i64 0, .int .i64 0, .bool false, .bool false, .bool true, .bool b1, .bool b2, .bool b3, .bool false] 35)).alloc (.cells #[.int .u8 45, .int .u8 43, .int .u8 35, .int .u8 32, .int .u8 48] 5 (5, 6))) := ⟨_, rfl⟩
  rw [← hW1]
  have HB0 : W1.heap[w.heap.size]? = some (.cells #[.int .i64 0, .int .i64 0, .bool false, .bool false, .bool false, .bool false, .bool false, .bool false, .bool false] 35 (0, 0)) := by
    rw [hW1, heap_alloc_old _ _ (by simp; omega), heap_alloc_old _ _ (by simp), heap_alloc_new]
  have HB1 : W1.heap[w.heap.size + 1]? = some (.cells #[.int .i64 0, .int .i64 0, .bool false, .bool false, .bool true, .bool b1, .bool b2, .bool b3, .bool false] 35 (0, 0)) := by
    rw [hW1, heap_alloc_old _ _ (by simp)]
    simpa using heap_alloc_new (w.alloc (.cells #[.int .i64 0, .int .i64 0, .bool false, .bool false, .bool false, .bool false, .bool false, .bool false, .bool false] 35)) (.cells #[.int .i64 0, .int .i64 0, .bool false, .bool false, .bool true, .bool b1, .bool b2, .bool b3, .bool false] 35)
  have HB2 : W1.heap[w.heap.size + 1 + 1]? = some (.cells #[.int .u8 45, .int .u8 43, .int .u8 35, .int .u8 32, .int .u8 48] 5 (5, 6)) := by
    rw [hW1]
    simpa using heap_alloc_new ((w.alloc (.cells #[.int .i64 0, .int .i64 0, .bool false, .bool false, .bool false, .bool false, .bool false, .bool false, .bool false] 35)).alloc (.cells #[.int .i64 0, .int .i64 0, .bool false, .bool false, .bool true, .bool b1, .bool b2, .bool b3, .bool false] 35)) (.cells #[.int .u8 45, .int .u8 43, .int .u8 35, .int .u8 32, .int .u8 48] 5 (5, 6))
  have hO1 : Only none w W1 := by rw [hW1]; exact (((Only.refl _ _).alloc _).alloc _).alloc _
  have hsz : w.heap.size + 1 + 1 < W1.heap.size := lt_of_heap HB2
  have H0 := Lib.hid HB0
  have H1 := Lib.hid HB1
  have H2 := Lib.hid HB2
  have HO := Lib.hid hO1
  clear hW1 HB0 HB1 HB2 hO1
  go_loopw [9, 36] (fun a i W => ∃ (k : Nat) (s : ByteArray), i = .int .i64 k ∧ a = .string s ∧ s.size ≤ k + 1 ∧ Only none W1 W ∧ k ≤ 5 ∧ Hid (s.data.toList = 37 :: flagP true b1 b2 b3 true k)) (fun _ i _ => 5 - (intOf i).toNat)
  case atStart => exact ⟨0, _, rfl, rfl, by decide, Only.refl _ _, by decide, rfl⟩
  case round =>
    obtain ⟨k, s, rfl, rfl, hs, hOr, hk, HS⟩ := hrel
    have hsw : W1.heap.size ≤ wr.heap.size := hOr.size
    have G0 : wr.heap[w.heap.size]? = _ := (hOr.other _ (lt_of_heap H0.out) (fun _ _ _ he => by cases he)).trans H0.out
    have G1 : wr.heap[w.heap.size + 1]? = _ := (hOr.other _ (lt_of_heap H1.out) (fun _ _ _ he => by cases he)).trans H1.out
    have G2 : wr.heap[w.heap.size + 1 + 1]? = _ := (hOr.other _ (lt_of_heap H2.out) (fun _ _ _ he => by cases he)).trans H2.out
    have HG0 := Lib.hid G0
    have HG1 := Lib.hid G1
    have HG2 := Lib.hid G2
    have HOr := Lib.hid hOr
    clear hOr G0 G1 G2
    rcases (by omega : k = 0 ∨ k = 1 ∨ k = 2 ∨ k = 3 ∨ k = 4 ∨ k = 5) with rfl | rfl | rfl | rfl | rfl | rfl
    · have hc : wr.cell? ⟨w.heap.size + 1 + 1, 0, none⟩ = some (.int .u8 45) := by simp [World.cell?, HG2.out]
      go_wp2
      go_roundw
      case rel => exact ⟨1, _, rfl, rfl, by first | omega | (rw [ByteArray.size_append]; show s.size + 1 ≤ _; omega), by first | exact HOr.out | exact HOr.out.alloc _, by decide, by show _ = _; first | (rw [append_list, HS.out]; simp [flagP, flagB]) | (rw [HS.out]; simp [flagP, flagB])⟩
      case measure => simp [intOf]
    · cases b1
      · have s1 : bits .and .i64 (n / 2) 1 = 0 := S1.out
        clear S1
        have hc : wr.cell? ⟨w.heap.size + 1 + 1, 1, none⟩ = some (.int .u8 43) := by simp [World.cell?, HG2.out]
        go_wp2
        go_roundw
        case rel => exact ⟨2, _, rfl, rfl, by first | omega | (rw [ByteArray.size_append]; show s.size + 1 ≤ _; omega), by first | exact HOr.out | exact HOr.out.alloc _, by decide, by show _ = _; first | (rw [append_list, HS.out]; simp [flagP, flagB]) | (rw [HS.out]; simp [flagP, flagB])⟩
        case measure => simp [intOf]
      · have s1 : bits .and .i64 (n / 2) 1 = 1 := S1.out
        clear S1
        have hc : wr.cell? ⟨w.heap.size + 1 + 1, 1, none⟩ = some (.int .u8 43) := by simp [World.cell?, HG2.out]
        go_wp2
        go_roundw
        case rel => exact ⟨2, _, rfl, rfl, by first | omega | (rw [ByteArray.size_append]; show s.size + 1 ≤ _; omega), by first | exact HOr.out | exact HOr.out.alloc _, by decide, by show _ = _; first | (rw [append_list, HS.out]; simp [flagP, flagB]) | (rw [HS.out]; simp [flagP, flagB])⟩
        case measure => simp [intOf]
    · cases b2
      · have s1 : bits .and .i64 (n / 4) 1 = 0 := S2.out
        clear S2
        have hc : wr.cell? ⟨w.heap.size + 1 + 1, 2, none⟩ = some (.int .u8 35) := by simp [World.cell?, HG2.out]
        go_wp2
        go_roundw
        case rel => exact ⟨3, _, rfl, rfl, by first | omega | (rw [ByteArray.size_append]; show s.size + 1 ≤ _; omega), by first | exact HOr.out | exact HOr.out.alloc _, by decide, by show _ = _; first | (rw [append_list, HS.out]; simp [flagP, flagB]) | (rw [HS.out]; simp [flagP, flagB])⟩
        case measure => simp [intOf]
      · have s1 : bits .and .i64 (n / 4) 1 = 1 := S2.out
        clear S2
        have hc : wr.cell? ⟨w.heap.size + 1 + 1, 2, none⟩ = some (.int .u8 35) := by simp [World.cell?, HG2.out]
        go_wp2
        go_roundw
        case rel => exact ⟨3, _, rfl, rfl, by first | omega | (rw [ByteArray.size_append]; show s.size + 1 ≤ _; omega), by first | exact HOr.out | exact HOr.out.alloc _, by decide, by show _ = _; first | (rw [append_list, HS.out]; simp [flagP, flagB]) | (rw [HS.out]; simp [flagP, flagB])⟩
        case measure => simp [intOf]
    · cases b3
      · have s1 : bits .and .i64 (n / 8) 1 = 0 := S3.out
        clear S3
        have hc : wr.cell? ⟨w.heap.size + 1 + 1, 3, none⟩ = some (.int .u8 32) := by simp [World.cell?, HG2.out]
        go_wp2
        go_roundw
        case rel => exact ⟨4, _, rfl, rfl, by first | omega | (rw [ByteArray.size_append]; show s.size + 1 ≤ _; omega), by first | exact HOr.out | exact HOr.out.alloc _, by decide, by show _ = _; first | (rw [append_list, HS.out]; simp [flagP, flagB]) | (rw [HS.out]; simp [flagP, flagB])⟩
        case measure => simp [intOf]
      · have s1 : bits .and .i64 (n / 8) 1 = 1 := S3.out
        clear S3
        have hc : wr.cell? ⟨w.heap.size + 1 + 1, 3, none⟩ = some (.int .u8 32) := by simp [World.cell?, HG2.out]
        go_wp2
        go_roundw
        case rel => exact ⟨4, _, rfl, rfl, by first | omega | (rw [ByteArray.size_append]; show s.size + 1 ≤ _; omega), by first | exact HOr.out | exact HOr.out.alloc _, by decide, by show _ = _; first | (rw [append_list, HS.out]; simp [flagP, flagB]) | (rw [HS.out]; simp [flagP, flagB])⟩
        case measure => simp [intOf]
    · have hc : wr.cell? ⟨w.heap.size + 1 + 1, 4, none⟩ = some (.int .u8 48) := by simp [World.cell?, HG2.out]
      go_wp2
      go_roundw
      case rel => exact ⟨5, _, rfl, rfl, by first | omega | (rw [ByteArray.size_append]; show s.size + 1 ≤ _; omega), by first | exact HOr.out | exact HOr.out.alloc _, by decide, by show _ = _; first | (rw [append_list, HS.out]; simp [flagP, flagB]) | (rw [HS.out]; simp [flagP, flagB])⟩
      case measure => simp [intOf]
    · have f0 : ∀ j, wr.frozen? ⟨w.heap.size, j, none⟩ = false := fun j => by simp [World.frozen?, HG0.out]
      have f1 : ∀ j, wr.frozen? ⟨w.heap.size + 1, j, none⟩ = false := fun j => by simp [World.frozen?, HG1.out]
      have x0 : wr.cell? ⟨w.heap.size, 0, none⟩ = some (.int .i64 0) := by simp [World.cell?, HG0.out]
      have y0 : wr.cell? ⟨w.heap.size + 1, 0, none⟩ = some (.int .i64 0) := by simp [World.cell?, HG1.out]
      have x1 : wr.cell? ⟨w.heap.size, 1, none⟩ = some (.int .i64 0) := by simp [World.cell?, HG0.out]
      have y1 : wr.cell? ⟨w.heap.size + 1, 1, none⟩ = some (.int .i64 0) := by simp [World.cell?, HG1.out]
      have x2 : wr.cell? ⟨w.heap.size, 2, none⟩ = some (.bool false) := by simp [World.cell?, HG0.out]
      have y2 : wr.cell? ⟨w.heap.size + 1, 2, none⟩ = some (.bool false) := by simp [World.cell?, HG1.out]
      have x3 : wr.cell? ⟨w.heap.size, 3, none⟩ = some (.bool false) := by simp [World.cell?, HG0.out]
      have y3 : wr.cell? ⟨w.heap.size + 1, 3, none⟩ = some (.bool false) := by simp [World.cell?, HG1.out]
      have x4 : wr.cell? ⟨w.heap.size, 4, none⟩ = some (.bool false) := by simp [World.cell?, HG0.out]
      have y4 : wr.cell? ⟨w.heap.size + 1, 4, none⟩ = some (.bool true) := by simp [World.cell?, HG1.out]
      have x5 : wr.cell? ⟨w.heap.size, 5, none⟩ = some (.bool false) := by simp [World.cell?, HG0.out]
      have y5 : wr.cell? ⟨w.heap.size + 1, 5, none⟩ = some (.bool b1) := by simp [World.cell?, HG1.out]
      have x6 : wr.cell? ⟨w.heap.size, 6, none⟩ = some (.bool false) := by simp [World.cell?, HG0.out]
      have y6 : wr.cell? ⟨w.heap.size + 1, 6, none⟩ = some (.bool b2) := by simp [World.cell?, HG1.out]
      have x7 : wr.cell? ⟨w.heap.size, 7, none⟩ = some (.bool false) := by simp [World.cell?, HG0.out]
      have y7 : wr.cell? ⟨w.heap.size + 1, 7, none⟩ = some (.bool b3) := by simp [World.cell?, HG1.out]
      have x8 : wr.cell? ⟨w.heap.size, 8, none⟩ = some (.bool false) := by simp [World.cell?, HG0.out]
      have y8 : wr.cell? ⟨w.heap.size + 1, 8, none⟩ = some (.bool false) := by simp [World.cell?, HG1.out]
      go_wp2_with (fail)
      have e : (⟨(fmtOf true b1 b2 b3 true 0 none).toArray⟩ : ByteArray) = s := by
        refine str_of ?_
        simp only [append_list, HS.out]
        skip
        simp [fmtOf, flagP, widB, precB]
      rw [e]
      refine bodyPost_ret (v := .tuple #[.agg #[.int .i64 0, .int .i64 0, .bool false, .bool false, .bool true, .bool b1, .bool b2, .bool b3, .bool false], .string (s)]) ?_ rfl ⟨?_, ?_⟩
      · rw [results_cell_tmp rfl]
        go_simp
      · skip
        rfl
      · have hO2 := HO.out.trans HOr.out
        repeat (first | (with_reducible exact hO2) | (with_reducible refine Only.alloc ?_ _) | (with_reducible refine only_set ?_ (by omega) _ _))

set_option maxRecDepth 100000 in
set_option maxHeartbeats 8000000 in
theorem flags_tt_zn (n wid prec : Int) (k0 : bitN n 0 = true) (k4 : bitN n 4 = true) (hw : 0 ≤ wid) (hr : wid % 200 = 0) (hp : prec < 0) (w : World) :
    Calls Tryz.prog 21 #[.int .i64 n, .int .i64 wid, .int .i64 prec] w fun e w' => e = .returned (.tuple #[(sfOf true (bitN n 1) (bitN n 2) (bitN n 3) true 0 none).val, .string ⟨(fmtOf true (bitN n 1) (bitN n 2) (bitN n 3) true 0 none).toArray⟩]) ∧ Only none w w' := by
  have q := kc26
  have q45 := kcOne 45 45 rfl
  have q43 := kcOne 43 43 rfl
  have q35 := kcOne 35 35 rfl
  have q32 := kcOne 32 32 rfl
  have q48 := kcOne 48 48 rfl
  have d0 : bits .and .i64 n 1 = 1 := (and_bit n 0 (by decide)).trans (by rw [k0]; rfl)
  have d4 : bits .and .i64 n 16 = 16 := (and_bit n 4 (by decide)).trans (by rw [k4]; rfl)
  have s4 : bits .and .i64 (n / 16) 1 = 1 := (shr_bit n 4 16 rfl).trans (by rw [k4]; rfl)
  have D : ∀ j, j ≤ 5 → decide (0 < bits .and .i64 n ((2 ^ j : Nat) : Int)) = bitN n j := by
    intro j hj
    rw [and_bit n j hj]
    cases bitN n j
    · simp
    · simp only [if_true, decide_eq_true_eq]
      have := Nat.two_pow_pos j
      omega
  have d1 : decide (0 < bits .and .i64 n 2) = bitN n 1 := D 1 (by decide)
  have d2 : decide (0 < bits .and .i64 n 4) = bitN n 2 := D 2 (by decide)
  have d3 : decide (0 < bits .and .i64 n 8) = bitN n 3 := D 3 (by decide)
  have s1 : bits .and .i64 (n / 2) 1 = if bitN n 1 = true then 1 else 0 := shr_bit n 1 2 rfl
  have s2 : bits .and .i64 (n / 4) 1 = if bitN n 2 = true then 1 else 0 := shr_bit n 2 4 rfl
  have s3 : bits .and .i64 (n / 8) 1 = if bitN n 3 = true then 1 else 0 := shr_bit n 3 8 rfl
  generalize bitN n 1 = b1 at *
  generalize bitN n 2 = b2 at *
  generalize bitN n 3 = b3 at *
  have S1 := Lib.hid s1
  have S2 := Lib.hid s2
  have S3 := Lib.hid s3
  clear D k0 k4 s1 s2 s3

  have ht : Int.tmod wid 200 = 0 := by rw [Int.tmod_eq_emod_of_nonneg hw]; exact hr
  clear hr
  go_enter Tryz.func21, Tryz.ntmps21
  go_wp2
  obtain ⟨W1, hW1⟩ : ∃ W1, W1 = (((w.alloc (.cells #[.int .i64 0, .int .i64 0, .bool false, .bool false, .bool false, .bool false, .bool false, .bool false, .bool false] 35)).alloc (.cells #[.int .i64 0, .int .i64 0, .bool false, .bool false, .bool true, .bool b1, .bool b2, .bool b3, .bool false] 35)).alloc (.cells #[.int .u8 45, .int .u8 43, .int .u8 35, .int .u8 32, .int .u8 48] 5 (5, 6))) := ⟨_, rfl⟩
  rw [← hW1]
  have HB0 : W1.heap[w.heap.size]? = some (.cells #[.int .i64 0, .int .i64 0, .bool false, .bool false, .bool false, .bool false, .bool false, .bool false, .bool false] 35 (0, 0)) := by
    rw [hW1, heap_alloc_old _ _ (by simp; omega), heap_alloc_old _ _ (by simp), heap_alloc_new]
  have HB1 : W1.heap[w.heap.size + 1]? = some (.cells #[.int .i64 0, .int .i64 0, .bool false, .bool false, .bool true, .bool b1, .bool b2, .bool b3, .bool false] 35 (0, 0)) := by
    rw [hW1, heap_alloc_old _ _ (by simp)]
    simpa using heap_alloc_new (w.alloc (.cells #[.int .i64 0, .int .i64 0, .bool false, .bool false, .bool false, .bool false, .bool false, .bool false, .bool false] 35)) (.cells #[.int .i64 0, .int .i64 0, .bool false, .bool false, .bool true, .bool b1, .bool b2, .bool b3, .bool false] 35)
  have HB2 : W1.heap[w.heap.size + 1 + 1]? = some (.cells #[.int .u8 45, .int .u8 43, .int .u8 35, .int .u8 32, .int .u8 48] 5 (5, 6)) := by
    rw [hW1]
    simpa using heap_alloc_new ((w.alloc (.cells #[.int .i64 0, .int .i64 0, .bool false, .bool false, .bool false, .bool false, .bool false, .bool false, .bool false] 35)).alloc (.cells #[.int .i64 0, .int .i64 0, .bool false, .bool false, .bool true, .bool b1, .bool b2, .bool b3, .bool false] 35)) (.cells #[.int .u8 45, .int .u8 43, .int .u8 35, .int .u8 32, .int .u8 48] 5 (5, 6))
  have hO1 : Only none w W1 := by rw [hW1]; exact (((Only.refl _ _).alloc _).alloc _).alloc _
  have hsz : w.heap.size + 1 + 1 < W1.heap.size := lt_of_heap HB2
  have H0 := Lib.hid HB0
  have H1 := Lib.hid HB1
  have H2 := Lib.hid HB2
  have HO := Lib.hid hO1
  clear hW1 HB0 HB1 HB2 hO1
  go_loopw [9, 36] (fun a i W => ∃ (k : Nat) (s : ByteArray), i = .int .i64 k ∧ a = .string s ∧ s.size ≤ k + 1 ∧ Only none W1 W ∧ k ≤ 5 ∧ Hid (s.data.toList = 37 :: flagP true b1 b2 b3 true k)) (fun _ i _ => 5 - (intOf i).toNat)
  case atStart => exact ⟨0, _, rfl, rfl, by decide, Only.refl _ _, by decide, rfl⟩
  case round =>
    obtain ⟨k, s, rfl, rfl, hs, hOr, hk, HS⟩ := hrel
    have hsw : W1.heap.size ≤ wr.heap.size := hOr.size
    have G0 : wr.heap[w.heap.size]? = _ := (hOr.other _ (lt_of_heap H0.out) (fun _ _ _ he => by cases he)).trans H0.out
    have G1 : wr.heap[w.heap.size + 1]? = _ := (hOr.other _ (lt_of_heap H1.out) (fun _ _ _ he => by cases he)).trans H1.out
    have G2 : wr.heap[w.heap.size + 1 + 1]? = _ := (hOr.other _ (lt_of_heap H2.out) (fun _ _ _ he => by cases he)).trans H2.out
    have HG0 := Lib.hid G0
    have HG1 := Lib.hid G1
    have HG2 := Lib.hid G2
    have HOr := Lib.hid hOr
    clear hOr G0 G1 G2
    rcases (by omega : k = 0 ∨ k = 1 ∨ k = 2 ∨ k = 3 ∨ k = 4 ∨ k = 5) with rfl | rfl | rfl | rfl | rfl | rfl
    · have hc : wr.cell? ⟨w.heap.size + 1 + 1, 0, none⟩ = some (.int .u8 45) := by simp [World.cell?, HG2.out]
      go_wp2
      go_roundw
      case rel => exact ⟨1, _, rfl, rfl, by first | omega | (rw [ByteArray.size_append]; show s.size + 1 ≤ _; omega), by first | exact HOr.out | exact HOr.out.alloc _, by decide, by show _ = _; first | (rw [append_list, HS.out]; simp [flagP, flagB]) | (rw [HS.out]; simp [flagP, flagB])⟩
      case measure => simp [intOf]
    · cases b1
      · have s1 : bits .and .i64 (n / 2) 1 = 0 := S1.out
        clear S1
        have hc : wr.cell? ⟨w.heap.size + 1 + 1, 1, none⟩ = some (.int .u8 43) := by simp [World.cell?, HG2.out]
        go_wp2
        go_roundw
        case rel => exact ⟨2, _, rfl, rfl, by first | omega | (rw [ByteArray.size_append]; show s.size + 1 ≤ _; omega), by first | exact HOr.out | exact HOr.out.alloc _, by decide, by show _ = _; first | (rw [append_list, HS.out]; simp [flagP, flagB]) | (rw [HS.out]; simp [flagP, flagB])⟩
        case measure => simp [intOf]
      · have s1 : bits .and .i64 (n / 2) 1 = 1 := S1.out
        clear S1
        have hc : wr.cell? ⟨w.heap.size + 1 + 1, 1, none⟩ = some (.int .u8 43) := by simp [World.cell?, HG2.out]
        go_wp2
        go_roundw
        case rel => exact ⟨2, _, rfl, rfl, by first | omega | (rw [ByteArray.size_append]; show s.size + 1 ≤ _; omega), by first | exact HOr.out | exact HOr.out.alloc _, by decide, by show _ = _; first | (rw [append_list, HS.out]; simp [flagP, flagB]) | (rw [HS.out]; simp [flagP, flagB])⟩
        case measure => simp [intOf]
    · cases b2
      · have s1 : bits .and .i64 (n / 4) 1 = 0 := S2.out
        clear S2
        have hc : wr.cell? ⟨w.heap.size + 1 + 1, 2, none⟩ = some (.int .u8 35) := by simp [World.cell?, HG2.out]
        go_wp2
        go_roundw
        case rel => exact ⟨3, _, rfl, rfl, by first | omega | (rw [ByteArray.size_append]; show s.size + 1 ≤ _; omega), by first | exact HOr.out | exact HOr.out.alloc _, by decide, by show _ = _; first | (rw [append_list, HS.out]; simp [flagP, flagB]) | (rw [HS.out]; simp [flagP, flagB])⟩
        case measure => simp [intOf]
      · have s1 : bits .and .i64 (n / 4) 1 = 1 := S2.out
        clear S2
        have hc : wr.cell? ⟨w.heap.size + 1 + 1, 2, none⟩ = some (.int .u8 35) := by simp [World.cell?, HG2.out]
        go_wp2
        go_roundw
        case rel => exact ⟨3, _, rfl, rfl, by first | omega | (rw [ByteArray.size_append]; show s.size + 1 ≤ _; omega), by first | exact HOr.out | exact HOr.out.alloc _, by decide, by show _ = _; first | (rw [append_list, HS.out]; simp [flagP, flagB]) | (rw [HS.out]; simp [flagP, flagB])⟩
        case measure => simp [intOf]
    · cases b3
      · have s1 : bits .and .i64 (n / 8) 1 = 0 := S3.out
        clear S3
        have hc : wr.cell? ⟨w.heap.size + 1 + 1, 3, none⟩ = some (.int .u8 32) := by simp [World.cell?, HG2.out]
        go_wp2
        go_roundw
        case rel => exact ⟨4, _, rfl, rfl, by first | omega | (rw [ByteArray.size_append]; show s.size + 1 ≤ _; omega), by first | exact HOr.out | exact HOr.out.alloc _, by decide, by show _ = _; first | (rw [append_list, HS.out]; simp [flagP, flagB]) | (rw [HS.out]; simp [flagP, flagB])⟩
        case measure => simp [intOf]
      · have s1 : bits .and .i64 (n / 8) 1 = 1 := S3.out
        clear S3
        have hc : wr.cell? ⟨w.heap.size + 1 + 1, 3, none⟩ = some (.int .u8 32) := by simp [World.cell?, HG2.out]
        go_wp2
        go_roundw
        case rel => exact ⟨4, _, rfl, rfl, by first | omega | (rw [ByteArray.size_append]; show s.size + 1 ≤ _; omega), by first | exact HOr.out | exact HOr.out.alloc _, by decide, by show _ = _; first | (rw [append_list, HS.out]; simp [flagP, flagB]) | (rw [HS.out]; simp [flagP, flagB])⟩
        case measure => simp [intOf]
    · have hc : wr.cell? ⟨w.heap.size + 1 + 1, 4, none⟩ = some (.int .u8 48) := by simp [World.cell?, HG2.out]
      go_wp2
      go_roundw
      case rel => exact ⟨5, _, rfl, rfl, by first | omega | (rw [ByteArray.size_append]; show s.size + 1 ≤ _; omega), by first | exact HOr.out | exact HOr.out.alloc _, by decide, by show _ = _; first | (rw [append_list, HS.out]; simp [flagP, flagB]) | (rw [HS.out]; simp [flagP, flagB])⟩
      case measure => simp [intOf]
    · have f0 : ∀ j, wr.frozen? ⟨w.heap.size, j, none⟩ = false := fun j => by simp [World.frozen?, HG0.out]
      have f1 : ∀ j, wr.frozen? ⟨w.heap.size + 1, j, none⟩ = false := fun j => by simp [World.frozen?, HG1.out]
      have x0 : wr.cell? ⟨w.heap.size, 0, none⟩ = some (.int .i64 0) := by simp [World.cell?, HG0.out]
      have y0 : wr.cell? ⟨w.heap.size + 1, 0, none⟩ = some (.int .i64 0) := by simp [World.cell?, HG1.out]
      have x1 : wr.cell? ⟨w.heap.size, 1, none⟩ = some (.int .i64 0) := by simp [World.cell?, HG0.out]
      have y1 : wr.cell? ⟨w.heap.size + 1, 1, none⟩ = some (.int .i64 0) := by simp [World.cell?, HG1.out]
      have x2 : wr.cell? ⟨w.heap.size, 2, none⟩ = some (.bool false) := by simp [World.cell?, HG0.out]
      have y2 : wr.cell? ⟨w.heap.size + 1, 2, none⟩ = some (.bool false) := by simp [World.cell?, HG1.out]
      have x3 : wr.cell? ⟨w.heap.size, 3, none⟩ = some (.bool false) := by simp [World.cell?, HG0.out]
      have y3 : wr.cell? ⟨w.heap.size + 1, 3, none⟩ = some (.bool false) := by simp [World.cell?, HG1.out]
      have x4 : wr.cell? ⟨w.heap.size, 4, none⟩ = some (.bool false) := by simp [World.cell?, HG0.out]
      have y4 : wr.cell? ⟨w.heap.size + 1, 4, none⟩ = some (.bool true) := by simp [World.cell?, HG1.out]
      have x5 : wr.cell? ⟨w.heap.size, 5, none⟩ = some (.bool false) := by simp [World.cell?, HG0.out]
      have y5 : wr.cell? ⟨w.heap.size + 1, 5, none⟩ = some (.bool b1) := by simp [World.cell?, HG1.out]
      have x6 : wr.cell? ⟨w.heap.size, 6, none⟩ = some (.bool false) := by simp [World.cell?, HG0.out]
      have y6 : wr.cell? ⟨w.heap.size + 1, 6, none⟩ = some (.bool b2) := by simp [World.cell?, HG1.out]
      have x7 : wr.cell? ⟨w.heap.size, 7, none⟩ = some (.bool false) := by simp [World.cell?, HG0.out]
      have y7 : wr.cell? ⟨w.heap.size + 1, 7, none⟩ = some (.bool b3) := by simp [World.cell?, HG1.out]
      have x8 : wr.cell? ⟨w.heap.size, 8, none⟩ = some (.bool false) := by simp [World.cell?, HG0.out]
      have y8 : wr.cell? ⟨w.heap.size + 1, 8, none⟩ = some (.bool false) := by simp [World.cell?, HG1.out]
      go_wp2_with (fail)
      have e : (⟨(fmtOf true b1 b2 b3 true 0 none).toArray⟩ : ByteArray) = s := by
        refine str_of ?_
        simp only [append_list, HS.out]
        skip
        simp [fmtOf, flagP, widB, precB]
      rw [e]
      refine bodyPost_ret (v := .tuple #[.agg #[.int .i64 0, .int .i64 0, .bool false, .bool false, .bool true, .bool b1, .bool b2, .bool b3, .bool false], .string (s)]) ?_ rfl ⟨?_, ?_⟩
      · rw [results_cell_tmp rfl]
        go_simp
      · skip
        rfl
      · have hO2 := HO.out.trans HOr.out
        repeat (first | (with_reducible exact hO2) | (with_reducible refine Only.alloc ?_ _) | (with_reducible refine only_set ?_ (by omega) _ _))

set_option maxRecDepth 100000 in
set_option maxHeartbeats 8000000 in
theorem flags_tt_pn (n wid prec : Int) (k0 : bitN n 0 = true) (k4 : bitN n 4 = true) (hw : 0 ≤ wid) (r : Nat) (hr : wid % 200 = (r : Int)) (hr0 : 0 < r) (hp : prec < 0) (w : World) :
    Calls Tryz.prog 21 #[.int .i64 n, .int .i64 wid, .int .i64 prec] w fun e w' => e = .returned (.tuple #[(sfOf true (bitN n 1) (bitN n 2) (bitN n 3) true r none).val, .string ⟨(fmtOf true (bitN n 1) (bitN n 2) (bitN n 3) true r none).toArray⟩]) ∧ Only none w w' := by
  have q := kc26
  have q45 := kcOne 45 45 rfl
  have q43 := kcOne 43 43 rfl
  have q35 := kcOne 35 35 rfl
  have q32 := kcOne 32 32 rfl
  have q48 := kcOne 48 48 rfl
  have d0 : bits .and .i64 n 1 = 1 := (and_bit n 0 (by decide)).trans (by rw [k0]; rfl)
  have d4 : bits .and .i64 n 16 = 16 := (and_bit n 4 (by decide)).trans (by rw [k4]; rfl)
  have s4 : bits .and .i64 (n / 16) 1 = 1 := (shr_bit n 4 16 rfl).trans (by rw [k4]; rfl)
  have D : ∀ j, j ≤ 5 → decide (0 < bits .and .i64 n ((2 ^ j : Nat) : Int)) = bitN n j := by
    intro j hj
    rw [and_bit n j hj]
    cases bitN n j
    · simp
    · simp only [if_true, decide_eq_true_eq]
      have := Nat.two_pow_pos j
      omega
  have d1 : decide (0 < bits .and .i64 n 2) = bitN n 1 := D 1 (by decide)
  have d2 : decide (0 < bits .and .i64 n 4) = bitN n 2 := D 2 (by decide)
  have d3 : decide (0 < bits .and .i64 n 8) = bitN n 3 := D 3 (by decide)
  have s1 : bits .and .i64 (n / 2) 1 = if bitN n 1 = true then 1 else 0 := shr_bit n 1 2 rfl
  have s2 : bits .and .i64 (n / 4) 1 = if bitN n 2 = true then 1 else 0 := shr_bit n 2 4 rfl
  have s3 : bits .and .i64 (n / 8) 1 = if bitN n 3 = true then 1 else 0 := shr_bit n 3 8 rfl
  generalize bitN n 1 = b1 at *
  generalize bitN n 2 = b2 at *
  generalize bitN n 3 = b3 at *
  have S1 := Lib.hid s1
  have S2 := Lib.hid s2
  have S3 := Lib.hid s3
  clear D k0 k4 s1 s2 s3

  have ht : Int.tmod wid 200 = (r : Int) := by rw [Int.tmod_eq_emod_of_nonneg hw]; exact hr
  have hr9 : r < 200 := by omega
  have hr1 : (0 : Int) < (r : Int) := by omega
  have hdl : (⟨(dec r).toArray⟩ : ByteArray).size ≤ 6 := by rw [str_size]; exact dec_len r (by omega)
  obtain ⟨z, hz⟩ : ∃ z : ByteArray, z = ⟨(dec r).toArray⟩ := ⟨_, rfl⟩
  rw [← hz] at hdl
  have C : ∀ W, Calls Tryz.prog 23 #[.int .u64 r, .int .i64 10, .bool false] W fun e w' => e = .returned (.string z) ∧ W = w' := by
    intro W; rw [hz]; exact Digits_10 r (by omega) W
  have HC := Lib.hid C
  have HZ := Lib.hid hz
  clear C hz hr
  go_enter Tryz.func21, Tryz.ntmps21
  go_wp2
  obtain ⟨W1, hW1⟩ : ∃ W1, W1 = (((w.alloc (.cells #[.int .i64 0, .int .i64 0, .bool false, .bool false, .bool false, .bool false, .bool false, .bool false, .bool false] 35)).alloc (.cells #[.int .i64 0, .int .i64 0, .bool false, .bool false, .bool true, .bool b1, .bool b2, .bool b3, .bool false] 35)).alloc (.cells #[.int .u8 45, .int .u8 43, .int .u8 35, .int .u8 32, .int .u8 48] 5 (5, 6))) := ⟨_, rfl⟩
  rw [← hW1]
  have HB0 : W1.heap[w.heap.size]? = some (.cells #[.int .i64 0, .int .i64 0, .bool false, .bool false, .bool false, .bool false, .bool false, .bool false, .bool false] 35 (0, 0)) := by
    rw [hW1, heap_alloc_old _ _ (by simp; omega), heap_alloc_old _ _ (by simp), heap_alloc_new]
  have HB1 : W1.heap[w.heap.size + 1]? = some (.cells #[.int .i64 0, .int .i64 0, .bool false, .bool false, .bool true, .bool b1, .bool b2, .bool b3, .bool false] 35 (0, 0)) := by
    rw [hW1, heap_alloc_old _ _ (by simp)]
    simpa using heap_alloc_new (w.alloc (.cells #[.int .i64 0, .int .i64 0, .bool false, .bool false, .bool false, .bool false, .bool false, .bool false, .bool false] 35)) (.cells #[.int .i64 0, .int .i64 0, .bool false, .bool false, .bool true, .bool b1, .bool b2, .bool b3, .bool false] 35)
  have HB2 : W1.heap[w.heap.size + 1 + 1]? = some (.cells #[.int .u8 45, .int .u8 43, .int .u8 35, .int .u8 32, .int .u8 48] 5 (5, 6)) := by
    rw [hW1]
    simpa using heap_alloc_new ((w.alloc (.cells #[.int .i64 0, .int .i64 0, .bool false, .bool false, .bool false, .bool false, .bool false, .bool false, .bool false] 35)).alloc (.cells #[.int .i64 0, .int .i64 0, .bool false, .bool false, .bool true, .bool b1, .bool b2, .bool b3, .bool false] 35)) (.cells #[.int .u8 45, .int .u8 43, .int .u8 35, .int .u8 32, .int .u8 48] 5 (5, 6))
  have hO1 : Only none w W1 := by rw [hW1]; exact (((Only.refl _ _).alloc _).alloc _).alloc _
  have hsz : w.heap.size + 1 + 1 < W1.heap.size := lt_of_heap HB2
  have H0 := Lib.hid HB0
  have H1 := Lib.hid HB1
  have H2 := Lib.hid HB2
  have HO := Lib.hid hO1
  clear hW1 HB0 HB1 HB2 hO1
  go_loopw [9, 36] (fun a i W => ∃ (k : Nat) (s : ByteArray), i = .int .i64 k ∧ a = .string s ∧ s.size ≤ k + 1 ∧ Only none W1 W ∧ k ≤ 5 ∧ Hid (s.data.toList = 37 :: flagP true b1 b2 b3 true k)) (fun _ i _ => 5 - (intOf i).toNat)
  case atStart => exact ⟨0, _, rfl, rfl, by decide, Only.refl _ _, by decide, rfl⟩
  case round =>
    obtain ⟨k, s, rfl, rfl, hs, hOr, hk, HS⟩ := hrel
    have hsw : W1.heap.size ≤ wr.heap.size := hOr.size
    have G0 : wr.heap[w.heap.size]? = _ := (hOr.other _ (lt_of_heap H0.out) (fun _ _ _ he => by cases he)).trans H0.out
    have G1 : wr.heap[w.heap.size + 1]? = _ := (hOr.other _ (lt_of_heap H1.out) (fun _ _ _ he => by cases he)).trans H1.out
    have G2 : wr.heap[w.heap.size + 1 + 1]? = _ := (hOr.other _ (lt_of_heap H2.out) (fun _ _ _ he => by cases he)).trans H2.out
    have HG0 := Lib.hid G0
    have HG1 := Lib.hid G1
    have HG2 := Lib.hid G2
    have HOr := Lib.hid hOr
    clear hOr G0 G1 G2
    rcases (by omega : k = 0 ∨ k = 1 ∨ k = 2 ∨ k = 3 ∨ k = 4 ∨ k = 5) with rfl | rfl | rfl | rfl | rfl | rfl
    · have hc : wr.cell? ⟨w.heap.size + 1 + 1, 0, none⟩ = some (.int .u8 45) := by simp [World.cell?, HG2.out]
      go_wp2
      go_roundw
      case rel => exact ⟨1, _, rfl, rfl, by first | omega | (rw [ByteArray.size_append]; show s.size + 1 ≤ _; omega), by first | exact HOr.out | exact HOr.out.alloc _, by decide, by show _ = _; first | (rw [append_list, HS.out]; simp [flagP, flagB]) | (rw [HS.out]; simp [flagP, flagB])⟩
      case measure => simp [intOf]
    · cases b1
      · have s1 : bits .and .i64 (n / 2) 1 = 0 := S1.out
        clear S1
        have hc : wr.cell? ⟨w.heap.size + 1 + 1, 1, none⟩ = some (.int .u8 43) := by simp [World.cell?, HG2.out]
        go_wp2
        go_roundw
        case rel => exact ⟨2, _, rfl, rfl, by first | omega | (rw [ByteArray.size_append]; show s.size + 1 ≤ _; omega), by first | exact HOr.out | exact HOr.out.alloc _, by decide, by show _ = _; first | (rw [append_list, HS.out]; simp [flagP, flagB]) | (rw [HS.out]; simp [flagP, flagB])⟩
        case measure => simp [intOf]
      · have s1 : bits .and .i64 (n / 2) 1 = 1 := S1.out
        clear S1
        have hc : wr.cell? ⟨w.heap.size + 1 + 1, 1, none⟩ = some (.int .u8 43) := by simp [World.cell?, HG2.out]
        go_wp2
        go_roundw
        case rel => exact ⟨2, _, rfl, rfl, by first | omega | (rw [ByteArray.size_append]; show s.size + 1 ≤ _; omega), by first | exact HOr.out | exact HOr.out.alloc _, by decide, by show _ = _; first | (rw [append_list, HS.out]; simp [flagP, flagB]) | (rw [HS.out]; simp [flagP, flagB])⟩
        case measure => simp [intOf]
    · cases b2
      · have s1 : bits .and .i64 (n / 4) 1 = 0 := S2.out
        clear S2
        have hc : wr.cell? ⟨w.heap.size + 1 + 1, 2, none⟩ = some (.int .u8 35) := by simp [World.cell?, HG2.out]
        go_wp2
        go_roundw
        case rel => exact ⟨3, _, rfl, rfl, by first | omega | (rw [ByteArray.size_append]; show s.size + 1 ≤ _; omega), by first | exact HOr.out | exact HOr.out.alloc _, by decide, by show _ = _; first | (rw [append_list, HS.out]; simp [flagP, flagB]) | (rw [HS.out]; simp [flagP, flagB])⟩
        case measure => simp [intOf]
      · have s1 : bits .and .i64 (n / 4) 1 = 1 := S2.out
        clear S2
        have hc : wr.cell? ⟨w.heap.size + 1 + 1, 2, none⟩ = some (.int .u8 35) := by simp [World.cell?, HG2.out]
        go_wp2
        go_roundw
        case rel => exact ⟨3, _, rfl, rfl, by first | omega | (rw [ByteArray.size_append]; show s.size + 1 ≤ _; omega), by first | exact HOr.out | exact HOr.out.alloc _, by decide, by show _ = _; first | (rw [append_list, HS.out]; simp [flagP, flagB]) | (rw [HS.out]; simp [flagP, flagB])⟩
        case measure => simp [intOf]
    · cases b3
      · have s1 : bits .and .i64 (n / 8) 1 = 0 := S3.out
        clear S3
        have hc : wr.cell? ⟨w.heap.size + 1 + 1, 3, none⟩ = some (.int .u8 32) := by simp [World.cell?, HG2.out]
        go_wp2
        go_roundw
        case rel => exact ⟨4, _, rfl, rfl, by first | omega | (rw [ByteArray.size_append]; show s.size + 1 ≤ _; omega), by first | exact HOr.out | exact HOr.out.alloc _, by decide, by show _ = _; first | (rw [append_list, HS.out]; simp [flagP, flagB]) | (rw [HS.out]; simp [flagP, flagB])⟩
        case measure => simp [intOf]
      · have s1 : bits .and .i64 (n / 8) 1 = 1 := S3.out
        clear S3
        have hc : wr.cell? ⟨w.heap.size + 1 + 1, 3, none⟩ = some (.int .u8 32) := by simp [World.cell?, HG2.out]
        go_wp2
        go_roundw
        case rel => exact ⟨4, _, rfl, rfl, by first | omega | (rw [ByteArray.size_append]; show s.size + 1 ≤ _; omega), by first | exact HOr.out | exact HOr.out.alloc _, by decide, by show _ = _; first | (rw [append_list, HS.out]; simp [flagP, flagB]) | (rw [HS.out]; simp [flagP, flagB])⟩
        case measure => simp [intOf]
    · have hc : wr.cell? ⟨w.heap.size + 1 + 1, 4, none⟩ = some (.int .u8 48) := by simp [World.cell?, HG2.out]
      go_wp2
      go_roundw
      case rel => exact ⟨5, _, rfl, rfl, by first | omega | (rw [ByteArray.size_append]; show s.size + 1 ≤ _; omega), by first | exact HOr.out | exact HOr.out.alloc _, by decide, by show _ = _; first | (rw [append_list, HS.out]; simp [flagP, flagB]) | (rw [HS.out]; simp [flagP, flagB])⟩
      case measure => simp [intOf]
    · have f0 : ∀ j, wr.frozen? ⟨w.heap.size, j, none⟩ = false := fun j => by simp [World.frozen?, HG0.out]
      have f1 : ∀ j, wr.frozen? ⟨w.heap.size + 1, j, none⟩ = false := fun j => by simp [World.frozen?, HG1.out]
      have x0 : wr.cell? ⟨w.heap.size, 0, none⟩ = some (.int .i64 0) := by simp [World.cell?, HG0.out]
      have y0 : wr.cell? ⟨w.heap.size + 1, 0, none⟩ = some (.int .i64 0) := by simp [World.cell?, HG1.out]
      have x1 : wr.cell? ⟨w.heap.size, 1, none⟩ = some (.int .i64 0) := by simp [World.cell?, HG0.out]
      have y1 : wr.cell? ⟨w.heap.size + 1, 1, none⟩ = some (.int .i64 0) := by simp [World.cell?, HG1.out]
      have x2 : wr.cell? ⟨w.heap.size, 2, none⟩ = some (.bool false) := by simp [World.cell?, HG0.out]
      have y2 : wr.cell? ⟨w.heap.size + 1, 2, none⟩ = some (.bool false) := by simp [World.cell?, HG1.out]
      have x3 : wr.cell? ⟨w.heap.size, 3, none⟩ = some (.bool false) := by simp [World.cell?, HG0.out]
      have y3 : wr.cell? ⟨w.heap.size + 1, 3, none⟩ = some (.bool false) := by simp [World.cell?, HG1.out]
      have x4 : wr.cell? ⟨w.heap.size, 4, none⟩ = some (.bool false) := by simp [World.cell?, HG0.out]
      have y4 : wr.cell? ⟨w.heap.size + 1, 4, none⟩ = some (.bool true) := by simp [World.cell?, HG1.out]
      have x5 : wr.cell? ⟨w.heap.size, 5, none⟩ = some (.bool false) := by simp [World.cell?, HG0.out]
      have y5 : wr.cell? ⟨w.heap.size + 1, 5, none⟩ = some (.bool b1) := by simp [World.cell?, HG1.out]
      have x6 : wr.cell? ⟨w.heap.size, 6, none⟩ = some (.bool false) := by simp [World.cell?, HG0.out]
      have y6 : wr.cell? ⟨w.heap.size + 1, 6, none⟩ = some (.bool b2) := by simp [World.cell?, HG1.out]
      have x7 : wr.cell? ⟨w.heap.size, 7, none⟩ = some (.bool false) := by simp [World.cell?, HG0.out]
      have y7 : wr.cell? ⟨w.heap.size + 1, 7, none⟩ = some (.bool b3) := by simp [World.cell?, HG1.out]
      have x8 : wr.cell? ⟨w.heap.size, 8, none⟩ = some (.bool false) := by simp [World.cell?, HG0.out]
      have y8 : wr.cell? ⟨w.heap.size + 1, 8, none⟩ = some (.bool false) := by simp [World.cell?, HG1.out]
      go_wp2_with (first | (go_at_call 23; refine (HC.out _).mono ?_; rintro e w' ⟨rfl, rfl⟩))
      have e : (⟨(fmtOf true b1 b2 b3 true r none).toArray⟩ : ByteArray) = s ++ z := by
        refine str_of ?_
        simp only [append_list, HS.out]
        rw [HZ.out]
        simp [fmtOf, flagP, widB, precB, Nat.pos_iff_ne_zero.1 hr0]
      rw [e]
      refine bodyPost_ret (v := .tuple #[.agg #[.int .i64 (r : Int), .int .i64 0, .bool true, .bool false, .bool true, .bool b1, .bool b2, .bool b3, .bool false], .string (s ++ z)]) ?_ rfl ⟨?_, ?_⟩
      · rw [results_cell_tmp rfl]
        go_simp
      · have hd : decide (r ≠ 0) = true := decide_eq_true (by omega)
        simp only [sfOf, SF.val, hd]; rfl
      · have hO2 := HO.out.trans HOr.out
        repeat (first | (with_reducible exact hO2) | (with_reducible refine Only.alloc ?_ _) | (with_reducible refine only_set ?_ (by omega) _ _))

end Go.Proofs.YtcbliojofnigdaaGreatDoor
