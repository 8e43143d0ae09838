/- The laws' flags: none, or the minus alone; no precision. -/
import Derived.Test.YtcbliojofnigdaaGreatDoorRepPad
import Derived.Lib.SmallJoins
import Derived.Laws.ResultCell
namespace Go.Proofs.YtcbliojofnigdaaGreatDoor
open Go Go.Proofs Go.RowKit

theorem kc26 (w : World) (C : Array Value) (g : Nat) (hg : g = w.heap.size) : (convert 26 26 (.slice (some ⟨g, 0, none⟩) 5 5)).run Tryz.prog (w.alloc (.cells C 5)) = .ok (.slice (some ⟨g, 0, none⟩) 5 5) (w.alloc (.cells C 5 (C.size, C.size + 1))) :=
  Go.Joins.run_convert_bytes_const_at w 26 5 C 5 5 g hg Tryz.underlying26 Tryz.underlying5
theorem kc5 (w : World) (C : Array Value) (fr : Nat × Nat) (g j : Nat) (hg : g = w.heap.size) : (w.alloc (.cells C 5 fr)).cell? ⟨g, j, none⟩ = C[j]? := Go.Joins.cell_alloc_mark_at w C 5 fr g j hg
theorem kc45 (w : World) (g : Nat) (hg : g = w.heap.size) : (convert 26 9 (.slice (some ⟨g, 0, none⟩) 1 1)).run Tryz.prog (w.alloc (.cells #[.int .u8 45] 5)) = .ok (.string ⟨#[45]⟩) (w.alloc (.cells #[.int .u8 45] 5)) := by
  refine run_convert_bytes_back (w.alloc (.cells #[.int .u8 45] 5)) 26 9 5 ⟨g, 0, none⟩ 1 [45] Tryz.underlying26 Tryz.underlying5 Tryz.underlying9 ?_
  intro j hj
  have hj0 : j = 0 := by simpa using hj
  subst hj0
  subst hg
  rw [Addr.add_lit, World.cell?_alloc_new]
  rfl
theorem only_set {w W : World} (h : Only none w W) {b : Nat} (hb : w.heap.size ≤ b) (j : Nat) (v : Value) : Only none w (W.setCell ⟨b, j, none⟩ v) :=
  h.fresh hb (Only.setCell (Only.refl (some (b, j, 1)) W) j v (Nat.le_refl _) (by omega))

set_option maxRecDepth 100000 in
set_option maxHeartbeats 4000000 in
theorem flags_0n (wid : Int) (w : World) (hw : wid < 0) : Calls Tryz.prog 21 #[.int .i64 0, .int .i64 wid, .int .i64 (-1)] w fun e w' => e = .returned (.tuple #[(⟨0, 0, false, false, false, false, false, false, false⟩ : SF).val, .string ⟨#[37]⟩]) ∧ Only none w w' := by
  have q := kc26
  have q2 := kc5
  have q3 := kc45
  have h1 : bits .and .i64 0 1 = 0 := by decide +kernel
  have h2 : bits .and .i64 0 2 = 0 := by decide +kernel
  have h4 : bits .and .i64 0 4 = 0 := by decide +kernel
  have h8 : bits .and .i64 0 8 = 0 := by decide +kernel
  have h16 : bits .and .i64 0 16 = 0 := by decide +kernel
  go_enter Tryz.func21, Tryz.ntmps21
  go_wp2
  refine wp_loop_rounds 6 ?_
  rw [rounds_succ]
  go_wp2
  rw [rounds_succ]
  go_wp2
  rw [rounds_succ]
  go_wp2
  rw [rounds_succ]
  go_wp2
  rw [rounds_succ]
  go_wp2
  rw [rounds_succ]
  go_wp2
  refine bodyPost_ret (v := .tuple #[.agg #[.int .i64 0, .int .i64 0, .bool false, .bool false, .bool false, .bool false, .bool false, .bool false, .bool false], .string ⟨#[37]⟩]) ?_ rfl ⟨rfl, ?_⟩
  · rw [results_cell_tmp rfl]
    go_simp
  · repeat (first | exact Only.refl _ _ | refine Only.alloc ?_ _ | refine only_set ?_ (by simp <;> omega) _ _)

set_option maxRecDepth 100000 in
set_option maxHeartbeats 4000000 in
theorem flags_0z (wid : Int) (w : World) (hw : 0 ≤ wid) (hr : wid % 200 = 0) : Calls Tryz.prog 21 #[.int .i64 0, .int .i64 wid, .int .i64 (-1)] w fun e w' => e = .returned (.tuple #[(⟨0, 0, false, false, false, false, false, false, false⟩ : SF).val, .string ⟨#[37]⟩]) ∧ Only none w w' := by
  have q := kc26
  have q2 := kc5
  have q3 := kc45
  have h1 : bits .and .i64 0 1 = 0 := by decide +kernel
  have h2 : bits .and .i64 0 2 = 0 := by decide +kernel
  have h4 : bits .and .i64 0 4 = 0 := by decide +kernel
  have h8 : bits .and .i64 0 8 = 0 := by decide +kernel
  have h16 : bits .and .i64 0 16 = 0 := by decide +kernel
  have ht : Int.tmod wid 200 = 0 := by rw [Int.tmod_eq_emod_of_nonneg hw]; exact hr
  go_enter Tryz.func21, Tryz.ntmps21
  go_wp2
  refine wp_loop_rounds 6 ?_
  rw [rounds_succ]
  go_wp2
  rw [rounds_succ]
  go_wp2
  rw [rounds_succ]
  go_wp2
  rw [rounds_succ]
  go_wp2
  rw [rounds_succ]
  go_wp2
  rw [rounds_succ]
  go_wp2
  refine bodyPost_ret (v := .tuple #[.agg #[.int .i64 0, .int .i64 0, .bool false, .bool false, .bool false, .bool false, .bool false, .bool false, .bool false], .string ⟨#[37]⟩]) ?_ rfl ⟨rfl, ?_⟩
  · rw [results_cell_tmp rfl]
    go_simp
  · repeat (first | exact Only.refl _ _ | refine Only.alloc ?_ _ | refine only_set ?_ (by simp <;> omega) _ _)

set_option maxRecDepth 100000 in
set_option maxHeartbeats 4000000 in
theorem flags_0p (wid : Int) (w : World) (hw : 0 ≤ wid) (r : Nat) (hr : wid % 200 = (r : Int)) (hr0 : 0 < r) : Calls Tryz.prog 21 #[.int .i64 0, .int .i64 wid, .int .i64 (-1)] w fun e w' => e = .returned (.tuple #[(⟨r, 0, true, false, false, false, false, false, false⟩ : SF).val, .string (⟨#[37]⟩ ++ ⟨(dec r).toArray⟩)]) ∧ Only none w w' := by
  have q := kc26
  have q2 := kc5
  have q3 := kc45
  have h1 : bits .and .i64 0 1 = 0 := by decide +kernel
  have h2 : bits .and .i64 0 2 = 0 := by decide +kernel
  have h4 : bits .and .i64 0 4 = 0 := by decide +kernel
  have h8 : bits .and .i64 0 8 = 0 := by decide +kernel
  have h16 : bits .and .i64 0 16 = 0 := by decide +kernel
  have ht : Int.tmod wid 200 = (r : Int) := by rw [Int.tmod_eq_emod_of_nonneg hw]; exact hr
  have hr9 : r < 200 := by omega
  have hr1 : (0 : Int) < (r : Int) := by omega
  have hdl : (⟨(dec r).toArray⟩ : ByteArray).size ≤ 6 := by rw [str_size]; exact dec_len r (by omega)
  obtain ⟨z, hz⟩ : ∃ z : ByteArray, z = ⟨(dec r).toArray⟩ := ⟨_, rfl⟩
  rw [← hz] at hdl ⊢
  have C : ∀ W, Calls Tryz.prog 23 #[.int .u64 r, .int .i64 10, .bool false] W fun e w' => e = .returned (.string z) ∧ W = w' := by
    intro W; rw [hz]; exact Digits_10 r (by omega) W
  have HC := Lib.hid C
  clear C hz
  go_enter Tryz.func21, Tryz.ntmps21
  go_wp2
  refine wp_loop_rounds 6 ?_
  rw [rounds_succ]
  go_wp2
  rw [rounds_succ]
  go_wp2
  rw [rounds_succ]
  go_wp2
  rw [rounds_succ]
  go_wp2
  rw [rounds_succ]
  go_wp2
  rw [rounds_succ]
  go_wp2_with (go_at_call 23; refine (HC.out _).mono ?_; rintro e w' ⟨rfl, rfl⟩)
  refine bodyPost_ret (v := .tuple #[.agg #[.int .i64 (r : Int), .int .i64 0, .bool true, .bool false, .bool false, .bool false, .bool false, .bool false, .bool false], .string (⟨#[37]⟩ ++ z)]) ?_ rfl ⟨rfl, ?_⟩
  · rw [results_cell_tmp rfl]
    go_simp
  · repeat (first | exact Only.refl _ _ | refine Only.alloc ?_ _ | refine only_set ?_ (by simp <;> omega) _ _)

set_option maxRecDepth 100000 in
set_option maxHeartbeats 4000000 in
theorem flags_1n (wid : Int) (w : World) (hw : wid < 0) : Calls Tryz.prog 21 #[.int .i64 1, .int .i64 wid, .int .i64 (-1)] w fun e w' => e = .returned (.tuple #[(⟨0, 0, false, false, true, false, false, false, false⟩ : SF).val, .string ⟨#[37, 45]⟩]) ∧ Only none w w' := by
  have q := kc26
  have q2 := kc5
  have q3 := kc45
  have h1 : bits .and .i64 1 1 = 1 := by decide +kernel
  have h2 : bits .and .i64 1 2 = 0 := by decide +kernel
  have h4 : bits .and .i64 1 4 = 0 := by decide +kernel
  have h8 : bits .and .i64 1 8 = 0 := by decide +kernel
  have h16 : bits .and .i64 1 16 = 0 := by decide +kernel
  have h45 : (⟨#[37]⟩ : ByteArray) ++ ⟨#[45]⟩ = ⟨#[37, 45]⟩ := by decide +kernel
  go_enter Tryz.func21, Tryz.ntmps21
  go_wp2
  refine wp_loop_rounds 6 ?_
  rw [rounds_succ]
  go_wp2
  rw [rounds_succ]
  go_wp2
  rw [rounds_succ]
  go_wp2
  rw [rounds_succ]
  go_wp2
  rw [rounds_succ]
  go_wp2
  rw [rounds_succ]
  go_wp2
  refine bodyPost_ret (v := .tuple #[.agg #[.int .i64 0, .int .i64 0, .bool false, .bool false, .bool true, .bool false, .bool false, .bool false, .bool false], .string ⟨#[37, 45]⟩]) ?_ rfl ⟨rfl, ?_⟩
  · rw [results_cell_tmp rfl]
    go_simp
  · repeat (first | exact Only.refl _ _ | refine Only.alloc ?_ _ | refine only_set ?_ (by simp <;> omega) _ _)

set_option maxRecDepth 100000 in
set_option maxHeartbeats 4000000 in
theorem flags_1z (wid : Int) (w : World) (hw : 0 ≤ wid) (hr : wid % 200 = 0) : Calls Tryz.prog 21 #[.int .i64 1, .int .i64 wid, .int .i64 (-1)] w fun e w' => e = .returned (.tuple #[(⟨0, 0, false, false, true, false, false, false, false⟩ : SF).val, .string ⟨#[37, 45]⟩]) ∧ Only none w w' := by
  have q := kc26
  have q2 := kc5
  have q3 := kc45
  have h1 : bits .and .i64 1 1 = 1 := by decide +kernel
  have h2 : bits .and .i64 1 2 = 0 := by decide +kernel
  have h4 : bits .and .i64 1 4 = 0 := by decide +kernel
  have h8 : bits .and .i64 1 8 = 0 := by decide +kernel
  have h16 : bits .and .i64 1 16 = 0 := by decide +kernel
  have h45 : (⟨#[37]⟩ : ByteArray) ++ ⟨#[45]⟩ = ⟨#[37, 45]⟩ := by decide +kernel
  have ht : Int.tmod wid 200 = 0 := by rw [Int.tmod_eq_emod_of_nonneg hw]; exact hr
  go_enter Tryz.func21, Tryz.ntmps21
  go_wp2
  refine wp_loop_rounds 6 ?_
  rw [rounds_succ]
  go_wp2
  rw [rounds_succ]
  go_wp2
  rw [rounds_succ]
  go_wp2
  rw [rounds_succ]
  go_wp2
  rw [rounds_succ]
  go_wp2
  rw [rounds_succ]
  go_wp2
  refine bodyPost_ret (v := .tuple #[.agg #[.int .i64 0, .int .i64 0, .bool false, .bool false, .bool true, .bool false, .bool false, .bool false, .bool false], .string ⟨#[37, 45]⟩]) ?_ rfl ⟨rfl, ?_⟩
  · rw [results_cell_tmp rfl]
    go_simp
  · repeat (first | exact Only.refl _ _ | refine Only.alloc ?_ _ | refine only_set ?_ (by simp <;> omega) _ _)

set_option maxRecDepth 100000 in
set_option maxHeartbeats 4000000 in
theorem flags_1p (wid : Int) (w : World) (hw : 0 ≤ wid) (r : Nat) (hr : wid % 200 = (r : Int)) (hr0 : 0 < r) : Calls Tryz.prog 21 #[.int .i64 1, .int .i64 wid, .int .i64 (-1)] w fun e w' => e = .returned (.tuple #[(⟨r, 0, true, false, true, false, false, false, false⟩ : SF).val, .string (⟨#[37, 45]⟩ ++ ⟨(dec r).toArray⟩)]) ∧ Only none w w' := by
  have q := kc26
  have q2 := kc5
  have q3 := kc45
  have h1 : bits .and .i64 1 1 = 1 := by decide +kernel
  have h2 : bits .and .i64 1 2 = 0 := by decide +kernel
  have h4 : bits .and .i64 1 4 = 0 := by decide +kernel
  have h8 : bits .and .i64 1 8 = 0 := by decide +kernel
  have h16 : bits .and .i64 1 16 = 0 := by decide +kernel
  have h45 : (⟨#[37]⟩ : ByteArray) ++ ⟨#[45]⟩ = ⟨#[37, 45]⟩ := by decide +kernel
  have ht : Int.tmod wid 200 = (r : Int) := by rw [Int.tmod_eq_emod_of_nonneg hw]; exact hr
  have hr9 : r < 200 := by omega
  have hr1 : (0 : Int) < (r : Int) := by omega
  have hdl : (⟨(dec r).toArray⟩ : ByteArray).size ≤ 6 := by rw [str_size]; exact dec_len r (by omega)
  obtain ⟨z, hz⟩ : ∃ z : ByteArray, z = ⟨(dec r).toArray⟩ := ⟨_, rfl⟩
  rw [← hz] at hdl ⊢
  have C : ∀ W, Calls Tryz.prog 23 #[.int .u64 r, .int .i64 10, .bool false] W fun e w' => e = .returned (.string z) ∧ W = w' := by
    intro W; rw [hz]; exact Digits_10 r (by omega) W
  have HC := Lib.hid C
  clear C hz
  go_enter Tryz.func21, Tryz.ntmps21
  go_wp2
  refine wp_loop_rounds 6 ?_
  rw [rounds_succ]
  go_wp2
  rw [rounds_succ]
  go_wp2
  rw [rounds_succ]
  go_wp2
  rw [rounds_succ]
  go_wp2
  rw [rounds_succ]
  go_wp2
  rw [rounds_succ]
  go_wp2_with (go_at_call 23; refine (HC.out _).mono ?_; rintro e w' ⟨rfl, rfl⟩)
  refine bodyPost_ret (v := .tuple #[.agg #[.int .i64 (r : Int), .int .i64 0, .bool true, .bool false, .bool true, .bool false, .bool false, .bool false, .bool false], .string (⟨#[37, 45]⟩ ++ z)]) ?_ rfl ⟨rfl, ?_⟩
  · rw [results_cell_tmp rfl]
    go_simp
  · repeat (first | exact Only.refl _ _ | refine Only.alloc ?_ _ | refine only_set ?_ (by simp <;> omega) _ _)

end Go.Proofs.YtcbliojofnigdaaGreatDoor
