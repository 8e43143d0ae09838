/- spec.Width at every string (printed by tools/gen_width.py). -/
import Derived.Test.YtcbliojofnigdaaGreatDoorRepPad
import Derived.Laws.BitsLemmas
import Derived.Lib.DecodeN
set_option linter.unusedVariables false
set_option linter.unusedSimpArgs false
namespace Go.Proofs.YtcbliojofnigdaaGreatDoor
open Go Go.Proofs Go.RowKit

theorem u8_hi (x : Int) (h0 : 0 ≤ x) (h1 : x ≤ 255) : bits .and .u8 x 192 = x / 64 * 64 := by
  obtain ⟨n, rfl⟩ := Int.eq_ofNat_of_zero_le h0
  exact (by decide +kernel : ∀ m : Fin 256, bits .and .u8 (m.val : Int) 192 = (m.val : Int) / 64 * 64) ⟨n, by omega⟩
theorem u8_lo6 (x : Int) (h0 : 0 ≤ x) (h1 : x ≤ 255) : bits .and .u8 x 63 = x % 64 := by
  obtain ⟨n, rfl⟩ := Int.eq_ofNat_of_zero_le h0
  exact (by decide +kernel : ∀ m : Fin 256, bits .and .u8 (m.val : Int) 63 = (m.val : Int) % 64) ⟨n, by omega⟩
theorem or6 (x y : Int) (hx0 : 0 ≤ x) (hx : x % 64 = 0) (hx1 : x < 4611686018427387904) (h0 : 0 ≤ y) (h1 : y < 64) : bits .or .i64 x y = x + y :=
  bits_join .i64 63 (by decide) (fun n h0 h1 => by rw [IntKind.wrap_i64]; omega) 6 x y hx0 hx (by omega) h0 (by omega) (by omega)

/-- what spec.Width says of the beginning of a text -/
def WidAns (t : ByteArray) (w : World) (e : Ending) (w' : World) : Prop := (∃ k : Int, e = .returned (.int .i64 k) ∧ max 1 k = ((Utf8.decode t 0).2 : Int) ∧ 0 ≤ k ∧ k ≤ 4) ∧ w = w'
theorem WidAns.mk {t : ByteArray} {w : World} (c0 c1 c2 c3 : Nat) (e0 : (t.get! 0).toNat = c0) (e1 : (t.get! 1).toNat = c1) (e2 : (t.get! 2).toNat = c2) (e3 : (t.get! 3).toNat = c3) (k : Int) (h0 : 0 ≤ k) (h4 : k ≤ 4) (hk : max 1 k = ((Lib.decodeN t.size c0 c1 c2 c3).2 : Int)) : WidAns t w (.returned (.int .i64 k)) w := by
  refine ⟨⟨k, rfl, ?_, h0, h4⟩, rfl⟩
  rw [hk, Lib.decode_at]
  simp only [Nat.sub_zero, Nat.zero_add]
  rw [e0, e1, e2, e3]

set_option maxRecDepth 100000 in
set_option maxHeartbeats 1000000 in
theorem Width_a (t : ByteArray) (c0 c1 c2 c3 : Nat) (e0 : (t.get! 0).toNat = c0) (e1 : (t.get! 1).toNat = c1) (e2 : (t.get! 2).toNat = c2) (e3 : (t.get! 3).toNat = c3) (w : World) (h : 0 < t.size) (g : c0 < 128) : Calls Tryz.prog 56 #[.string t] w (WidAns t w) := by
  have hk : max 1 (1 : Int) = ((Lib.decodeN t.size c0 c1 c2 c3).2 : Int) := by
    unfold Lib.decodeN
    repeat' split
    all_goals first | rfl | (exfalso; omega)
  have H : ∀ W : World, WidAns t W (.returned (.int .i64 1)) W := fun W => WidAns.mk c0 c1 c2 c3 e0 e1 e2 e3 1 (by decide) (by decide) hk
  have HH := Lib.hid H
  have b0 := bt_eq t 0 (by omega)
  have f0 : bt t 0 = (c0 : Int) := by unfold bt; rw [e0]
  have p0 := bt_le t 0
  rw [f0] at b0 p0

  clear H hk e0 e1 e2 e3 f0 
  go_enter Tryz.func56, Tryz.ntmps56
  go_wp2
  all_goals first | (exfalso; omega) | (go_ret; exact HH.out _)

set_option maxRecDepth 100000 in
set_option maxHeartbeats 1000000 in
theorem Width_b (t : ByteArray) (c0 c1 c2 c3 : Nat) (e0 : (t.get! 0).toNat = c0) (e1 : (t.get! 1).toNat = c1) (e2 : (t.get! 2).toNat = c2) (e3 : (t.get! 3).toNat = c3) (w : World) (h : 0 < t.size) (g : 128 ≤ c0) (g2 : c0 < 194 ∨ 245 ≤ c0) : Calls Tryz.prog 56 #[.string t] w (WidAns t w) := by
  have hk : max 1 (0 : Int) = ((Lib.decodeN t.size c0 c1 c2 c3).2 : Int) := by
    unfold Lib.decodeN
    repeat' split
    all_goals first | rfl | (exfalso; omega)
  have H : ∀ W : World, WidAns t W (.returned (.int .i64 0)) W := fun W => WidAns.mk c0 c1 c2 c3 e0 e1 e2 e3 0 (by decide) (by decide) hk
  have HH := Lib.hid H
  have b0 := bt_eq t 0 (by omega)
  have f0 : bt t 0 = (c0 : Int) := by unfold bt; rw [e0]
  have p0 := bt_le t 0
  rw [f0] at b0 p0

  clear H hk e0 e1 e2 e3 f0 
  go_enter Tryz.func56, Tryz.ntmps56
  go_wp2
  all_goals first | (exfalso; omega) | (go_ret; exact HH.out _)

set_option maxRecDepth 100000 in
set_option maxHeartbeats 1000000 in
theorem Width_2s (t : ByteArray) (c0 c1 c2 c3 : Nat) (e0 : (t.get! 0).toNat = c0) (e1 : (t.get! 1).toNat = c1) (e2 : (t.get! 2).toNat = c2) (e3 : (t.get! 3).toNat = c3) (w : World) (h : 0 < t.size) (hs : t.size < 2) (g : 194 ≤ c0) (g0 : c0 < 224) : Calls Tryz.prog 56 #[.string t] w (WidAns t w) := by
  have hk : max 1 (0 : Int) = ((Lib.decodeN t.size c0 c1 c2 c3).2 : Int) := by
    unfold Lib.decodeN
    repeat' split
    all_goals first | rfl | (exfalso; omega)
  have H : ∀ W : World, WidAns t W (.returned (.int .i64 0)) W := fun W => WidAns.mk c0 c1 c2 c3 e0 e1 e2 e3 0 (by decide) (by decide) hk
  have HH := Lib.hid H
  have b0 := bt_eq t 0 (by omega)
  have f0 : bt t 0 = (c0 : Int) := by unfold bt; rw [e0]
  have p0 := bt_le t 0
  rw [f0] at b0 p0
  have a0 : bits .and .i64 (c0 : Int) 31 = (c0 : Int) % 32 := bits_mask .i64 63 (by decide) (fun n h0 h1 => by rw [IntKind.wrap_i64]; omega) 5 (by decide) _ (by omega) (by omega)
  clear H hk e0 e1 e2 e3 f0 
  go_enter Tryz.func56, Tryz.ntmps56
  go_wp2
  all_goals first | (exfalso; omega) | (go_ret; exact HH.out _)

set_option maxRecDepth 100000 in
set_option maxHeartbeats 1000000 in
theorem Width_2b1 (t : ByteArray) (c0 c1 c2 c3 : Nat) (e0 : (t.get! 0).toNat = c0) (e1 : (t.get! 1).toNat = c1) (e2 : (t.get! 2).toNat = c2) (e3 : (t.get! 3).toNat = c3) (w : World) (h : 2 ≤ t.size) (g : 194 ≤ c0) (g0 : c0 < 224)  (k1 : ¬ c1 / 64 = 2) : Calls Tryz.prog 56 #[.string t] w (WidAns t w) := by
  have hk : max 1 (0 : Int) = ((Lib.decodeN t.size c0 c1 c2 c3).2 : Int) := by
    unfold Lib.decodeN
    repeat' split
    all_goals first | rfl | (exfalso; omega)
  have H : ∀ W : World, WidAns t W (.returned (.int .i64 0)) W := fun W => WidAns.mk c0 c1 c2 c3 e0 e1 e2 e3 0 (by decide) (by decide) hk
  have HH := Lib.hid H
  have b0 := bt_eq t 0 (by omega)
  have f0 : bt t 0 = (c0 : Int) := by unfold bt; rw [e0]
  have p0 := bt_le t 0
  rw [f0] at b0 p0
  have b1 := bt_eq t 1 (by omega)
  have f1 : bt t 1 = (c1 : Int) := by unfold bt; rw [e1]
  have p1 := bt_le t 1
  rw [f1] at b1 p1
  have a0 : bits .and .i64 (c0 : Int) 31 = (c0 : Int) % 32 := bits_mask .i64 63 (by decide) (fun n h0 h1 => by rw [IntKind.wrap_i64]; omega) 5 (by decide) _ (by omega) (by omega)
  have q1 := u8_hi c1 (by omega) p1
  have z1 : ¬ (c1 : Int) / 64 * 64 = 128 := by omega
  clear H hk e0 e1 e2 e3 f0 f1 
  go_enter Tryz.func56, Tryz.ntmps56
  go_wp2
  refine wp_loop_rounds 1 ?_
  rw [rounds_succ]
  go_wp2
  all_goals first | (exfalso; omega) | (go_ret; exact HH.out _)

set_option maxRecDepth 100000 in
set_option maxHeartbeats 1000000 in
theorem Width_2y (t : ByteArray) (c0 c1 c2 c3 : Nat) (e0 : (t.get! 0).toNat = c0) (e1 : (t.get! 1).toNat = c1) (e2 : (t.get! 2).toNat = c2) (e3 : (t.get! 3).toNat = c3) (w : World) (h : 2 ≤ t.size) (g : 194 ≤ c0) (g0 : c0 < 224) (k1 : c1 / 64 = 2) (kv : 128 ≤ c0 % 32 * 64 + c1 % 64) (kv2 : c0 % 32 * 64 + c1 % 64 ≤ 1114111) (kv3 : c0 % 32 * 64 + c1 % 64 < 55296 ∨ 57344 ≤ c0 % 32 * 64 + c1 % 64) : Calls Tryz.prog 56 #[.string t] w (WidAns t w) := by
  have hk : max 1 (2 : Int) = ((Lib.decodeN t.size c0 c1 c2 c3).2 : Int) := by
    unfold Lib.decodeN
    repeat' split
    all_goals first | rfl | (exfalso; omega)
  have H : ∀ W : World, WidAns t W (.returned (.int .i64 2)) W := fun W => WidAns.mk c0 c1 c2 c3 e0 e1 e2 e3 2 (by decide) (by decide) hk
  have HH := Lib.hid H
  have b0 := bt_eq t 0 (by omega)
  have f0 : bt t 0 = (c0 : Int) := by unfold bt; rw [e0]
  have p0 := bt_le t 0
  rw [f0] at b0 p0
  have b1 := bt_eq t 1 (by omega)
  have f1 : bt t 1 = (c1 : Int) := by unfold bt; rw [e1]
  have p1 := bt_le t 1
  rw [f1] at b1 p1
  have a0 : bits .and .i64 (c0 : Int) 31 = (c0 : Int) % 32 := bits_mask .i64 63 (by decide) (fun n h0 h1 => by rw [IntKind.wrap_i64]; omega) 5 (by decide) _ (by omega) (by omega)
  have q1 : bits .and .u8 (c1 : Int) 192 = 128 := by rw [u8_hi c1 (by omega) p1]; omega
  have r1 := u8_lo6 c1 (by omega) p1
  have o1 : bits .or .i64 (((c0 : Int) % 32) * 64) ((c1 : Int) % 64) = ((c0 : Int) % 32) * 64 + (c1 : Int) % 64 := or6 _ _ (by omega) (by omega) (by omega) (by omega) (by omega)
  obtain ⟨x1, hx1⟩ : ∃ x, x = ((c0 : Int) % 32) * 64 + (c1 : Int) % 64 := ⟨_, rfl⟩
  rw [← hx1] at o1
  have l1 : 0 ≤ x1 := by omega
  have u1 : x1 ≤ 2047 := by omega
  have t1 : ¬ x1 < 128 := by omega
  have t2 : ¬ 1114111 < x1 := by omega
  have t3 : x1 < 55296 ∨ 57344 ≤ x1 := by omega
  clear H hk e0 e1 e2 e3 f0 f1 hx1
  go_enter Tryz.func56, Tryz.ntmps56
  go_wp2
  refine wp_loop_rounds 2 ?_
  rw [rounds_succ]
  go_wp2
  rw [rounds_succ]
  go_wp2
  all_goals first | (exfalso; omega) | (go_ret; exact HH.out _)

set_option maxRecDepth 100000 in
set_option maxHeartbeats 1000000 in
theorem Width_3s (t : ByteArray) (c0 c1 c2 c3 : Nat) (e0 : (t.get! 0).toNat = c0) (e1 : (t.get! 1).toNat = c1) (e2 : (t.get! 2).toNat = c2) (e3 : (t.get! 3).toNat = c3) (w : World) (h : 0 < t.size) (hs : t.size < 3) (g : 224 ≤ c0) (g0 : c0 < 240) : Calls Tryz.prog 56 #[.string t] w (WidAns t w) := by
  have hk : max 1 (0 : Int) = ((Lib.decodeN t.size c0 c1 c2 c3).2 : Int) := by
    unfold Lib.decodeN
    repeat' split
    all_goals first | rfl | (exfalso; omega)
  have H : ∀ W : World, WidAns t W (.returned (.int .i64 0)) W := fun W => WidAns.mk c0 c1 c2 c3 e0 e1 e2 e3 0 (by decide) (by decide) hk
  have HH := Lib.hid H
  have b0 := bt_eq t 0 (by omega)
  have f0 : bt t 0 = (c0 : Int) := by unfold bt; rw [e0]
  have p0 := bt_le t 0
  rw [f0] at b0 p0
  have a0 : bits .and .i64 (c0 : Int) 15 = (c0 : Int) % 16 := bits_mask .i64 63 (by decide) (fun n h0 h1 => by rw [IntKind.wrap_i64]; omega) 4 (by decide) _ (by omega) (by omega)
  clear H hk e0 e1 e2 e3 f0 
  go_enter Tryz.func56, Tryz.ntmps56
  go_wp2
  all_goals first | (exfalso; omega) | (go_ret; exact HH.out _)

set_option maxRecDepth 100000 in
set_option maxHeartbeats 1000000 in
theorem Width_3b1 (t : ByteArray) (c0 c1 c2 c3 : Nat) (e0 : (t.get! 0).toNat = c0) (e1 : (t.get! 1).toNat = c1) (e2 : (t.get! 2).toNat = c2) (e3 : (t.get! 3).toNat = c3) (w : World) (h : 3 ≤ t.size) (g : 224 ≤ c0) (g0 : c0 < 240)  (k1 : ¬ c1 / 64 = 2) : Calls Tryz.prog 56 #[.string t] w (WidAns t w) := by
  have hk : max 1 (0 : Int) = ((Lib.decodeN t.size c0 c1 c2 c3).2 : Int) := by
    unfold Lib.decodeN
    repeat' split
    all_goals first | rfl | (exfalso; omega)
  have H : ∀ W : World, WidAns t W (.returned (.int .i64 0)) W := fun W => WidAns.mk c0 c1 c2 c3 e0 e1 e2 e3 0 (by decide) (by decide) hk
  have HH := Lib.hid H
  have b0 := bt_eq t 0 (by omega)
  have f0 : bt t 0 = (c0 : Int) := by unfold bt; rw [e0]
  have p0 := bt_le t 0
  rw [f0] at b0 p0
  have b1 := bt_eq t 1 (by omega)
  have f1 : bt t 1 = (c1 : Int) := by unfold bt; rw [e1]
  have p1 := bt_le t 1
  rw [f1] at b1 p1
  have a0 : bits .and .i64 (c0 : Int) 15 = (c0 : Int) % 16 := bits_mask .i64 63 (by decide) (fun n h0 h1 => by rw [IntKind.wrap_i64]; omega) 4 (by decide) _ (by omega) (by omega)
  have q1 := u8_hi c1 (by omega) p1
  have z1 : ¬ (c1 : Int) / 64 * 64 = 128 := by omega
  clear H hk e0 e1 e2 e3 f0 f1 
  go_enter Tryz.func56, Tryz.ntmps56
  go_wp2
  refine wp_loop_rounds 1 ?_
  rw [rounds_succ]
  go_wp2
  all_goals first | (exfalso; omega) | (go_ret; exact HH.out _)

set_option maxRecDepth 100000 in
set_option maxHeartbeats 1000000 in
theorem Width_3b2 (t : ByteArray) (c0 c1 c2 c3 : Nat) (e0 : (t.get! 0).toNat = c0) (e1 : (t.get! 1).toNat = c1) (e2 : (t.get! 2).toNat = c2) (e3 : (t.get! 3).toNat = c3) (w : World) (h : 3 ≤ t.size) (g : 224 ≤ c0) (g0 : c0 < 240) (k1 : c1 / 64 = 2) (k2 : ¬ c2 / 64 = 2) : Calls Tryz.prog 56 #[.string t] w (WidAns t w) := by
  have hk : max 1 (0 : Int) = ((Lib.decodeN t.size c0 c1 c2 c3).2 : Int) := by
    unfold Lib.decodeN
    repeat' split
    all_goals first | rfl | (exfalso; omega)
  have H : ∀ W : World, WidAns t W (.returned (.int .i64 0)) W := fun W => WidAns.mk c0 c1 c2 c3 e0 e1 e2 e3 0 (by decide) (by decide) hk
  have HH := Lib.hid H
  have b0 := bt_eq t 0 (by omega)
  have f0 : bt t 0 = (c0 : Int) := by unfold bt; rw [e0]
  have p0 := bt_le t 0
  rw [f0] at b0 p0
  have b1 := bt_eq t 1 (by omega)
  have f1 : bt t 1 = (c1 : Int) := by unfold bt; rw [e1]
  have p1 := bt_le t 1
  rw [f1] at b1 p1
  have b2 := bt_eq t 2 (by omega)
  have f2 : bt t 2 = (c2 : Int) := by unfold bt; rw [e2]
  have p2 := bt_le t 2
  rw [f2] at b2 p2
  have a0 : bits .and .i64 (c0 : Int) 15 = (c0 : Int) % 16 := bits_mask .i64 63 (by decide) (fun n h0 h1 => by rw [IntKind.wrap_i64]; omega) 4 (by decide) _ (by omega) (by omega)
  have q1 : bits .and .u8 (c1 : Int) 192 = 128 := by rw [u8_hi c1 (by omega) p1]; omega
  have r1 := u8_lo6 c1 (by omega) p1
  have o1 : bits .or .i64 (((c0 : Int) % 16) * 64) ((c1 : Int) % 64) = ((c0 : Int) % 16) * 64 + (c1 : Int) % 64 := or6 _ _ (by omega) (by omega) (by omega) (by omega) (by omega)
  obtain ⟨x1, hx1⟩ : ∃ x, x = ((c0 : Int) % 16) * 64 + (c1 : Int) % 64 := ⟨_, rfl⟩
  rw [← hx1] at o1
  have l1 : 0 ≤ x1 := by omega
  have u1 : x1 ≤ 1023 := by omega
  have q2 := u8_hi c2 (by omega) p2
  have z2 : ¬ (c2 : Int) / 64 * 64 = 128 := by omega
  clear H hk e0 e1 e2 e3 f0 f1 f2 hx1
  go_enter Tryz.func56, Tryz.ntmps56
  go_wp2
  refine wp_loop_rounds 2 ?_
  rw [rounds_succ]
  go_wp2
  rw [rounds_succ]
  go_wp2
  all_goals first | (exfalso; omega) | (go_ret; exact HH.out _)

set_option maxRecDepth 100000 in
set_option maxHeartbeats 1000000 in
theorem Width_3l (t : ByteArray) (c0 c1 c2 c3 : Nat) (e0 : (t.get! 0).toNat = c0) (e1 : (t.get! 1).toNat = c1) (e2 : (t.get! 2).toNat = c2) (e3 : (t.get! 3).toNat = c3) (w : World) (h : 3 ≤ t.size) (g : 224 ≤ c0) (g0 : c0 < 240) (k1 : c1 / 64 = 2) (k2 : c2 / 64 = 2) (kv : c0 % 16 * 4096 + c1 % 64 * 64 + c2 % 64 < 2048) : Calls Tryz.prog 56 #[.string t] w (WidAns t w) := by
  have hk : max 1 (0 : Int) = ((Lib.decodeN t.size c0 c1 c2 c3).2 : Int) := by
    unfold Lib.decodeN
    repeat' split
    all_goals first | rfl | (exfalso; omega)
  have H : ∀ W : World, WidAns t W (.returned (.int .i64 0)) W := fun W => WidAns.mk c0 c1 c2 c3 e0 e1 e2 e3 0 (by decide) (by decide) hk
  have HH := Lib.hid H
  have b0 := bt_eq t 0 (by omega)
  have f0 : bt t 0 = (c0 : Int) := by unfold bt; rw [e0]
  have p0 := bt_le t 0
  rw [f0] at b0 p0
  have b1 := bt_eq t 1 (by omega)
  have f1 : bt t 1 = (c1 : Int) := by unfold bt; rw [e1]
  have p1 := bt_le t 1
  rw [f1] at b1 p1
  have b2 := bt_eq t 2 (by omega)
  have f2 : bt t 2 = (c2 : Int) := by unfold bt; rw [e2]
  have p2 := bt_le t 2
  rw [f2] at b2 p2
  have a0 : bits .and .i64 (c0 : Int) 15 = (c0 : Int) % 16 := bits_mask .i64 63 (by decide) (fun n h0 h1 => by rw [IntKind.wrap_i64]; omega) 4 (by decide) _ (by omega) (by omega)
  have q1 : bits .and .u8 (c1 : Int) 192 = 128 := by rw [u8_hi c1 (by omega) p1]; omega
  have r1 := u8_lo6 c1 (by omega) p1
  have o1 : bits .or .i64 (((c0 : Int) % 16) * 64) ((c1 : Int) % 64) = ((c0 : Int) % 16) * 64 + (c1 : Int) % 64 := or6 _ _ (by omega) (by omega) (by omega) (by omega) (by omega)
  obtain ⟨x1, hx1⟩ : ∃ x, x = ((c0 : Int) % 16) * 64 + (c1 : Int) % 64 := ⟨_, rfl⟩
  rw [← hx1] at o1
  have l1 : 0 ≤ x1 := by omega
  have u1 : x1 ≤ 1023 := by omega
  have q2 : bits .and .u8 (c2 : Int) 192 = 128 := by rw [u8_hi c2 (by omega) p2]; omega
  have r2 := u8_lo6 c2 (by omega) p2
  have o2 : bits .or .i64 (x1 * 64) ((c2 : Int) % 64) = x1 * 64 + (c2 : Int) % 64 := or6 _ _ (by omega) (by omega) (by omega) (by omega) (by omega)
  obtain ⟨x2, hx2⟩ : ∃ x, x = x1 * 64 + (c2 : Int) % 64 := ⟨_, rfl⟩
  rw [← hx2] at o2
  have l2 : 0 ≤ x2 := by omega
  have u2 : x2 ≤ 65535 := by omega
  have t1 : x2 < 2048 := by omega
  clear H hk e0 e1 e2 e3 f0 f1 f2 hx1 hx2
  go_enter Tryz.func56, Tryz.ntmps56
  go_wp2
  refine wp_loop_rounds 3 ?_
  rw [rounds_succ]
  go_wp2
  rw [rounds_succ]
  go_wp2
  rw [rounds_succ]
  go_wp2
  all_goals first | (exfalso; omega) | (go_ret; exact HH.out _)

set_option maxRecDepth 100000 in
set_option maxHeartbeats 1000000 in
theorem Width_3s' (t : ByteArray) (c0 c1 c2 c3 : Nat) (e0 : (t.get! 0).toNat = c0) (e1 : (t.get! 1).toNat = c1) (e2 : (t.get! 2).toNat = c2) (e3 : (t.get! 3).toNat = c3) (w : World) (h : 3 ≤ t.size) (g : 224 ≤ c0) (g0 : c0 < 240) (k1 : c1 / 64 = 2) (k2 : c2 / 64 = 2) (kv : 55296 ≤ c0 % 16 * 4096 + c1 % 64 * 64 + c2 % 64) (kv2 : c0 % 16 * 4096 + c1 % 64 * 64 + c2 % 64 < 57344) : Calls Tryz.prog 56 #[.string t] w (WidAns t w) := by
  have hk : max 1 (0 : Int) = ((Lib.decodeN t.size c0 c1 c2 c3).2 : Int) := by
    unfold Lib.decodeN
    repeat' split
    all_goals first | rfl | (exfalso; omega)
  have H : ∀ W : World, WidAns t W (.returned (.int .i64 0)) W := fun W => WidAns.mk c0 c1 c2 c3 e0 e1 e2 e3 0 (by decide) (by decide) hk
  have HH := Lib.hid H
  have b0 := bt_eq t 0 (by omega)
  have f0 : bt t 0 = (c0 : Int) := by unfold bt; rw [e0]
  have p0 := bt_le t 0
  rw [f0] at b0 p0
  have b1 := bt_eq t 1 (by omega)
  have f1 : bt t 1 = (c1 : Int) := by unfold bt; rw [e1]
  have p1 := bt_le t 1
  rw [f1] at b1 p1
  have b2 := bt_eq t 2 (by omega)
  have f2 : bt t 2 = (c2 : Int) := by unfold bt; rw [e2]
  have p2 := bt_le t 2
  rw [f2] at b2 p2
  have a0 : bits .and .i64 (c0 : Int) 15 = (c0 : Int) % 16 := bits_mask .i64 63 (by decide) (fun n h0 h1 => by rw [IntKind.wrap_i64]; omega) 4 (by decide) _ (by omega) (by omega)
  have q1 : bits .and .u8 (c1 : Int) 192 = 128 := by rw [u8_hi c1 (by omega) p1]; omega
  have r1 := u8_lo6 c1 (by omega) p1
  have o1 : bits .or .i64 (((c0 : Int) % 16) * 64) ((c1 : Int) % 64) = ((c0 : Int) % 16) * 64 + (c1 : Int) % 64 := or6 _ _ (by omega) (by omega) (by omega) (by omega) (by omega)
  obtain ⟨x1, hx1⟩ : ∃ x, x = ((c0 : Int) % 16) * 64 + (c1 : Int) % 64 := ⟨_, rfl⟩
  rw [← hx1] at o1
  have l1 : 0 ≤ x1 := by omega
  have u1 : x1 ≤ 1023 := by omega
  have q2 : bits .and .u8 (c2 : Int) 192 = 128 := by rw [u8_hi c2 (by omega) p2]; omega
  have r2 := u8_lo6 c2 (by omega) p2
  have o2 : bits .or .i64 (x1 * 64) ((c2 : Int) % 64) = x1 * 64 + (c2 : Int) % 64 := or6 _ _ (by omega) (by omega) (by omega) (by omega) (by omega)
  obtain ⟨x2, hx2⟩ : ∃ x, x = x1 * 64 + (c2 : Int) % 64 := ⟨_, rfl⟩
  rw [← hx2] at o2
  have l2 : 0 ≤ x2 := by omega
  have u2 : x2 ≤ 65535 := by omega
  have t1 : ¬ x2 < 2048 := by omega
  have t2 : ¬ 1114111 < x2 := by omega
  have t3 : 55296 ≤ x2 := by omega
  have t4 : x2 < 57344 := by omega
  clear H hk e0 e1 e2 e3 f0 f1 f2 hx1 hx2
  go_enter Tryz.func56, Tryz.ntmps56
  go_wp2
  refine wp_loop_rounds 3 ?_
  rw [rounds_succ]
  go_wp2
  rw [rounds_succ]
  go_wp2
  rw [rounds_succ]
  go_wp2
  all_goals first | (exfalso; omega) | (go_ret; exact HH.out _)

set_option maxRecDepth 100000 in
set_option maxHeartbeats 1000000 in
theorem Width_3y (t : ByteArray) (c0 c1 c2 c3 : Nat) (e0 : (t.get! 0).toNat = c0) (e1 : (t.get! 1).toNat = c1) (e2 : (t.get! 2).toNat = c2) (e3 : (t.get! 3).toNat = c3) (w : World) (h : 3 ≤ t.size) (g : 224 ≤ c0) (g0 : c0 < 240) (k1 : c1 / 64 = 2) (k2 : c2 / 64 = 2) (kv : 2048 ≤ c0 % 16 * 4096 + c1 % 64 * 64 + c2 % 64) (kv2 : c0 % 16 * 4096 + c1 % 64 * 64 + c2 % 64 ≤ 1114111) (kv3 : c0 % 16 * 4096 + c1 % 64 * 64 + c2 % 64 < 55296 ∨ 57344 ≤ c0 % 16 * 4096 + c1 % 64 * 64 + c2 % 64) : Calls Tryz.prog 56 #[.string t] w (WidAns t w) := by
  have hk : max 1 (3 : Int) = ((Lib.decodeN t.size c0 c1 c2 c3).2 : Int) := by
    unfold Lib.decodeN
    repeat' split
    all_goals first | rfl | (exfalso; omega)
  have H : ∀ W : World, WidAns t W (.returned (.int .i64 3)) W := fun W => WidAns.mk c0 c1 c2 c3 e0 e1 e2 e3 3 (by decide) (by decide) hk
  have HH := Lib.hid H
  have b0 := bt_eq t 0 (by omega)
  have f0 : bt t 0 = (c0 : Int) := by unfold bt; rw [e0]
  have p0 := bt_le t 0
  rw [f0] at b0 p0
  have b1 := bt_eq t 1 (by omega)
  have f1 : bt t 1 = (c1 : Int) := by unfold bt; rw [e1]
  have p1 := bt_le t 1
  rw [f1] at b1 p1
  have b2 := bt_eq t 2 (by omega)
  have f2 : bt t 2 = (c2 : Int) := by unfold bt; rw [e2]
  have p2 := bt_le t 2
  rw [f2] at b2 p2
  have a0 : bits .and .i64 (c0 : Int) 15 = (c0 : Int) % 16 := bits_mask .i64 63 (by decide) (fun n h0 h1 => by rw [IntKind.wrap_i64]; omega) 4 (by decide) _ (by omega) (by omega)
  have q1 : bits .and .u8 (c1 : Int) 192 = 128 := by rw [u8_hi c1 (by omega) p1]; omega
  have r1 := u8_lo6 c1 (by omega) p1
  have o1 : bits .or .i64 (((c0 : Int) % 16) * 64) ((c1 : Int) % 64) = ((c0 : Int) % 16) * 64 + (c1 : Int) % 64 := or6 _ _ (by omega) (by omega) (by omega) (by omega) (by omega)
  obtain ⟨x1, hx1⟩ : ∃ x, x = ((c0 : Int) % 16) * 64 + (c1 : Int) % 64 := ⟨_, rfl⟩
  rw [← hx1] at o1
  have l1 : 0 ≤ x1 := by omega
  have u1 : x1 ≤ 1023 := by omega
  have q2 : bits .and .u8 (c2 : Int) 192 = 128 := by rw [u8_hi c2 (by omega) p2]; omega
  have r2 := u8_lo6 c2 (by omega) p2
  have o2 : bits .or .i64 (x1 * 64) ((c2 : Int) % 64) = x1 * 64 + (c2 : Int) % 64 := or6 _ _ (by omega) (by omega) (by omega) (by omega) (by omega)
  obtain ⟨x2, hx2⟩ : ∃ x, x = x1 * 64 + (c2 : Int) % 64 := ⟨_, rfl⟩
  rw [← hx2] at o2
  have l2 : 0 ≤ x2 := by omega
  have u2 : x2 ≤ 65535 := by omega
  have t1 : ¬ x2 < 2048 := by omega
  have t2 : ¬ 1114111 < x2 := by omega
  have t3 : x2 < 55296 ∨ 57344 ≤ x2 := by omega
  clear H hk e0 e1 e2 e3 f0 f1 f2 hx1 hx2
  go_enter Tryz.func56, Tryz.ntmps56
  go_wp2
  refine wp_loop_rounds 3 ?_
  rw [rounds_succ]
  go_wp2
  rw [rounds_succ]
  go_wp2
  rw [rounds_succ]
  go_wp2
  all_goals first | (exfalso; omega) | (go_ret; exact HH.out _)

set_option maxRecDepth 100000 in
set_option maxHeartbeats 1000000 in
theorem Width_4s (t : ByteArray) (c0 c1 c2 c3 : Nat) (e0 : (t.get! 0).toNat = c0) (e1 : (t.get! 1).toNat = c1) (e2 : (t.get! 2).toNat = c2) (e3 : (t.get! 3).toNat = c3) (w : World) (h : 0 < t.size) (hs : t.size < 4) (g : 240 ≤ c0) (g0 : c0 < 245) : Calls Tryz.prog 56 #[.string t] w (WidAns t w) := by
  have hk : max 1 (0 : Int) = ((Lib.decodeN t.size c0 c1 c2 c3).2 : Int) := by
    unfold Lib.decodeN
    repeat' split
    all_goals first | rfl | (exfalso; omega)
  have H : ∀ W : World, WidAns t W (.returned (.int .i64 0)) W := fun W => WidAns.mk c0 c1 c2 c3 e0 e1 e2 e3 0 (by decide) (by decide) hk
  have HH := Lib.hid H
  have b0 := bt_eq t 0 (by omega)
  have f0 : bt t 0 = (c0 : Int) := by unfold bt; rw [e0]
  have p0 := bt_le t 0
  rw [f0] at b0 p0
  have a0 : bits .and .i64 (c0 : Int) 7 = (c0 : Int) % 8 := bits_mask .i64 63 (by decide) (fun n h0 h1 => by rw [IntKind.wrap_i64]; omega) 3 (by decide) _ (by omega) (by omega)
  clear H hk e0 e1 e2 e3 f0 
  go_enter Tryz.func56, Tryz.ntmps56
  go_wp2
  all_goals first | (exfalso; omega) | (go_ret; exact HH.out _)

set_option maxRecDepth 100000 in
set_option maxHeartbeats 1000000 in
theorem Width_4b1 (t : ByteArray) (c0 c1 c2 c3 : Nat) (e0 : (t.get! 0).toNat = c0) (e1 : (t.get! 1).toNat = c1) (e2 : (t.get! 2).toNat = c2) (e3 : (t.get! 3).toNat = c3) (w : World) (h : 4 ≤ t.size) (g : 240 ≤ c0) (g0 : c0 < 245)  (k1 : ¬ c1 / 64 = 2) : Calls Tryz.prog 56 #[.string t] w (WidAns t w) := by
  have hk : max 1 (0 : Int) = ((Lib.decodeN t.size c0 c1 c2 c3).2 : Int) := by
    unfold Lib.decodeN
    repeat' split
    all_goals first | rfl | (exfalso; omega)
  have H : ∀ W : World, WidAns t W (.returned (.int .i64 0)) W := fun W => WidAns.mk c0 c1 c2 c3 e0 e1 e2 e3 0 (by decide) (by decide) hk
  have HH := Lib.hid H
  have b0 := bt_eq t 0 (by omega)
  have f0 : bt t 0 = (c0 : Int) := by unfold bt; rw [e0]
  have p0 := bt_le t 0
  rw [f0] at b0 p0
  have b1 := bt_eq t 1 (by omega)
  have f1 : bt t 1 = (c1 : Int) := by unfold bt; rw [e1]
  have p1 := bt_le t 1
  rw [f1] at b1 p1
  have a0 : bits .and .i64 (c0 : Int) 7 = (c0 : Int) % 8 := bits_mask .i64 63 (by decide) (fun n h0 h1 => by rw [IntKind.wrap_i64]; omega) 3 (by decide) _ (by omega) (by omega)
  have q1 := u8_hi c1 (by omega) p1
  have z1 : ¬ (c1 : Int) / 64 * 64 = 128 := by omega
  clear H hk e0 e1 e2 e3 f0 f1 
  go_enter Tryz.func56, Tryz.ntmps56
  go_wp2
  refine wp_loop_rounds 1 ?_
  rw [rounds_succ]
  go_wp2
  all_goals first | (exfalso; omega) | (go_ret; exact HH.out _)

set_option maxRecDepth 100000 in
set_option maxHeartbeats 1000000 in
theorem Width_4b2 (t : ByteArray) (c0 c1 c2 c3 : Nat) (e0 : (t.get! 0).toNat = c0) (e1 : (t.get! 1).toNat = c1) (e2 : (t.get! 2).toNat = c2) (e3 : (t.get! 3).toNat = c3) (w : World) (h : 4 ≤ t.size) (g : 240 ≤ c0) (g0 : c0 < 245) (k1 : c1 / 64 = 2) (k2 : ¬ c2 / 64 = 2) : Calls Tryz.prog 56 #[.string t] w (WidAns t w) := by
  have hk : max 1 (0 : Int) = ((Lib.decodeN t.size c0 c1 c2 c3).2 : Int) := by
    unfold Lib.decodeN
    repeat' split
    all_goals first | rfl | (exfalso; omega)
  have H : ∀ W : World, WidAns t W (.returned (.int .i64 0)) W := fun W => WidAns.mk c0 c1 c2 c3 e0 e1 e2 e3 0 (by decide) (by decide) hk
  have HH := Lib.hid H
  have b0 := bt_eq t 0 (by omega)
  have f0 : bt t 0 = (c0 : Int) := by unfold bt; rw [e0]
  have p0 := bt_le t 0
  rw [f0] at b0 p0
  have b1 := bt_eq t 1 (by omega)
  have f1 : bt t 1 = (c1 : Int) := by unfold bt; rw [e1]
  have p1 := bt_le t 1
  rw [f1] at b1 p1
  have b2 := bt_eq t 2 (by omega)
  have f2 : bt t 2 = (c2 : Int) := by unfold bt; rw [e2]
  have p2 := bt_le t 2
  rw [f2] at b2 p2
  have a0 : bits .and .i64 (c0 : Int) 7 = (c0 : Int) % 8 := bits_mask .i64 63 (by decide) (fun n h0 h1 => by rw [IntKind.wrap_i64]; omega) 3 (by decide) _ (by omega) (by omega)
  have q1 : bits .and .u8 (c1 : Int) 192 = 128 := by rw [u8_hi c1 (by omega) p1]; omega
  have r1 := u8_lo6 c1 (by omega) p1
  have o1 : bits .or .i64 (((c0 : Int) % 8) * 64) ((c1 : Int) % 64) = ((c0 : Int) % 8) * 64 + (c1 : Int) % 64 := or6 _ _ (by omega) (by omega) (by omega) (by omega) (by omega)
  obtain ⟨x1, hx1⟩ : ∃ x, x = ((c0 : Int) % 8) * 64 + (c1 : Int) % 64 := ⟨_, rfl⟩
  rw [← hx1] at o1
  have l1 : 0 ≤ x1 := by omega
  have u1 : x1 ≤ 511 := by omega
  have q2 := u8_hi c2 (by omega) p2
  have z2 : ¬ (c2 : Int) / 64 * 64 = 128 := by omega
  clear H hk e0 e1 e2 e3 f0 f1 f2 hx1
  go_enter Tryz.func56, Tryz.ntmps56
  go_wp2
  refine wp_loop_rounds 2 ?_
  rw [rounds_succ]
  go_wp2
  rw [rounds_succ]
  go_wp2
  all_goals first | (exfalso; omega) | (go_ret; exact HH.out _)

set_option maxRecDepth 100000 in
set_option maxHeartbeats 1000000 in
theorem Width_4b3 (t : ByteArray) (c0 c1 c2 c3 : Nat) (e0 : (t.get! 0).toNat = c0) (e1 : (t.get! 1).toNat = c1) (e2 : (t.get! 2).toNat = c2) (e3 : (t.get! 3).toNat = c3) (w : World) (h : 4 ≤ t.size) (g : 240 ≤ c0) (g0 : c0 < 245) (k1 : c1 / 64 = 2) (k2 : c2 / 64 = 2) (k3 : ¬ c3 / 64 = 2) : Calls Tryz.prog 56 #[.string t] w (WidAns t w) := by
  have hk : max 1 (0 : Int) = ((Lib.decodeN t.size c0 c1 c2 c3).2 : Int) := by
    unfold Lib.decodeN
    repeat' split
    all_goals first | rfl | (exfalso; omega)
  have H : ∀ W : World, WidAns t W (.returned (.int .i64 0)) W := fun W => WidAns.mk c0 c1 c2 c3 e0 e1 e2 e3 0 (by decide) (by decide) hk
  have HH := Lib.hid H
  have b0 := bt_eq t 0 (by omega)
  have f0 : bt t 0 = (c0 : Int) := by unfold bt; rw [e0]
  have p0 := bt_le t 0
  rw [f0] at b0 p0
  have b1 := bt_eq t 1 (by omega)
  have f1 : bt t 1 = (c1 : Int) := by unfold bt; rw [e1]
  have p1 := bt_le t 1
  rw [f1] at b1 p1
  have b2 := bt_eq t 2 (by omega)
  have f2 : bt t 2 = (c2 : Int) := by unfold bt; rw [e2]
  have p2 := bt_le t 2
  rw [f2] at b2 p2
  have b3 := bt_eq t 3 (by omega)
  have f3 : bt t 3 = (c3 : Int) := by unfold bt; rw [e3]
  have p3 := bt_le t 3
  rw [f3] at b3 p3
  have a0 : bits .and .i64 (c0 : Int) 7 = (c0 : Int) % 8 := bits_mask .i64 63 (by decide) (fun n h0 h1 => by rw [IntKind.wrap_i64]; omega) 3 (by decide) _ (by omega) (by omega)
  have q1 : bits .and .u8 (c1 : Int) 192 = 128 := by rw [u8_hi c1 (by omega) p1]; omega
  have r1 := u8_lo6 c1 (by omega) p1
  have o1 : bits .or .i64 (((c0 : Int) % 8) * 64) ((c1 : Int) % 64) = ((c0 : Int) % 8) * 64 + (c1 : Int) % 64 := or6 _ _ (by omega) (by omega) (by omega) (by omega) (by omega)
  obtain ⟨x1, hx1⟩ : ∃ x, x = ((c0 : Int) % 8) * 64 + (c1 : Int) % 64 := ⟨_, rfl⟩
  rw [← hx1] at o1
  have l1 : 0 ≤ x1 := by omega
  have u1 : x1 ≤ 511 := by omega
  have q2 : bits .and .u8 (c2 : Int) 192 = 128 := by rw [u8_hi c2 (by omega) p2]; omega
  have r2 := u8_lo6 c2 (by omega) p2
  have o2 : bits .or .i64 (x1 * 64) ((c2 : Int) % 64) = x1 * 64 + (c2 : Int) % 64 := or6 _ _ (by omega) (by omega) (by omega) (by omega) (by omega)
  obtain ⟨x2, hx2⟩ : ∃ x, x = x1 * 64 + (c2 : Int) % 64 := ⟨_, rfl⟩
  rw [← hx2] at o2
  have l2 : 0 ≤ x2 := by omega
  have u2 : x2 ≤ 32767 := by omega
  have q3 := u8_hi c3 (by omega) p3
  have z3 : ¬ (c3 : Int) / 64 * 64 = 128 := by omega
  clear H hk e0 e1 e2 e3 f0 f1 f2 f3 hx1 hx2
  go_enter Tryz.func56, Tryz.ntmps56
  go_wp2
  refine wp_loop_rounds 3 ?_
  rw [rounds_succ]
  go_wp2
  rw [rounds_succ]
  go_wp2
  rw [rounds_succ]
  go_wp2
  all_goals first | (exfalso; omega) | (go_ret; exact HH.out _)

set_option maxRecDepth 100000 in
set_option maxHeartbeats 1000000 in
theorem Width_4l (t : ByteArray) (c0 c1 c2 c3 : Nat) (e0 : (t.get! 0).toNat = c0) (e1 : (t.get! 1).toNat = c1) (e2 : (t.get! 2).toNat = c2) (e3 : (t.get! 3).toNat = c3) (w : World) (h : 4 ≤ t.size) (g : 240 ≤ c0) (g0 : c0 < 245) (k1 : c1 / 64 = 2) (k2 : c2 / 64 = 2) (k3 : c3 / 64 = 2) (kv : c0 % 8 * 262144 + c1 % 64 * 4096 + c2 % 64 * 64 + c3 % 64 < 65536) : Calls Tryz.prog 56 #[.string t] w (WidAns t w) := by
  have hk : max 1 (0 : Int) = ((Lib.decodeN t.size c0 c1 c2 c3).2 : Int) := by
    unfold Lib.decodeN
    repeat' split
    all_goals first | rfl | (exfalso; omega)
  have H : ∀ W : World, WidAns t W (.returned (.int .i64 0)) W := fun W => WidAns.mk c0 c1 c2 c3 e0 e1 e2 e3 0 (by decide) (by decide) hk
  have HH := Lib.hid H
  have b0 := bt_eq t 0 (by omega)
  have f0 : bt t 0 = (c0 : Int) := by unfold bt; rw [e0]
  have p0 := bt_le t 0
  rw [f0] at b0 p0
  have b1 := bt_eq t 1 (by omega)
  have f1 : bt t 1 = (c1 : Int) := by unfold bt; rw [e1]
  have p1 := bt_le t 1
  rw [f1] at b1 p1
  have b2 := bt_eq t 2 (by omega)
  have f2 : bt t 2 = (c2 : Int) := by unfold bt; rw [e2]
  have p2 := bt_le t 2
  rw [f2] at b2 p2
  have b3 := bt_eq t 3 (by omega)
  have f3 : bt t 3 = (c3 : Int) := by unfold bt; rw [e3]
  have p3 := bt_le t 3
  rw [f3] at b3 p3
  have a0 : bits .and .i64 (c0 : Int) 7 = (c0 : Int) % 8 := bits_mask .i64 63 (by decide) (fun n h0 h1 => by rw [IntKind.wrap_i64]; omega) 3 (by decide) _ (by omega) (by omega)
  have q1 : bits .and .u8 (c1 : Int) 192 = 128 := by rw [u8_hi c1 (by omega) p1]; omega
  have r1 := u8_lo6 c1 (by omega) p1
  have o1 : bits .or .i64 (((c0 : Int) % 8) * 64) ((c1 : Int) % 64) = ((c0 : Int) % 8) * 64 + (c1 : Int) % 64 := or6 _ _ (by omega) (by omega) (by omega) (by omega) (by omega)
  obtain ⟨x1, hx1⟩ : ∃ x, x = ((c0 : Int) % 8) * 64 + (c1 : Int) % 64 := ⟨_, rfl⟩
  rw [← hx1] at o1
  have l1 : 0 ≤ x1 := by omega
  have u1 : x1 ≤ 511 := by omega
  have q2 : bits .and .u8 (c2 : Int) 192 = 128 := by rw [u8_hi c2 (by omega) p2]; omega
  have r2 := u8_lo6 c2 (by omega) p2
  have o2 : bits .or .i64 (x1 * 64) ((c2 : Int) % 64) = x1 * 64 + (c2 : Int) % 64 := or6 _ _ (by omega) (by omega) (by omega) (by omega) (by omega)
  obtain ⟨x2, hx2⟩ : ∃ x, x = x1 * 64 + (c2 : Int) % 64 := ⟨_, rfl⟩
  rw [← hx2] at o2
  have l2 : 0 ≤ x2 := by omega
  have u2 : x2 ≤ 32767 := by omega
  have q3 : bits .and .u8 (c3 : Int) 192 = 128 := by rw [u8_hi c3 (by omega) p3]; omega
  have r3 := u8_lo6 c3 (by omega) p3
  have o3 : bits .or .i64 (x2 * 64) ((c3 : Int) % 64) = x2 * 64 + (c3 : Int) % 64 := or6 _ _ (by omega) (by omega) (by omega) (by omega) (by omega)
  obtain ⟨x3, hx3⟩ : ∃ x, x = x2 * 64 + (c3 : Int) % 64 := ⟨_, rfl⟩
  rw [← hx3] at o3
  have l3 : 0 ≤ x3 := by omega
  have u3 : x3 ≤ 2097151 := by omega
  have t1 : x3 < 65536 := by omega
  clear H hk e0 e1 e2 e3 f0 f1 f2 f3 hx1 hx2 hx3
  go_enter Tryz.func56, Tryz.ntmps56
  go_wp2
  refine wp_loop_rounds 4 ?_
  rw [rounds_succ]
  go_wp2
  rw [rounds_succ]
  go_wp2
  rw [rounds_succ]
  go_wp2
  rw [rounds_succ]
  go_wp2
  all_goals first | (exfalso; omega) | (go_ret; exact HH.out _)

set_option maxRecDepth 100000 in
set_option maxHeartbeats 1000000 in
theorem Width_4g (t : ByteArray) (c0 c1 c2 c3 : Nat) (e0 : (t.get! 0).toNat = c0) (e1 : (t.get! 1).toNat = c1) (e2 : (t.get! 2).toNat = c2) (e3 : (t.get! 3).toNat = c3) (w : World) (h : 4 ≤ t.size) (g : 240 ≤ c0) (g0 : c0 < 245) (k1 : c1 / 64 = 2) (k2 : c2 / 64 = 2) (k3 : c3 / 64 = 2) (kv : 1114111 < c0 % 8 * 262144 + c1 % 64 * 4096 + c2 % 64 * 64 + c3 % 64) : Calls Tryz.prog 56 #[.string t] w (WidAns t w) := by
  have hk : max 1 (0 : Int) = ((Lib.decodeN t.size c0 c1 c2 c3).2 : Int) := by
    unfold Lib.decodeN
    repeat' split
    all_goals first | rfl | (exfalso; omega)
  have H : ∀ W : World, WidAns t W (.returned (.int .i64 0)) W := fun W => WidAns.mk c0 c1 c2 c3 e0 e1 e2 e3 0 (by decide) (by decide) hk
  have HH := Lib.hid H
  have b0 := bt_eq t 0 (by omega)
  have f0 : bt t 0 = (c0 : Int) := by unfold bt; rw [e0]
  have p0 := bt_le t 0
  rw [f0] at b0 p0
  have b1 := bt_eq t 1 (by omega)
  have f1 : bt t 1 = (c1 : Int) := by unfold bt; rw [e1]
  have p1 := bt_le t 1
  rw [f1] at b1 p1
  have b2 := bt_eq t 2 (by omega)
  have f2 : bt t 2 = (c2 : Int) := by unfold bt; rw [e2]
  have p2 := bt_le t 2
  rw [f2] at b2 p2
  have b3 := bt_eq t 3 (by omega)
  have f3 : bt t 3 = (c3 : Int) := by unfold bt; rw [e3]
  have p3 := bt_le t 3
  rw [f3] at b3 p3
  have a0 : bits .and .i64 (c0 : Int) 7 = (c0 : Int) % 8 := bits_mask .i64 63 (by decide) (fun n h0 h1 => by rw [IntKind.wrap_i64]; omega) 3 (by decide) _ (by omega) (by omega)
  have q1 : bits .and .u8 (c1 : Int) 192 = 128 := by rw [u8_hi c1 (by omega) p1]; omega
  have r1 := u8_lo6 c1 (by omega) p1
  have o1 : bits .or .i64 (((c0 : Int) % 8) * 64) ((c1 : Int) % 64) = ((c0 : Int) % 8) * 64 + (c1 : Int) % 64 := or6 _ _ (by omega) (by omega) (by omega) (by omega) (by omega)
  obtain ⟨x1, hx1⟩ : ∃ x, x = ((c0 : Int) % 8) * 64 + (c1 : Int) % 64 := ⟨_, rfl⟩
  rw [← hx1] at o1
  have l1 : 0 ≤ x1 := by omega
  have u1 : x1 ≤ 511 := by omega
  have q2 : bits .and .u8 (c2 : Int) 192 = 128 := by rw [u8_hi c2 (by omega) p2]; omega
  have r2 := u8_lo6 c2 (by omega) p2
  have o2 : bits .or .i64 (x1 * 64) ((c2 : Int) % 64) = x1 * 64 + (c2 : Int) % 64 := or6 _ _ (by omega) (by omega) (by omega) (by omega) (by omega)
  obtain ⟨x2, hx2⟩ : ∃ x, x = x1 * 64 + (c2 : Int) % 64 := ⟨_, rfl⟩
  rw [← hx2] at o2
  have l2 : 0 ≤ x2 := by omega
  have u2 : x2 ≤ 32767 := by omega
  have q3 : bits .and .u8 (c3 : Int) 192 = 128 := by rw [u8_hi c3 (by omega) p3]; omega
  have r3 := u8_lo6 c3 (by omega) p3
  have o3 : bits .or .i64 (x2 * 64) ((c3 : Int) % 64) = x2 * 64 + (c3 : Int) % 64 := or6 _ _ (by omega) (by omega) (by omega) (by omega) (by omega)
  obtain ⟨x3, hx3⟩ : ∃ x, x = x2 * 64 + (c3 : Int) % 64 := ⟨_, rfl⟩
  rw [← hx3] at o3
  have l3 : 0 ≤ x3 := by omega
  have u3 : x3 ≤ 2097151 := by omega
  have t1 : ¬ x3 < 65536 := by omega
  have t2 : 1114111 < x3 := by omega
  clear H hk e0 e1 e2 e3 f0 f1 f2 f3 hx1 hx2 hx3
  go_enter Tryz.func56, Tryz.ntmps56
  go_wp2
  refine wp_loop_rounds 4 ?_
  rw [rounds_succ]
  go_wp2
  rw [rounds_succ]
  go_wp2
  rw [rounds_succ]
  go_wp2
  rw [rounds_succ]
  go_wp2
  all_goals first | (exfalso; omega) | (go_ret; exact HH.out _)

set_option maxRecDepth 100000 in
set_option maxHeartbeats 1000000 in
theorem Width_4y (t : ByteArray) (c0 c1 c2 c3 : Nat) (e0 : (t.get! 0).toNat = c0) (e1 : (t.get! 1).toNat = c1) (e2 : (t.get! 2).toNat = c2) (e3 : (t.get! 3).toNat = c3) (w : World) (h : 4 ≤ t.size) (g : 240 ≤ c0) (g0 : c0 < 245) (k1 : c1 / 64 = 2) (k2 : c2 / 64 = 2) (k3 : c3 / 64 = 2) (kv : 65536 ≤ c0 % 8 * 262144 + c1 % 64 * 4096 + c2 % 64 * 64 + c3 % 64) (kv2 : c0 % 8 * 262144 + c1 % 64 * 4096 + c2 % 64 * 64 + c3 % 64 ≤ 1114111) (kv3 : c0 % 8 * 262144 + c1 % 64 * 4096 + c2 % 64 * 64 + c3 % 64 < 55296 ∨ 57344 ≤ c0 % 8 * 262144 + c1 % 64 * 4096 + c2 % 64 * 64 + c3 % 64) : Calls Tryz.prog 56 #[.string t] w (WidAns t w) := by
  have hk : max 1 (4 : Int) = ((Lib.decodeN t.size c0 c1 c2 c3).2 : Int) := by
    unfold Lib.decodeN
    repeat' split
    all_goals first | rfl | (exfalso; omega)
  have H : ∀ W : World, WidAns t W (.returned (.int .i64 4)) W := fun W => WidAns.mk c0 c1 c2 c3 e0 e1 e2 e3 4 (by decide) (by decide) hk
  have HH := Lib.hid H
  have b0 := bt_eq t 0 (by omega)
  have f0 : bt t 0 = (c0 : Int) := by unfold bt; rw [e0]
  have p0 := bt_le t 0
  rw [f0] at b0 p0
  have b1 := bt_eq t 1 (by omega)
  have f1 : bt t 1 = (c1 : Int) := by unfold bt; rw [e1]
  have p1 := bt_le t 1
  rw [f1] at b1 p1
  have b2 := bt_eq t 2 (by omega)
  have f2 : bt t 2 = (c2 : Int) := by unfold bt; rw [e2]
  have p2 := bt_le t 2
  rw [f2] at b2 p2
  have b3 := bt_eq t 3 (by omega)
  have f3 : bt t 3 = (c3 : Int) := by unfold bt; rw [e3]
  have p3 := bt_le t 3
  rw [f3] at b3 p3
  have a0 : bits .and .i64 (c0 : Int) 7 = (c0 : Int) % 8 := bits_mask .i64 63 (by decide) (fun n h0 h1 => by rw [IntKind.wrap_i64]; omega) 3 (by decide) _ (by omega) (by omega)
  have q1 : bits .and .u8 (c1 : Int) 192 = 128 := by rw [u8_hi c1 (by omega) p1]; omega
  have r1 := u8_lo6 c1 (by omega) p1
  have o1 : bits .or .i64 (((c0 : Int) % 8) * 64) ((c1 : Int) % 64) = ((c0 : Int) % 8) * 64 + (c1 : Int) % 64 := or6 _ _ (by omega) (by omega) (by omega) (by omega) (by omega)
  obtain ⟨x1, hx1⟩ : ∃ x, x = ((c0 : Int) % 8) * 64 + (c1 : Int) % 64 := ⟨_, rfl⟩
  rw [← hx1] at o1
  have l1 : 0 ≤ x1 := by omega
  have u1 : x1 ≤ 511 := by omega
  have q2 : bits .and .u8 (c2 : Int) 192 = 128 := by rw [u8_hi c2 (by omega) p2]; omega
  have r2 := u8_lo6 c2 (by omega) p2
  have o2 : bits .or .i64 (x1 * 64) ((c2 : Int) % 64) = x1 * 64 + (c2 : Int) % 64 := or6 _ _ (by omega) (by omega) (by omega) (by omega) (by omega)
  obtain ⟨x2, hx2⟩ : ∃ x, x = x1 * 64 + (c2 : Int) % 64 := ⟨_, rfl⟩
  rw [← hx2] at o2
  have l2 : 0 ≤ x2 := by omega
  have u2 : x2 ≤ 32767 := by omega
  have q3 : bits .and .u8 (c3 : Int) 192 = 128 := by rw [u8_hi c3 (by omega) p3]; omega
  have r3 := u8_lo6 c3 (by omega) p3
  have o3 : bits .or .i64 (x2 * 64) ((c3 : Int) % 64) = x2 * 64 + (c3 : Int) % 64 := or6 _ _ (by omega) (by omega) (by omega) (by omega) (by omega)
  obtain ⟨x3, hx3⟩ : ∃ x, x = x2 * 64 + (c3 : Int) % 64 := ⟨_, rfl⟩
  rw [← hx3] at o3
  have l3 : 0 ≤ x3 := by omega
  have u3 : x3 ≤ 2097151 := by omega
  have t1 : ¬ x3 < 65536 := by omega
  have t2 : ¬ 1114111 < x3 := by omega
  have t3 : x3 < 55296 ∨ 57344 ≤ x3 := by omega
  clear H hk e0 e1 e2 e3 f0 f1 f2 f3 hx1 hx2 hx3
  go_enter Tryz.func56, Tryz.ntmps56
  go_wp2
  refine wp_loop_rounds 4 ?_
  rw [rounds_succ]
  go_wp2
  rw [rounds_succ]
  go_wp2
  rw [rounds_succ]
  go_wp2
  rw [rounds_succ]
  go_wp2
  all_goals first | (exfalso; omega) | (go_ret; exact HH.out _)

theorem Width_any (t : ByteArray) (h : 0 < t.size) (w : World) : Calls Tryz.prog 56 #[.string t] w (WidAns t w) := by
  obtain ⟨c0, e0⟩ : ∃ c, (t.get! 0).toNat = c := ⟨_, rfl⟩
  obtain ⟨c1, e1⟩ : ∃ c, (t.get! 1).toNat = c := ⟨_, rfl⟩
  obtain ⟨c2, e2⟩ : ∃ c, (t.get! 2).toNat = c := ⟨_, rfl⟩
  obtain ⟨c3, e3⟩ : ∃ c, (t.get! 3).toNat = c := ⟨_, rfl⟩
  by_cases g : c0 < 128
  · exact Width_a t c0 c1 c2 c3 e0 e1 e2 e3 w h g
  by_cases g1 : c0 < 194 ∨ 245 ≤ c0
  · exact Width_b t c0 c1 c2 c3 e0 e1 e2 e3 w h (by omega) g1
  by_cases g2 : c0 < 224
  · by_cases hs : t.size < 2
    · exact Width_2s t c0 c1 c2 c3 e0 e1 e2 e3 w h hs (by omega) (by omega)
    by_cases k1 : c1 / 64 = 2
    rotate_left
    · exact Width_2b1 t c0 c1 c2 c3 e0 e1 e2 e3 w (by omega) (by omega) (by omega) k1
    exact Width_2y t c0 c1 c2 c3 e0 e1 e2 e3 w (by omega) (by omega) (by omega) k1 (by omega) (by omega) (by omega)
  by_cases g3 : c0 < 240
  · by_cases hs : t.size < 3
    · exact Width_3s t c0 c1 c2 c3 e0 e1 e2 e3 w h hs (by omega) (by omega)
    by_cases k1 : c1 / 64 = 2
    rotate_left
    · exact Width_3b1 t c0 c1 c2 c3 e0 e1 e2 e3 w (by omega) (by omega) (by omega) k1
    by_cases k2 : c2 / 64 = 2
    rotate_left
    · exact Width_3b2 t c0 c1 c2 c3 e0 e1 e2 e3 w (by omega) (by omega) (by omega) k1 k2
    by_cases v1 : c0 % 16 * 4096 + c1 % 64 * 64 + c2 % 64 < 2048
    · exact Width_3l t c0 c1 c2 c3 e0 e1 e2 e3 w (by omega) (by omega) (by omega) k1 k2 v1
    by_cases v3 : 55296 ≤ c0 % 16 * 4096 + c1 % 64 * 64 + c2 % 64 ∧ c0 % 16 * 4096 + c1 % 64 * 64 + c2 % 64 < 57344
    · exact Width_3s' t c0 c1 c2 c3 e0 e1 e2 e3 w (by omega) (by omega) (by omega) k1 k2 v3.1 v3.2
    exact Width_3y t c0 c1 c2 c3 e0 e1 e2 e3 w (by omega) (by omega) (by omega) k1 k2 (by omega) (by omega) (by omega)
  by_cases g4 : c0 < 245
  · by_cases hs : t.size < 4
    · exact Width_4s t c0 c1 c2 c3 e0 e1 e2 e3 w h hs (by omega) (by omega)
    by_cases k1 : c1 / 64 = 2
    rotate_left
    · exact Width_4b1 t c0 c1 c2 c3 e0 e1 e2 e3 w (by omega) (by omega) (by omega) k1
    by_cases k2 : c2 / 64 = 2
    rotate_left
    · exact Width_4b2 t c0 c1 c2 c3 e0 e1 e2 e3 w (by omega) (by omega) (by omega) k1 k2
    by_cases k3 : c3 / 64 = 2
    rotate_left
    · exact Width_4b3 t c0 c1 c2 c3 e0 e1 e2 e3 w (by omega) (by omega) (by omega) k1 k2 k3
    by_cases v1 : c0 % 8 * 262144 + c1 % 64 * 4096 + c2 % 64 * 64 + c3 % 64 < 65536
    · exact Width_4l t c0 c1 c2 c3 e0 e1 e2 e3 w (by omega) (by omega) (by omega) k1 k2 k3 v1
    by_cases v2 : 1114111 < c0 % 8 * 262144 + c1 % 64 * 4096 + c2 % 64 * 64 + c3 % 64
    · exact Width_4g t c0 c1 c2 c3 e0 e1 e2 e3 w (by omega) (by omega) (by omega) k1 k2 k3 v2
    exact Width_4y t c0 c1 c2 c3 e0 e1 e2 e3 w (by omega) (by omega) (by omega) k1 k2 k3 (by omega) (by omega) (by omega)
  omega

end Go.Proofs.YtcbliojofnigdaaGreatDoor
