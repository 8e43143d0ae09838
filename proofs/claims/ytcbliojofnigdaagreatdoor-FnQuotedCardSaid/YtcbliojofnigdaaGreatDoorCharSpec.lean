/- spec.Scalar and spec.Encoded. -/
import Derived.Test.YtcbliojofnigdaaGreatDoorIntSetup
import Derived.Test.YtcbliojofnigdaaGreatDoorCharW
namespace Go.Proofs.YtcbliojofnigdaaGreatDoor
open Go Go.Proofs Go.RowKit

set_option maxRecDepth 100000 in
set_option maxHeartbeats 400000 in
theorem Scalar_yes (u : Int) (h : u < 55296 ∨ 57343 < u ∧ u ≤ 1114111) (w : World) : Calls Tryz.prog 24 #[.int .u64 u] w fun e w' => e = .returned (.bool true) ∧ Only none w w' := by
  rcases h with h | ⟨h1, h2⟩
  · go_enter Tryz.func24, Tryz.ntmps24
    go_wp2 <;> first | (exfalso; omega) | (go_ret; exact ⟨rfl, Only.refl _ _⟩)
  · go_enter Tryz.func24, Tryz.ntmps24
    go_wp2 <;> first | (exfalso; omega) | (go_ret; exact ⟨rfl, Only.refl _ _⟩)
set_option maxRecDepth 100000 in
set_option maxHeartbeats 400000 in
theorem Scalar_no (u : Int) (h : ¬ (u < 55296 ∨ 57343 < u ∧ u ≤ 1114111)) (w : World) : Calls Tryz.prog 24 #[.int .u64 u] w fun e w' => e = .returned (.bool false) ∧ Only none w w' := by
  rcases (by omega : (55296 ≤ u ∧ u ≤ 57343) ∨ (57343 < u ∧ 1114111 < u)) with ⟨h1, h2⟩ | ⟨h1, h2⟩ <;> clear h
  all_goals go_enter Tryz.func24, Tryz.ntmps24
  all_goals go_wp2 <;> first | (exfalso; omega) | (go_ret; exact ⟨rfl, Only.refl _ _⟩) | (go_ret; exact ⟨by show Ending.returned (Value.bool (decide (u ≤ 1114111))) = _; rw [decide_eq_false (by omega)], Only.refl _ _⟩)

theorem and63 (x : Int) (h0 : 0 ≤ x) (h1 : x ≤ 1114111) : bits .and .i64 x 63 = x % 64 :=
  bits_mask .i64 63 (by decide) (fun n h0 h1 => by rw [IntKind.wrap_i64]; omega) 6 (by decide) _ (by omega) (by omega)
theorem or128 (y : Int) (h0 : 0 ≤ y) (h1 : y < 64) : bits .or .i64 128 y = 128 + y := by
  obtain ⟨n, rfl⟩ := Int.eq_ofNat_of_zero_le h0
  exact (by decide : ∀ m : Fin 64, bits .or .i64 128 (m.val : Int) = 128 + (m.val : Int)) ⟨n, by omega⟩
theorem or192 (y : Int) (h0 : 0 ≤ y) (h1 : y < 32) : bits .or .i64 192 y = 192 + y := by
  obtain ⟨n, rfl⟩ := Int.eq_ofNat_of_zero_le h0
  exact (by decide : ∀ m : Fin 32, bits .or .i64 192 (m.val : Int) = 192 + (m.val : Int)) ⟨n, by omega⟩
theorem or224 (y : Int) (h0 : 0 ≤ y) (h1 : y < 16) : bits .or .i64 224 y = 224 + y := by
  obtain ⟨n, rfl⟩ := Int.eq_ofNat_of_zero_le h0
  exact (by decide : ∀ m : Fin 16, bits .or .i64 224 (m.val : Int) = 224 + (m.val : Int)) ⟨n, by omega⟩
theorem or240 (y : Int) (h0 : 0 ≤ y) (h1 : y < 8) : bits .or .i64 240 y = 240 + y := by
  obtain ⟨n, rfl⟩ := Int.eq_ofNat_of_zero_le h0
  exact (by decide : ∀ m : Fin 8, bits .or .i64 240 (m.val : Int) = 240 + (m.val : Int)) ⟨n, by omega⟩

/-- the text of some bytes just laid -/
theorem kcBytes (l : List Int) (hl : ∀ x ∈ l, 0 ≤ x ∧ x < 256) (w : World) (k : Nat) (hk : k = l.length) : (convert 26 9 (.slice (some ⟨w.heap.size, 0, none⟩) k k)).run Tryz.prog (w.alloc (.cells (l.map fun x => .int .u8 x).toArray 5)) = .ok (.string ⟨(l.map B).toArray⟩) (w.alloc (.cells (l.map fun x => .int .u8 x).toArray 5)) := by
  have := run_convert_bytes_back (w.alloc (.cells (l.map fun x => .int .u8 x).toArray 5)) 26 9 5 ⟨w.heap.size, 0, none⟩ k (l.map B) Tryz.underlying26 Tryz.underlying5 Tryz.underlying9 ?_
  · rw [List.length_map, ← hk] at this; exact this
  · intro j hj
    rw [List.length_map] at hj
    rw [Addr.add_lit, World.cell?_alloc_new]
    show (l.map fun x => Value.int .u8 x).toArray[0 + j]? = _
    simp only [List.getElem?_toArray, Nat.zero_add, List.getElem?_map, List.getElem_map, List.getElem?_eq_getElem hj, Option.map_some]
    have := hl _ (List.getElem_mem hj)
    exact congrArg some (u8_B this.1 (by omega)).symm

set_option maxRecDepth 100000 in
set_option maxHeartbeats 1000000 in
theorem Encoded_one (r : Int) (h0 : 0 ≤ r) (h1 : r ≤ 127) (w : World) : Calls Tryz.prog 25 #[.int .i64 r] w fun e w' => e = .returned (.string ⟨(encB r).toArray⟩) ∧ Only none w w' := by
  have he : encB r = ([r] : List Int).map B := congrArg (List.map B) (Lib.encodeRuneZ_one h0 h1)
  rw [he]
  have kc : (convert 26 9 (.slice (some ⟨w.heap.size, 0, none⟩) 1 1)).run Tryz.prog (w.alloc (.cells #[.int .u8 (r)] 5)) = .ok (.string ⟨(([r] : List Int).map B).toArray⟩) (w.alloc (.cells #[.int .u8 (r)] 5)) := kcBytes [r] (by intro x hx; simp at hx; omega) w 1 rfl
  obtain ⟨S, hS⟩ : ∃ S : ByteArray, S = ⟨(([r] : List Int).map B).toArray⟩ := ⟨_, rfl⟩
  rw [← hS] at kc ⊢
  clear hS he
  have q0 : r % 256 = r := by omega
  go_enter Tryz.func25, Tryz.ntmps25
  go_wp2
  all_goals go_ret
  all_goals exact ⟨rfl, (Only.refl _ _).alloc _⟩

set_option maxRecDepth 100000 in
set_option maxHeartbeats 1000000 in
theorem Encoded_two (r : Int) (h0 : 128 ≤ r) (h1 : r ≤ 2047) (w : World) : Calls Tryz.prog 25 #[.int .i64 r] w fun e w' => e = .returned (.string ⟨(encB r).toArray⟩) ∧ Only none w w' := by
  have he : encB r = ([192 + r / 64, 128 + r % 64] : List Int).map B := congrArg (List.map B) (Lib.encodeRuneZ_two h0 h1)
  rw [he]
  have kc : (convert 26 9 (.slice (some ⟨w.heap.size, 0, none⟩) 2 2)).run Tryz.prog (w.alloc (.cells #[.int .u8 (192 + r / 64), .int .u8 (128 + r % 64)] 5)) = .ok (.string ⟨(([192 + r / 64, 128 + r % 64] : List Int).map B).toArray⟩) (w.alloc (.cells #[.int .u8 (192 + r / 64), .int .u8 (128 + r % 64)] 5)) := kcBytes [192 + r / 64, 128 + r % 64] (by intro x hx; simp at hx; omega) w 2 rfl
  obtain ⟨S, hS⟩ : ∃ S : ByteArray, S = ⟨(([192 + r / 64, 128 + r % 64] : List Int).map B).toArray⟩ := ⟨_, rfl⟩
  rw [← hS] at kc ⊢
  clear hS he
  have q0 : bits .and .i64 r 63 = r % 64 := and63 r (by omega) (by omega)
  have q1 : bits .or .i64 128 (r % 64) = 128 + r % 64 := or128 _ (by omega) (by omega)
  have q2 : bits .or .i64 192 (r / 64) = 192 + r / 64 := or192 _ (by omega) (by omega)
  have q3 : (192 + r / 64) % 256 = 192 + r / 64 := by omega
  have q4 : (128 + r % 64) % 256 = 128 + r % 64 := by omega
  go_enter Tryz.func25, Tryz.ntmps25
  go_wp2
  all_goals go_ret
  all_goals exact ⟨rfl, (Only.refl _ _).alloc _⟩

set_option maxRecDepth 100000 in
set_option maxHeartbeats 1000000 in
theorem Encoded_three (r : Int) (h : (2048 ≤ r ∧ r < 55296) ∨ (57343 < r ∧ r ≤ 65535)) (h0 : 2048 ≤ r) (h1 : r ≤ 65535) (w : World) : Calls Tryz.prog 25 #[.int .i64 r] w fun e w' => e = .returned (.string ⟨(encB r).toArray⟩) ∧ Only none w w' := by
  have he : encB r = ([224 + r / 4096, 128 + r / 64 % 64, 128 + r % 64] : List Int).map B := congrArg (List.map B) (Lib.encodeRuneZ_three h)
  rw [he]
  have kc : (convert 26 9 (.slice (some ⟨w.heap.size, 0, none⟩) 3 3)).run Tryz.prog (w.alloc (.cells #[.int .u8 (224 + r / 4096), .int .u8 (128 + r / 64 % 64), .int .u8 (128 + r % 64)] 5)) = .ok (.string ⟨(([224 + r / 4096, 128 + r / 64 % 64, 128 + r % 64] : List Int).map B).toArray⟩) (w.alloc (.cells #[.int .u8 (224 + r / 4096), .int .u8 (128 + r / 64 % 64), .int .u8 (128 + r % 64)] 5)) := kcBytes [224 + r / 4096, 128 + r / 64 % 64, 128 + r % 64] (by intro x hx; simp at hx; omega) w 3 rfl
  obtain ⟨S, hS⟩ : ∃ S : ByteArray, S = ⟨(([224 + r / 4096, 128 + r / 64 % 64, 128 + r % 64] : List Int).map B).toArray⟩ := ⟨_, rfl⟩
  rw [← hS] at kc ⊢
  clear hS he h
  have q0 : bits .and .i64 r 63 = r % 64 := and63 r (by omega) (by omega)
  have q1 : bits .and .i64 (r / 64) 63 = r / 64 % 64 := and63 _ (by omega) (by omega)
  have q2 : bits .or .i64 128 (r % 64) = 128 + r % 64 := or128 _ (by omega) (by omega)
  have q3 : bits .or .i64 128 (r / 64 % 64) = 128 + r / 64 % 64 := or128 _ (by omega) (by omega)
  have q4 : bits .or .i64 224 (r / 4096) = 224 + r / 4096 := or224 _ (by omega) (by omega)
  have q5 : (224 + r / 4096) % 256 = 224 + r / 4096 := by omega
  have q6 : (128 + r / 64 % 64) % 256 = 128 + r / 64 % 64 := by omega
  have q7 : (128 + r % 64) % 256 = 128 + r % 64 := by omega
  go_enter Tryz.func25, Tryz.ntmps25
  go_wp2
  all_goals go_ret
  all_goals exact ⟨rfl, (Only.refl _ _).alloc _⟩

set_option maxRecDepth 100000 in
set_option maxHeartbeats 1000000 in
theorem Encoded_four (r : Int) (h0 : 65536 ≤ r) (h1 : r ≤ 1114111) (w : World) : Calls Tryz.prog 25 #[.int .i64 r] w fun e w' => e = .returned (.string ⟨(encB r).toArray⟩) ∧ Only none w w' := by
  have he : encB r = ([240 + r / 262144, 128 + r / 4096 % 64, 128 + r / 64 % 64, 128 + r % 64] : List Int).map B := congrArg (List.map B) (Lib.encodeRuneZ_four h0 h1)
  rw [he]
  have kc : (convert 26 9 (.slice (some ⟨w.heap.size, 0, none⟩) 4 4)).run Tryz.prog (w.alloc (.cells #[.int .u8 (240 + r / 262144), .int .u8 (128 + r / 4096 % 64), .int .u8 (128 + r / 64 % 64), .int .u8 (128 + r % 64)] 5)) = .ok (.string ⟨(([240 + r / 262144, 128 + r / 4096 % 64, 128 + r / 64 % 64, 128 + r % 64] : List Int).map B).toArray⟩) (w.alloc (.cells #[.int .u8 (240 + r / 262144), .int .u8 (128 + r / 4096 % 64), .int .u8 (128 + r / 64 % 64), .int .u8 (128 + r % 64)] 5)) := kcBytes [240 + r / 262144, 128 + r / 4096 % 64, 128 + r / 64 % 64, 128 + r % 64] (by intro x hx; simp at hx; omega) w 4 rfl
  obtain ⟨S, hS⟩ : ∃ S : ByteArray, S = ⟨(([240 + r / 262144, 128 + r / 4096 % 64, 128 + r / 64 % 64, 128 + r % 64] : List Int).map B).toArray⟩ := ⟨_, rfl⟩
  rw [← hS] at kc ⊢
  clear hS he
  have q0 : bits .and .i64 r 63 = r % 64 := and63 r (by omega) (by omega)
  have q1 : bits .and .i64 (r / 64) 63 = r / 64 % 64 := and63 _ (by omega) (by omega)
  have q2 : bits .and .i64 (r / 4096) 63 = r / 4096 % 64 := and63 _ (by omega) (by omega)
  have q3 : bits .or .i64 128 (r % 64) = 128 + r % 64 := or128 _ (by omega) (by omega)
  have q4 : bits .or .i64 128 (r / 64 % 64) = 128 + r / 64 % 64 := or128 _ (by omega) (by omega)
  have q5 : bits .or .i64 128 (r / 4096 % 64) = 128 + r / 4096 % 64 := or128 _ (by omega) (by omega)
  have q6 : bits .or .i64 240 (r / 262144) = 240 + r / 262144 := or240 _ (by omega) (by omega)
  have q7 : (240 + r / 262144) % 256 = 240 + r / 262144 := by omega
  have q8 : (128 + r / 4096 % 64) % 256 = 128 + r / 4096 % 64 := by omega
  have q9 : (128 + r / 64 % 64) % 256 = 128 + r / 64 % 64 := by omega
  have q10 : (128 + r % 64) % 256 = 128 + r % 64 := by omega
  go_enter Tryz.func25, Tryz.ntmps25
  go_wp2
  all_goals go_ret
  all_goals exact ⟨rfl, (Only.refl _ _).alloc _⟩

theorem Encoded_any (r : Int) (h0 : 0 ≤ r) (h : r < 55296 ∨ 57343 < r ∧ r ≤ 1114111) (w : World) : Calls Tryz.prog 25 #[.int .i64 r] w fun e w' => e = .returned (.string ⟨(encB r).toArray⟩) ∧ Only none w w' := by
  by_cases h1 : r ≤ 127
  · exact Encoded_one r h0 h1 w
  · by_cases h2 : r ≤ 2047
    · exact Encoded_two r (by omega) h2 w
    · by_cases h3 : r ≤ 65535
      · exact Encoded_three r (by omega) (by omega) h3 w
      · exact Encoded_four r (by omega) (by omega) w

end Go.Proofs.YtcbliojofnigdaaGreatDoor
