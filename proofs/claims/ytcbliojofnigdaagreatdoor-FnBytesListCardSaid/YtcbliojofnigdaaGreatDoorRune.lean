/- unicode/utf8.AppendRune onto any slice of bytes: every int32. -/
import Derived.Test.YtcbliojofnigdaaGreatDoorState
import Derived.Lib.RuneBytes
namespace Go.Proofs.YtcbliojofnigdaaGreatDoor
open Go Go.Proofs

/-- a rune's bytes -/
def encB (r : Int) : Bytes := (Lib.encodeRuneZ r).map B

/-- bytes have been appended to v -/
def Apd (W : World) (V : Value) (xs : Bytes) (e : Ending) (w' : World) : Prop := ∃ v', e = .returned v' ∧ App W V w' v' xs

set_option maxRecDepth 100000 in
set_option maxHeartbeats 1000000 in
theorem runeNA_two {W w : World} {V v : Value} {xs : Bytes} (hb : App W V w v xs) (r : Int) (h0 : 128 ≤ r) (h1 : r ≤ 2047) (hl : Room (xs.length + 2)) :
    Calls Tryz.prog 134 #[v, .int .i32 r] w (Apd W V (xs ++ ([192 + r / 64, 128 + r % 64] : List Int).map B)) := by
  have hcs : ∀ x ∈ ([192 + r / 64, 128 + r % 64] : List Int), 0 ≤ x ∧ x ≤ 255 := by intro x hx; simp at hx; omega
  have HC := Lib.hid hcs
  clear hcs
  go_enter Tryz.func134, Tryz.ntmps134
  go_wp2_with (at_builtin; refine wpList_app_lit rfl _ _ 26 rfl 5 byte5 Tryz.underlying26 v xs rfl [192 + r / 64, 128 + r % 64] 2 rfl rfl W V hb 5 _ rfl HC.out hl ?_)
  all_goals
    intro v' w' k
    clear hb
    go_wp2
    go_ret
    exact ⟨_, rfl, k⟩

set_option maxRecDepth 100000 in
set_option maxHeartbeats 1000000 in
theorem runeNA_three_lo {W w : World} {V v : Value} {xs : Bytes} (hb : App W V w v xs) (r : Int) (h0 : 2048 ≤ r) (h1 : r < 55296) (hl : Room (xs.length + 3)) :
    Calls Tryz.prog 134 #[v, .int .i32 r] w (Apd W V (xs ++ ([224 + r / 4096, 128 + r / 64 % 64, 128 + r % 64] : List Int).map B)) := by
  have hcs : ∀ x ∈ ([224 + r / 4096, 128 + r / 64 % 64, 128 + r % 64] : List Int), 0 ≤ x ∧ x ≤ 255 := by intro x hx; simp at hx; omega
  have HC := Lib.hid hcs
  clear hcs
  go_enter Tryz.func134, Tryz.ntmps134
  go_wp2_with (at_builtin; refine wpList_app_lit rfl _ _ 26 rfl 5 byte5 Tryz.underlying26 v xs rfl [224 + r / 4096, 128 + r / 64 % 64, 128 + r % 64] 3 rfl rfl W V hb 5 _ rfl HC.out hl ?_)
  all_goals
    intro v' w' k
    clear hb
    go_wp2
    go_ret
    exact ⟨_, rfl, k⟩

set_option maxRecDepth 100000 in
set_option maxHeartbeats 1000000 in
theorem runeNA_three_hi {W w : World} {V v : Value} {xs : Bytes} (hb : App W V w v xs) (r : Int) (h0 : 57343 < r) (h1 : r ≤ 65535) (hl : Room (xs.length + 3)) :
    Calls Tryz.prog 134 #[v, .int .i32 r] w (Apd W V (xs ++ ([224 + r / 4096, 128 + r / 64 % 64, 128 + r % 64] : List Int).map B)) := by
  have hcs : ∀ x ∈ ([224 + r / 4096, 128 + r / 64 % 64, 128 + r % 64] : List Int), 0 ≤ x ∧ x ≤ 255 := by intro x hx; simp at hx; omega
  have HC := Lib.hid hcs
  clear hcs
  go_enter Tryz.func134, Tryz.ntmps134
  go_wp2_with (at_builtin; refine wpList_app_lit rfl _ _ 26 rfl 5 byte5 Tryz.underlying26 v xs rfl [224 + r / 4096, 128 + r / 64 % 64, 128 + r % 64] 3 rfl rfl W V hb 5 _ rfl HC.out hl ?_)
  all_goals
    intro v' w' k
    clear hb
    go_wp2
    go_ret
    exact ⟨_, rfl, k⟩

set_option maxRecDepth 100000 in
set_option maxHeartbeats 1000000 in
theorem runeNA_four {W w : World} {V v : Value} {xs : Bytes} (hb : App W V w v xs) (r : Int) (h0 : 65536 ≤ r) (h1 : r ≤ 1114111) (hl : Room (xs.length + 4)) :
    Calls Tryz.prog 134 #[v, .int .i32 r] w (Apd W V (xs ++ ([240 + r / 262144, 128 + r / 4096 % 64, 128 + r / 64 % 64, 128 + r % 64] : List Int).map B)) := by
  have hcs : ∀ x ∈ ([240 + r / 262144, 128 + r / 4096 % 64, 128 + r / 64 % 64, 128 + r % 64] : List Int), 0 ≤ x ∧ x ≤ 255 := by intro x hx; simp at hx; omega
  have HC := Lib.hid hcs
  clear hcs
  go_enter Tryz.func134, Tryz.ntmps134
  go_wp2_with (at_builtin; refine wpList_app_lit rfl _ _ 26 rfl 5 byte5 Tryz.underlying26 v xs rfl [240 + r / 262144, 128 + r / 4096 % 64, 128 + r / 64 % 64, 128 + r % 64] 4 rfl rfl W V hb 5 _ rfl HC.out hl ?_)
  all_goals
    intro v' w' k
    clear hb
    go_wp2
    go_ret
    exact ⟨_, rfl, k⟩

set_option maxRecDepth 100000 in
set_option maxHeartbeats 1000000 in
theorem runeNA_neg {W w : World} {V v : Value} {xs : Bytes} (hb : App W V w v xs) (r : Int) (h0 : -2147483648 ≤ r) (h1 : r < 0) (hl : Room (xs.length + 3)) :
    Calls Tryz.prog 134 #[v, .int .i32 r] w (Apd W V (xs ++ ([239, 191, 189] : List Int).map B)) := by
  have hcs : ∀ x ∈ ([239, 191, 189] : List Int), 0 ≤ x ∧ x ≤ 255 := by intro x hx; simp at hx; omega
  have HC := Lib.hid hcs
  clear hcs
  go_enter Tryz.func134, Tryz.ntmps134
  go_wp2_with (at_builtin; refine wpList_app_lit rfl _ _ 26 rfl 5 byte5 Tryz.underlying26 v xs rfl [239, 191, 189] 3 rfl rfl W V hb 5 _ rfl HC.out hl ?_)
  all_goals
    intro v' w' k
    clear hb
    go_wp2
    go_ret
    exact ⟨_, rfl, k⟩

set_option maxRecDepth 100000 in
set_option maxHeartbeats 1000000 in
theorem runeNA_sur {W w : World} {V v : Value} {xs : Bytes} (hb : App W V w v xs) (r : Int) (h0 : 55296 ≤ r) (h1 : r ≤ 57343) (hl : Room (xs.length + 3)) :
    Calls Tryz.prog 134 #[v, .int .i32 r] w (Apd W V (xs ++ ([239, 191, 189] : List Int).map B)) := by
  have hcs : ∀ x ∈ ([239, 191, 189] : List Int), 0 ≤ x ∧ x ≤ 255 := by intro x hx; simp at hx; omega
  have HC := Lib.hid hcs
  clear hcs
  go_enter Tryz.func134, Tryz.ntmps134
  go_wp2_with (at_builtin; refine wpList_app_lit rfl _ _ 26 rfl 5 byte5 Tryz.underlying26 v xs rfl [239, 191, 189] 3 rfl rfl W V hb 5 _ rfl HC.out hl ?_)
  all_goals
    intro v' w' k
    clear hb
    go_wp2
    go_ret
    exact ⟨_, rfl, k⟩

set_option maxRecDepth 100000 in
set_option maxHeartbeats 1000000 in
theorem runeNA_big {W w : World} {V v : Value} {xs : Bytes} (hb : App W V w v xs) (r : Int) (h0 : 1114111 < r) (h1 : r ≤ 2147483647) (hl : Room (xs.length + 3)) :
    Calls Tryz.prog 134 #[v, .int .i32 r] w (Apd W V (xs ++ ([239, 191, 189] : List Int).map B)) := by
  have hcs : ∀ x ∈ ([239, 191, 189] : List Int), 0 ≤ x ∧ x ≤ 255 := by intro x hx; simp at hx; omega
  have HC := Lib.hid hcs
  clear hcs
  have q1 : 65535 < r := by omega
  have q2 : 57343 < r := by omega
  have q3 : 2047 < r := by omega
  go_enter Tryz.func134, Tryz.ntmps134
  go_wp2_with (at_builtin; refine wpList_app_lit rfl _ _ 26 rfl 5 byte5 Tryz.underlying26 v xs rfl [239, 191, 189] 3 rfl rfl W V hb 5 _ rfl HC.out hl ?_)
  all_goals
    intro v' w' k
    clear hb
    go_wp2
    go_ret
    exact ⟨_, rfl, k⟩

theorem runeNA_any {W w : World} {V v : Value} {xs : Bytes} (hb : App W V w v xs) (r : Int) (h0 : r < 0 ∨ 127 < r) (h1 : -2147483648 ≤ r) (h2 : r ≤ 2147483647) (hl : Room (xs.length + 4)) :
    Calls Tryz.prog 134 #[v, .int .i32 r] w (Apd W V (xs ++ encB r)) := by
  unfold encB
  rcases (by omega : r < 0 ∨ (128 ≤ r ∧ r ≤ 2047) ∨ (2048 ≤ r ∧ r < 55296) ∨ (55296 ≤ r ∧ r ≤ 57343) ∨ (57343 < r ∧ r ≤ 65535) ∨ (65536 ≤ r ∧ r ≤ 1114111) ∨ 1114111 < r) with c | c | c | c | c | c | c
  · rw [Lib.encodeRuneZ_bad (by omega)]; exact runeNA_neg hb r h1 c (hl.le (by omega))
  · rw [Lib.encodeRuneZ_two c.1 c.2]; exact runeNA_two hb r c.1 c.2 (hl.le (by omega))
  · rw [Lib.encodeRuneZ_three (by omega)]; exact runeNA_three_lo hb r c.1 c.2 (hl.le (by omega))
  · rw [Lib.encodeRuneZ_bad (by omega)]; exact runeNA_sur hb r c.1 c.2 (hl.le (by omega))
  · rw [Lib.encodeRuneZ_three (by omega)]; exact runeNA_three_hi hb r c.1 c.2 (hl.le (by omega))
  · rw [Lib.encodeRuneZ_four c.1 c.2]; exact runeNA_four hb r c.1 c.2 (hl.le (by omega))
  · rw [Lib.encodeRuneZ_bad (by omega)]; exact runeNA_big hb r c h2 (hl.le (by omega))

set_option maxRecDepth 100000 in
set_option maxHeartbeats 1000000 in
theorem AppendRune_ascii {W w : World} {V v : Value} {xs : Bytes} (hb : App W V w v xs) (r : Int) (h0 : 0 ≤ r) (h1 : r ≤ 127) (hl : Room (xs.length + 1)) :
    Calls Tryz.prog 120 #[v, .int .i32 r] w (Apd W V (xs ++ [B r])) := by
  have hcs : ∀ x ∈ [r], 0 ≤ x ∧ x ≤ 255 := by intro x hx; simp at hx; omega
  have HC := Lib.hid hcs
  clear hcs
  go_enter Tryz.func120, Tryz.ntmps120
  go_wp2_with (at_builtin; refine wpList_app_lit rfl _ _ 26 rfl 5 byte5 Tryz.underlying26 v xs rfl [r] 1 rfl rfl W V hb 5 _ rfl HC.out hl ?_)
  intro v' w' k
  clear hb
  go_wp2
  go_ret
  exact ⟨_, rfl, k⟩

set_option maxRecDepth 100000 in
set_option maxHeartbeats 1000000 in
theorem AppendRune_other {W w : World} {V v : Value} {xs : Bytes} (hb : App W V w v xs) (r : Int) (h0 : r < 0 ∨ 127 < r) (h1 : -2147483648 ≤ r) (h2 : r ≤ 2147483647) (hl : Room (xs.length + 4)) :
    Calls Tryz.prog 120 #[v, .int .i32 r] w (Apd W V (xs ++ encB r)) := by
  rcases h0 with c | c
  all_goals
    go_enter Tryz.func120, Tryz.ntmps120
    go_wp2_with (go_at_call 134; refine (runeNA_any hb r (by omega) h1 h2 hl).mono ?_)
    rintro e w' ⟨v', rfl, k⟩
    clear hb
    go_wp2
    go_ret
    exact ⟨_, rfl, k⟩

theorem AppendRune_any {W w : World} {V v : Value} {xs : Bytes} (hb : App W V w v xs) (r : Int) (h1 : -2147483648 ≤ r) (h2 : r ≤ 2147483647) (hl : Room (xs.length + 4)) :
    Calls Tryz.prog 120 #[v, .int .i32 r] w (Apd W V (xs ++ encB r)) := by
  by_cases c : 0 ≤ r ∧ r ≤ 127
  · unfold encB
    rw [Lib.encodeRuneZ_one c.1 c.2]
    exact AppendRune_ascii hb r c.1 c.2 (hl.le (by omega))
  · exact AppendRune_other hb r (by omega) h1 h2 hl

theorem encB_length (r : Int) : 1 ≤ (encB r).length ∧ (encB r).length ≤ 4 := by
  unfold encB
  rw [List.length_map]
  exact Lib.encodeRuneZ_length r

end Go.Proofs.YtcbliojofnigdaaGreatDoor
