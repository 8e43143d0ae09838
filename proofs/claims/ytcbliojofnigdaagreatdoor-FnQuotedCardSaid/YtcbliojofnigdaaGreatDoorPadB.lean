/- unicode/utf8.RuneCountInString and RuneCount: every string, every slice of bytes. unicode/utf8.AppendRune onto any slice of bytes: every int32. The printer's four ways to write: a string, a byte, bytes, a rune. The printer's padding. The printer's pad and padString. The printer's pad: bytes that lie anywhere outside the printer's text. -/
import Derived.Test.YtcbliojofnigdaaGreatDoorState
import Derived.Lib.RuneCountTail
import Derived.Laws.RangeString
import Derived.Laws.RangeAny
import Derived.Laws.BytesArg
import Derived.LoopTactic
import Derived.Lib.RuneBytes
import Derived.Deep.RegionWith
import Derived.Handy
namespace Go.Proofs.YtcbliojofnigdaaGreatDoor
open Go Go.Proofs Go.RowKit

/-- the world is as it was, or has one block more -/
def One (w w' : World) : Prop := w' = w ∨ ∃ o, w' = w.alloc o

set_option maxRecDepth 1000000 in
set_option maxHeartbeats 1000000 in
theorem RuneCountInString_any (s : ByteArray) (w : World) (hs : s.size < 4611686018427387904) :
    Calls Tryz.prog 105 #[.string s] w fun e w' => e = .returned (.int .i64 (Lib.runeCount s)) ∧ ∃ pos, w' = w.iter s pos := by
  go_enter Tryz.func105, Tryz.ntmps105
  go_wp2
  go_loopw [2] (fun n w' => ∃ (pos b acc : Nat), w' = w.iter s pos ∧ n = .int .i64 acc ∧ acc + Lib.runeCountFrom s b pos = Lib.runeCount s ∧ s.size ≤ pos + b ∧ acc ≤ pos) (fun _ w' => s.size - w'.iterPos w.heap.size)
  case atStart => exact ⟨0, s.size, 0, rfl, rfl, by simp [Lib.runeCount], by omega, Nat.le_refl _⟩
  case round =>
    obtain ⟨pos, b, acc, rfl, rfl, hc, hb, ha⟩ := hrel
    by_cases hp : pos < s.size
    · have hnx : ∀ ty, (Instr.next (.pointer (some ⟨w.heap.size, 0, none⟩)) true ty).run Tryz.prog (w.iter s pos) = _ := fun ty => run_next_any w s pos ty hp
      have hwd := Lib.decode_width_pos s pos hp
      go_wp2
      go_roundw
      case rel =>
        cases b with
        | zero => omega
        | succ b =>
          refine ⟨pos + (Utf8.decode s pos).2, b, acc + 1, rfl, by go_num, ?_, by omega, by omega⟩
          rw [← hc]
          simp [Lib.runeCountFrom, hp]
          omega
      case measure =>
        simp
        omega
    · have hnx : ∀ ty, (Instr.next (.pointer (some ⟨w.heap.size, 0, none⟩)) true ty).run Tryz.prog (w.iter s pos) = _ := fun ty => run_next_end w s pos ty hp
      go_wp2
      go_ret
      rw [Lib.runeCountFrom_end s b pos hp, Nat.add_zero] at hc
      subst hc
      exact ⟨rfl, _, rfl⟩

theorem strOfNums_bytes (t : ByteArray) : strOfNums (t.data.toList.map fun x => (x.toNat : Int)) = t := by
  cases t with
  | mk d =>
    have h : ∀ l : List UInt8, l.map ((fun n : Int => UInt8.ofNat n.toNat) ∘ fun x : UInt8 => (x.toNat : Int)) = l := by
      intro l
      induction l with
      | nil => rfl
      | cons x r ih => simp [ih]
    simp [strOfNums, h]

theorem runeCount_none (t : ByteArray) (h : t.size = 0) : Lib.runeCount t = 0 := by
  unfold Lib.runeCount
  rw [h]
  rfl

/-- a string of bytes -/
abbrev str (l : Bytes) : ByteArray := ⟨l.toArray⟩
theorem str_size (l : Bytes) : (str l).size = l.length := by simp [ByteArray.size]
theorem str_bytes (l : Bytes) : (str l).data.toList = l := by simp
theorem str_get! (l : Bytes) (j : Nat) (h : j < l.length) : (str l).get! j = l[j] := by
  show (l.toArray)[j]! = _
  simp [h]

set_option maxRecDepth 1000000 in
set_option maxHeartbeats 1000000 in
theorem RuneCount_some (s : ByteArray) (b off cap : Nat) (w : World) (hcap : s.size ≤ cap) (hp : ∀ j, j < s.size → w.cell? ⟨b, off + j, none⟩ = some (.int .u8 (s.get! j).toNat)) (hs : s.size < 4611686018427387904) :
    Calls Tryz.prog 136 #[.slice (some ⟨b, off, none⟩) s.size cap] w fun e w' => e = .returned (.int .i64 (Lib.runeCount s)) ∧ One w w' := by
  go_enter Tryz.func136, Tryz.ntmps136
  go_wp2
  go_loop [4] (fun n => ∃ k : Nat, k ≤ s.size ∧ n = .int .i64 k ∧ ∀ j, j < k → (s.get! j).toNat < 128) (fun n => s.size - (intOf n).toNat)
  case atStart => exact ⟨0, Nat.zero_le _, rfl, fun j hj => absurd hj (Nat.not_lt_zero _)⟩
  case round =>
    obtain ⟨k, hk, rfl, hasc⟩ := hrel
    by_cases hlt : k < s.size
    · have hcell := hp k hlt
      obtain ⟨y, hy⟩ : ∃ y, s.get! k = y := ⟨_, rfl⟩
      rw [hy] at hcell
      have hltz : (k : Int) < (s.size : Int) := by omega
      by_cases ha : y.toNat < 128
      · have haz : ¬ ((y.toNat : Int) ≥ 128) := by omega
        clear hp
        go_wp2
        go_round
        case rel =>
          refine ⟨k + 1, by omega, by go_num, fun j hj => ?_⟩
          by_cases hjk : j < k
          · exact hasc j hjk
          · have : j = k := by omega
            subst this
            rw [hy]; exact ha
        case measure => simp [intOf]; omega
      · have haz : (y.toNat : Int) ≥ 128 := by omega
        have hcv : ∀ c, (convert 26 9 (.slice (some ⟨b, off + k, none⟩) (s.size - k) c)).run Tryz.prog w = .ok (.string (s.extract k s.size)) w := fun c => by
          have := run_convert_bytes_arg (P := Tryz.prog) w 26 5 Tryz.underlying26 Tryz.underlying5 b (off + k) (s.size - k) c ((s.extract k s.size).data.toList.map fun x => (x.toNat : Int))
            (by rw [List.length_map, ← Lib.size_eq, Lib.tail_size])
            (fun i hi => by
              rw [Nat.add_assoc, hp (k + i) (by omega), ← Lib.tail_get!, ← Lib.getD_get!']
              generalize (s.extract k s.size).data.toList = l
              simp only [List.getD, List.getElem?_map]
              cases l[i]? <;> rfl)
            9 Tryz.underlying9
          rwa [strOfNums_bytes] at this
        have cR := RuneCountInString_any (s.extract k s.size) w (by rw [Lib.tail_size]; omega)
        have hsp := Lib.runeCount_split s k hk hasc
        have hle := Lib.runeCount_le (s.extract k s.size)
        rw [Lib.tail_size] at hle
        generalize Lib.runeCount (s.extract k s.size) = c at *
        clear hp
        go_wp2_with (first
          | (simp only)
          | (go_at_call 105; refine cR.mono ?_; rintro e w' ⟨rfl, pos, rfl⟩))
        go_ret
        refine ⟨?_, Or.inr ⟨_, rfl⟩⟩
        first | rfl | (rw [hsp]; go_num)
    · have hkk : k = s.size := by omega
      subst hkk
      have hge : ¬ ((s.size : Int) < (s.size : Int)) := by omega
      clear hp
      go_wp2
      go_ret
      refine ⟨?_, Or.inl rfl⟩
      rw [Lib.runeCount_split s s.size (Nat.le_refl _) hasc, runeCount_none _ (by rw [Lib.tail_size]; omega)]
      rfl

set_option maxRecDepth 1000000 in
set_option maxHeartbeats 1000000 in
theorem RuneCount_nil (w : World) : Calls Tryz.prog 136 #[.slice none 0 0] w fun e w' => e = .returned (.int .i64 0) ∧ One w w' := by
  go_enter Tryz.func136, Tryz.ntmps136
  go_wp2
  go_loop [4] (fun n => n = .int .i64 0) (fun n => 0)
  case atStart => rfl
  case round =>
    subst hrel
    go_wp2
    go_ret
    exact ⟨rfl, .inl rfl⟩

/-- how many runes bytes make -/
def runes (l : Bytes) : Nat := Lib.runeCount (str l)
theorem runes_le (l : Bytes) : runes l ≤ l.length := by
  have := Lib.runeCount_le (str l)
  rw [str_size] at this
  exact this

theorem RuneCount_any {w : World} {v : Value} {xs : Bytes} (h : RBuf w v xs) (hl : Room xs.length) :
    Calls Tryz.prog 136 #[v] w fun e w' => e = .returned (.int .i64 (runes xs)) ∧ One w w' := by
  have hl' : xs.length ≤ 140737488355328 := hl
  rcases h with ⟨rfl, rfl⟩ | ⟨b, o, c, cs, e, fr, rfl, hb, h1, h2, h3, h4⟩
  · exact RuneCount_nil w
  · have := RuneCount_some (str xs) b o c w (by rw [str_size]; exact h2) (fun j hj => by
      rw [str_size] at hj
      rw [str_get! _ _ hj]
      simp [World.cell?, hb, h4 j hj, u8]) (by rw [str_size]; omega)
    rw [str_size] at this
    exact this

theorem One.only {w w' : World} (h : One w w') (p : Option (Nat × Nat × Nat)) : Only p w w' := by
  rcases h with rfl | ⟨o, rfl⟩
  · exact Only.refl _ _
  · exact (Only.refl _ _).alloc o

/-- a rune's bytes -/
def encB (r : Int) : Bytes := (Lib.encodeRuneZ r).map B

/-- bytes have been appended to v -/
def Apd (W : World) (V : Value) (xs : Bytes) (e : Ending) (w' : World) : Prop := ∃ v', e = .returned v' ∧ App W V w' v' xs

set_option maxRecDepth 100000 in
set_option maxHeartbeats 1000000 in
theorem runeNA_two {W w : World} {V v : Value} {xs : Bytes} (hb : App W V w v xs) (r : Int) (h0 : 128 ≤ r) (h1 : r ≤ 2047) (hl : Room (xs.length + 2)) :
    Calls Tryz.prog 134 #[v, .int .i32 r] w (Apd W V (xs ++ ([192 + r / 64, 128 + r % 64] : List Int).map B)) := by
  have hcs : ∀ x ∈ ([192 + r / 64, 128 + r % 64] : List Int), 0 ≤ x ∧ x ≤ 255 := by intro x hx; simp at hx; omega
  have HC := Lib.hid hcs
  clear hcs
  go_enter Tryz.func134, Tryz.ntmps134
  go_wp2_with (at_builtin; refine wpList_app_lit rfl _ _ 26 rfl 5 byte5 Tryz.underlying26 v xs rfl [192 + r / 64, 128 + r % 64] 2 rfl rfl W V hb 5 _ rfl HC.out hl ?_)
  all_goals
    intro v' w' k
    clear hb
    go_wp2
    go_ret
    exact ⟨_, rfl, k⟩

set_option maxRecDepth 100000 in
set_option maxHeartbeats 1000000 in
theorem runeNA_three_lo {W w : World} {V v : Value} {xs : Bytes} (hb : App W V w v xs) (r : Int) (h0 : 2048 ≤ r) (h1 : r < 55296) (hl : Room (xs.length + 3)) :
    Calls Tryz.prog 134 #[v, .int .i32 r] w (Apd W V (xs ++ ([224 + r / 4096, 128 + r / 64 % 64, 128 + r % 64] : List Int).map B)) := by
  have hcs : ∀ x ∈ ([224 + r / 4096, 128 + r / 64 % 64, 128 + r % 64] : List Int), 0 ≤ x ∧ x ≤ 255 := by intro x hx; simp at hx; omega
  have HC := Lib.hid hcs
  clear hcs
  go_enter Tryz.func134, Tryz.ntmps134
  go_wp2_with (at_builtin; refine wpList_app_lit rfl _ _ 26 rfl 5 byte5 Tryz.underlying26 v xs rfl [224 + r / 4096, 128 + r / 64 % 64, 128 + r % 64] 3 rfl rfl W V hb 5 _ rfl HC.out hl ?_)
  all_goals
    intro v' w' k
    clear hb
    go_wp2
    go_ret
    exact ⟨_, rfl, k⟩

set_option maxRecDepth 100000 in
set_option maxHeartbeats 1000000 in
theorem runeNA_three_hi {W w : World} {V v : Value} {xs : Bytes} (hb : App W V w v xs) (r : Int) (h0 : 57343 < r) (h1 : r ≤ 65535) (hl : Room (xs.length + 3)) :
    Calls Tryz.prog 134 #[v, .int .i32 r] w (Apd W V (xs ++ ([224 + r / 4096, 128 + r / 64 % 64, 128 + r % 64] : List Int).map B)) := by
  have hcs : ∀ x ∈ ([224 + r / 4096, 128 + r / 64 % 64, 128 + r % 64] : List Int), 0 ≤ x ∧ x ≤ 255 := by intro x hx; simp at hx; omega
  have HC := Lib.hid hcs
  clear hcs
  go_enter Tryz.func134, Tryz.ntmps134
  go_wp2_with (at_builtin; refine wpList_app_lit rfl _ _ 26 rfl 5 byte5 Tryz.underlying26 v xs rfl [224 + r / 4096, 128 + r / 64 % 64, 128 + r % 64] 3 rfl rfl W V hb 5 _ rfl HC.out hl ?_)
  all_goals
    intro v' w' k
    clear hb
    go_wp2
    go_ret
    exact ⟨_, rfl, k⟩

set_option maxRecDepth 100000 in
set_option maxHeartbeats 1000000 in
theorem runeNA_four {W w : World} {V v : Value} {xs : Bytes} (hb : App W V w v xs) (r : Int) (h0 : 65536 ≤ r) (h1 : r ≤ 1114111) (hl : Room (xs.length + 4)) :
    Calls Tryz.prog 134 #[v, .int .i32 r] w (Apd W V (xs ++ ([240 + r / 262144, 128 + r / 4096 % 64, 128 + r / 64 % 64, 128 + r % 64] : List Int).map B)) := by
  have hcs : ∀ x ∈ ([240 + r / 262144, 128 + r / 4096 % 64, 128 + r / 64 % 64, 128 + r % 64] : List Int), 0 ≤ x ∧ x ≤ 255 := by intro x hx; simp at hx; omega
  have HC := Lib.hid hcs
  clear hcs
  go_enter Tryz.func134, Tryz.ntmps134
  go_wp2_with (at_builtin; refine wpList_app_lit rfl _ _ 26 rfl 5 byte5 Tryz.underlying26 v xs rfl [240 + r / 262144, 128 + r / 4096 % 64, 128 + r / 64 % 64, 128 + r % 64] 4 rfl rfl W V hb 5 _ rfl HC.out hl ?_)
  all_goals
    intro v' w' k
    clear hb
    go_wp2
    go_ret
    exact ⟨_, rfl, k⟩

set_option maxRecDepth 100000 in
set_option maxHeartbeats 1000000 in
theorem runeNA_neg {W w : World} {V v : Value} {xs : Bytes} (hb : App W V w v xs) (r : Int) (h0 : -2147483648 ≤ r) (h1 : r < 0) (hl : Room (xs.length + 3)) :
    Calls Tryz.prog 134 #[v, .int .i32 r] w (Apd W V (xs ++ ([239, 191, 189] : List Int).map B)) := by
  have hcs : ∀ x ∈ ([239, 191, 189] : List Int), 0 ≤ x ∧ x ≤ 255 := by intro x hx; simp at hx; omega
  have HC := Lib.hid hcs
  clear hcs
  go_enter Tryz.func134, Tryz.ntmps134
  go_wp2_with (at_builtin; refine wpList_app_lit rfl _ _ 26 rfl 5 byte5 Tryz.underlying26 v xs rfl [239, 191, 189] 3 rfl rfl W V hb 5 _ rfl HC.out hl ?_)
  all_goals
    intro v' w' k
    clear hb
    go_wp2
    go_ret
    exact ⟨_, rfl, k⟩

set_option maxRecDepth 100000 in
set_option maxHeartbeats 1000000 in
theorem runeNA_sur {W w : World} {V v : Value} {xs : Bytes} (hb : App W V w v xs) (r : Int) (h0 : 55296 ≤ r) (h1 : r ≤ 57343) (hl : Room (xs.length + 3)) :
    Calls Tryz.prog 134 #[v, .int .i32 r] w (Apd W V (xs ++ ([239, 191, 189] : List Int).map B)) := by
  have hcs : ∀ x ∈ ([239, 191, 189] : List Int), 0 ≤ x ∧ x ≤ 255 := by intro x hx; simp at hx; omega
  have HC := Lib.hid hcs
  clear hcs
  go_enter Tryz.func134, Tryz.ntmps134
  go_wp2_with (at_builtin; refine wpList_app_lit rfl _ _ 26 rfl 5 byte5 Tryz.underlying26 v xs rfl [239, 191, 189] 3 rfl rfl W V hb 5 _ rfl HC.out hl ?_)
  all_goals
    intro v' w' k
    clear hb
    go_wp2
    go_ret
    exact ⟨_, rfl, k⟩

set_option maxRecDepth 100000 in
set_option maxHeartbeats 1000000 in
theorem runeNA_big {W w : World} {V v : Value} {xs : Bytes} (hb : App W V w v xs) (r : Int) (h0 : 1114111 < r) (h1 : r ≤ 2147483647) (hl : Room (xs.length + 3)) :
    Calls Tryz.prog 134 #[v, .int .i32 r] w (Apd W V (xs ++ ([239, 191, 189] : List Int).map B)) := by
  have hcs : ∀ x ∈ ([239, 191, 189] : List Int), 0 ≤ x ∧ x ≤ 255 := by intro x hx; simp at hx; omega
  have HC := Lib.hid hcs
  clear hcs
  have q1 : 65535 < r := by omega
  have q2 : 57343 < r := by omega
  have q3 : 2047 < r := by omega
  go_enter Tryz.func134, Tryz.ntmps134
  go_wp2_with (at_builtin; refine wpList_app_lit rfl _ _ 26 rfl 5 byte5 Tryz.underlying26 v xs rfl [239, 191, 189] 3 rfl rfl W V hb 5 _ rfl HC.out hl ?_)
  all_goals
    intro v' w' k
    clear hb
    go_wp2
    go_ret
    exact ⟨_, rfl, k⟩

theorem runeNA_any {W w : World} {V v : Value} {xs : Bytes} (hb : App W V w v xs) (r : Int) (h0 : r < 0 ∨ 127 < r) (h1 : -2147483648 ≤ r) (h2 : r ≤ 2147483647) (hl : Room (xs.length + 4)) :
    Calls Tryz.prog 134 #[v, .int .i32 r] w (Apd W V (xs ++ encB r)) := by
  unfold encB
  rcases (by omega : r < 0 ∨ (128 ≤ r ∧ r ≤ 2047) ∨ (2048 ≤ r ∧ r < 55296) ∨ (55296 ≤ r ∧ r ≤ 57343) ∨ (57343 < r ∧ r ≤ 65535) ∨ (65536 ≤ r ∧ r ≤ 1114111) ∨ 1114111 < r) with c | c | c | c | c | c | c
  · rw [Lib.encodeRuneZ_bad (by omega)]; exact runeNA_neg hb r h1 c (hl.le (by omega))
  · rw [Lib.encodeRuneZ_two c.1 c.2]; exact runeNA_two hb r c.1 c.2 (hl.le (by omega))
  · rw [Lib.encodeRuneZ_three (by omega)]; exact runeNA_three_lo hb r c.1 c.2 (hl.le (by omega))
  · rw [Lib.encodeRuneZ_bad (by omega)]; exact runeNA_sur hb r c.1 c.2 (hl.le (by omega))
  · rw [Lib.encodeRuneZ_three (by omega)]; exact runeNA_three_hi hb r c.1 c.2 (hl.le (by omega))
  · rw [Lib.encodeRuneZ_four c.1 c.2]; exact runeNA_four hb r c.1 c.2 (hl.le (by omega))
  · rw [Lib.encodeRuneZ_bad (by omega)]; exact runeNA_big hb r c h2 (hl.le (by omega))

set_option maxRecDepth 100000 in
set_option maxHeartbeats 1000000 in
theorem AppendRune_ascii {W w : World} {V v : Value} {xs : Bytes} (hb : App W V w v xs) (r : Int) (h0 : 0 ≤ r) (h1 : r ≤ 127) (hl : Room (xs.length + 1)) :
    Calls Tryz.prog 120 #[v, .int .i32 r] w (Apd W V (xs ++ [B r])) := by
  have hcs : ∀ x ∈ [r], 0 ≤ x ∧ x ≤ 255 := by intro x hx; simp at hx; omega
  have HC := Lib.hid hcs
  clear hcs
  go_enter Tryz.func120, Tryz.ntmps120
  go_wp2_with (at_builtin; refine wpList_app_lit rfl _ _ 26 rfl 5 byte5 Tryz.underlying26 v xs rfl [r] 1 rfl rfl W V hb 5 _ rfl HC.out hl ?_)
  intro v' w' k
  clear hb
  go_wp2
  go_ret
  exact ⟨_, rfl, k⟩

set_option maxRecDepth 100000 in
set_option maxHeartbeats 1000000 in
theorem AppendRune_other {W w : World} {V v : Value} {xs : Bytes} (hb : App W V w v xs) (r : Int) (h0 : r < 0 ∨ 127 < r) (h1 : -2147483648 ≤ r) (h2 : r ≤ 2147483647) (hl : Room (xs.length + 4)) :
    Calls Tryz.prog 120 #[v, .int .i32 r] w (Apd W V (xs ++ encB r)) := by
  rcases h0 with c | c
  all_goals
    go_enter Tryz.func120, Tryz.ntmps120
    go_wp2_with (go_at_call 134; refine (runeNA_any hb r (by omega) h1 h2 hl).mono ?_)
    rintro e w' ⟨v', rfl, k⟩
    clear hb
    go_wp2
    go_ret
    exact ⟨_, rfl, k⟩

theorem AppendRune_any {W w : World} {V v : Value} {xs : Bytes} (hb : App W V w v xs) (r : Int) (h1 : -2147483648 ≤ r) (h2 : r ≤ 2147483647) (hl : Room (xs.length + 4)) :
    Calls Tryz.prog 120 #[v, .int .i32 r] w (Apd W V (xs ++ encB r)) := by
  by_cases c : 0 ≤ r ∧ r ≤ 127
  · unfold encB
    rw [Lib.encodeRuneZ_one c.1 c.2]
    exact AppendRune_ascii hb r c.1 c.2 (hl.le (by omega))
  · exact AppendRune_other hb r (by omega) h1 h2 hl

theorem encB_length (r : Int) : 1 ≤ (encB r).length ∧ (encB r).length ≤ 4 := by
  unfold encB
  rw [List.length_map]
  exact Lib.encodeRuneZ_length r

set_option maxRecDepth 100000 in
set_option maxHeartbeats 400000 in
theorem writeString_any {b : Nat} {w : World} {s : PS} {v : Value} {ib : List Value} (h : PP b w s v ib) (t : ByteArray) (hl : Room (s.out.length + t.size)) :
    Calls Tryz.prog 76 #[.pointer (some ⟨b, 0, none⟩), .string t] w (Wrote b w s v ib t.data.toList) := by
  have hc := h.c0
  go_enter Tryz.func76, Tryz.ntmps76
  go_wp2_with (at_builtin; refine wpList_app_str rfl (.tmp 7) (.tmp 8) 119 9 rfl 5 byte5 Tryz.underlying119 Tryz.underlying9 v s.out rfl t rfl w v (App.refl h.buf) hl ?_)
  intro v' w' k
  obtain ⟨a', n', c', rfl⟩ := k.slice
  have hc' := h.still0 k
  have hf' := h.stillf k 0
  have R := h.text k
  clear hc k
  go_wp2
  go_end0
  exact ⟨rfl, _, R.1, R.2⟩

set_option maxRecDepth 100000 in
set_option maxHeartbeats 400000 in
theorem writeByte_any {b : Nat} {w : World} {s : PS} {v : Value} {ib : List Value} (h : PP b w s v ib) (c : Int) (h0 : 0 ≤ c) (h1 : c ≤ 255) (hl : Room (s.out.length + 1)) :
    Calls Tryz.prog 83 #[.pointer (some ⟨b, 0, none⟩), .int .u8 c] w (Wrote b w s v ib [B c]) := by
  have hc := h.c0
  have hcs : ∀ x ∈ [c], 0 ≤ x ∧ x ≤ 255 := by intro x hx; simp at hx; subst hx; exact ⟨h0, h1⟩
  have HC := Lib.hid hcs
  clear hcs
  go_enter Tryz.func83, Tryz.ntmps83
  go_wp2_with (at_builtin; refine wpList_app_lit rfl (.tmp 7) (.tmp 9) 119 rfl 5 byte5 Tryz.underlying119 v s.out rfl [c] 1 rfl rfl w v (App.refl h.buf) 5 _ rfl HC.out hl ?_)
  intro v' w' k
  obtain ⟨a', n', c', rfl⟩ := k.slice
  have hc' := h.still0 k
  have hf' := h.stillf k 0
  have R := h.text k
  clear hc k
  go_wp2
  go_end0
  exact ⟨rfl, _, R.1, R.2⟩

set_option maxRecDepth 100000 in
set_option maxHeartbeats 400000 in
theorem write_any {b : Nat} {w : World} {s : PS} {v : Value} {ib : List Value} (h : PP b w s v ib) (x : Value) (t : Bytes) (hx : RBuf w x t) (hl : Room (s.out.length + t.length)) :
    Calls Tryz.prog 123 #[.pointer (some ⟨b, 0, none⟩), x] w (Wrote b w s v ib t) := by
  have hc := h.c0
  go_enter Tryz.func123, Tryz.ntmps123
  go_wp2_with (at_builtin; refine wpList_app_buf rfl (.tmp 7) (.tmp 8) 119 26 rfl 5 byte5 Tryz.underlying119 Tryz.underlying26 v s.out rfl x rfl t hx w v (App.refl h.buf) hl ?_)
  intro v' w' k
  obtain ⟨a', n', c', rfl⟩ := k.slice
  have hc' := h.still0 k
  have hf' := h.stillf k 0
  have R := h.text k
  clear hc k
  go_wp2
  go_end0
  exact ⟨rfl, _, R.1, R.2⟩

set_option maxRecDepth 100000 in
set_option maxHeartbeats 400000 in
theorem writeRune_any {b : Nat} {w : World} {s : PS} {v : Value} {ib : List Value} (h : PP b w s v ib) (r : Int) (h1 : -2147483648 ≤ r) (h2 : r ≤ 2147483647) (hl : Room (s.out.length + 4)) :
    Calls Tryz.prog 103 #[.pointer (some ⟨b, 0, none⟩), .int .i32 r] w (Wrote b w s v ib (encB r)) := by
  have hc := h.c0
  go_enter Tryz.func103, Tryz.ntmps103
  go_wp2_with (go_at_call 120; refine (AppendRune_any (App.refl h.buf) r h1 h2 hl).mono ?_)
  rintro e w' ⟨v', rfl, k⟩
  obtain ⟨a', n', c', rfl⟩ := k.slice
  have hc' := h.still0 k
  have hf' := h.stillf k 0
  have R := h.text k
  clear hc k
  go_wp2
  go_end0
  exact ⟨rfl, _, R.1, R.2⟩

/-- the byte that fills -/
def padB (f : Fl) : UInt8 := if f.zero && !f.minus then 48 else 32
def padding (f : Fl) (n : Int) : Bytes := List.replicate n.toNat (padB f)

set_option maxRecDepth 100000 in
set_option maxHeartbeats 400000 in
theorem writePadding_none {b : Nat} {w : World} {s : PS} {v : Value} {ib : List Value} (h : PP b w s v ib) (n : Int) (hn : n ≤ 0) :
    Calls Tryz.prog 106 #[.pointer (some ⟨b, 1, none⟩), .int .i64 n] w (Wrote b w s v ib (padding s.fl n)) := by
  go_enter Tryz.func106, Tryz.ntmps106
  go_wp2
  go_end0
  have : n.toNat = 0 := by omega
  exact ⟨rfl, v, by simpa [padding, this] using h, Fr.refl _ _ _⟩

set_option maxRecDepth 100000 in
set_option maxHeartbeats 1000000 in
theorem writePadding_fits {b : Nat} {w : World} {s : PS} {b1 o1 c1 L : Nat} {ib : List Value} (h : PP b w s (.slice (some ⟨b1, o1, none⟩) L c1) ib) (n : Int) (hn : 0 < n) (hfit : (L : Int) + n ≤ c1) (hc1 : (c1 : Int) ≤ 9223372036854775807) :
    Calls Tryz.prog 106 #[.pointer (some ⟨b, 1, none⟩), .int .i64 n] w (Wrote b w s (.slice (some ⟨b1, o1, none⟩) L c1) ib (padding s.fl n)) := by
  obtain ⟨n, rfl⟩ := Int.eq_ofNat_of_zero_le (show 0 ≤ n by omega)
  have h0 := h.c0
  have h1 := h.c1
  have h4 := h.c4
  have h8 := h.c8
  have hL := h.buf.len.1
  have hfin : ∀ (wr : World), App w (.slice (some ⟨b1, o1, none⟩) L c1) wr (.slice (some ⟨b1, o1, none⟩) (L + n) c1) (s.out ++ List.replicate n (padB s.fl)) →
      Wrote b w s (.slice (some ⟨b1, o1, none⟩) L c1) ib (padding s.fl n) (.returned (.tuple #[])) (wr.setCell ⟨b, 0, none⟩ (.slice (some ⟨b1, o1, none⟩) (L + n) c1)).drew := by
    intro wr hA
    have R := h.text hA
    exact ⟨rfl, _, by simpa [padding] using R.1.drew, R.2.drew⟩
  have HF := Lib.hid hfin
  have HH := Lib.hid h
  clear hfin h
  cases hz : s.fl.zero <;> cases hm : s.fl.minus <;> rw [hz] at h8 <;> rw [hm] at h4
  all_goals
    first
      | (have hu : u8 (padB s.fl) = .int .u8 32 := by simp only [padB, hz, hm]; rfl)
      | (have hu : u8 (padB s.fl) = .int .u8 48 := by simp only [padB, hz, hm]; rfl)
    have HU := Lib.hid hu
    clear hz hm hu
    obtain ⟨p, hp⟩ : ∃ p : UInt8, p = padB s.fl := ⟨_, rfl⟩
    rw [← hp] at HF HU
    clear hp
    go_enter Tryz.func106, Tryz.ntmps106
    go_wp2
    go_loopw [60] (fun i wr => ∃ k : Nat, k ≤ n ∧ i = .int .i64 k ∧ App w (.slice (some ⟨b1, o1, none⟩) L c1) wr (.slice (some ⟨b1, o1, none⟩) (L + k) c1) (s.out ++ List.replicate k p)) (fun i _ => n - (intOf i).toNat)
    case atStart => exact ⟨0, Nat.zero_le _, rfl, by simpa using App.refl HH.out.buf⟩
    case round =>
      obtain ⟨k, hk, rfl, hA⟩ := hrel
      by_cases hlt : k < n
      · obtain ⟨u, hu⟩ := hA.cellFree (L + k) (by omega)
        rw [← Nat.add_assoc] at hu
        have hf := hA.frz (o1 + L + k)
        have R := hA.store (by simp; omega) (by omega) p
        rw [← Nat.add_assoc, List.append_assoc, ← List.replicate_succ', HU.out] at R
        have RH := Lib.hid R
        clear hA R
        go_wp2
        go_roundw
        case rel => exact ⟨k + 1, by omega, by go_num, RH.out⟩
        case measure => simp [intOf]; omega
      · obtain rfl : k = n := by omega
        have g0 := HH.out.still0 hA
        have g1 : wr.cell? ⟨b, 1, none⟩ = some (.pointer (some ⟨b, 0, none⟩)) := by rw [World.cell?_of_block (a := ⟨b, 1, none⟩) (HH.out.still hA)]; exact h1
        have gf := HH.out.stillf hA 0
        have RH := Lib.hid (HF.out wr hA)
        clear hA h0 h1 h4 h8
        go_wp2
        go_region
        all_goals (go_end0; exact RH.out)

set_option maxRecDepth 100000 in
set_option maxHeartbeats 1000000 in
theorem writePadding_grows {b : Nat} {w : World} {s : PS} {ao : Option Addr} {c1 L : Nat} {ib : List Value} (h : PP b w s (.slice ao L c1) ib) (n : Int) (hn : 0 < n) (hfit : (c1 : Int) < L + n) (hr : Room (c1 * 2 + n.toNat)) :
    Calls Tryz.prog 106 #[.pointer (some ⟨b, 1, none⟩), .int .i64 n] w (Wrote b w s (.slice ao L c1) ib (padding s.fl n)) := by
  obtain ⟨n, rfl⟩ := Int.eq_ofNat_of_zero_le (show 0 ≤ n by omega)
  have h0 := h.c0
  have h1 := h.c1
  have hL := h.buf.len.1
  have hLc := h.buf.len.2.1
  have hc : c1 * 2 + n ≤ 140737488355328 := hr
  have hc2 : (c1 : Int) * 2 + n ≤ 9223372036854775807 := by omega
  clear hc
  have hfin : ∀ (m g : Nat) (v2 : Value) (w1 wr : World), Only none w w1 → w.heap.size ≤ g → App w1 (.slice (some ⟨g, 0, none⟩) m m) wr (.slice (some ⟨g, 0, none⟩) (L + n) m) (s.out ++ List.replicate n (padB s.fl)) →
      Wrote b w s (.slice ao L c1) ib (padding s.fl n) (.returned (.tuple #[])) (wr.setCell ⟨b, 0, none⟩ (.slice (some ⟨g, 0, none⟩) (L + n) m)).drew := by
    intro m g v2 w1 wr hO hg hA
    have hA' : App w (.slice ao L c1) wr (.slice (some ⟨g, 0, none⟩) (L + n) m) (s.out ++ List.replicate n (padB s.fl)) := by
      refine ⟨hA.buf, (Only.none hO).fresh hg hA.only, .inr ⟨g, 0, m, rfl, hg⟩⟩
    have R := h.text hA'
    exact ⟨rfl, _, by simpa [padding] using R.1.drew, R.2.drew⟩
  have HF := Lib.hid hfin
  have HH := Lib.hid h
  clear hfin h
  cases hz : s.fl.zero <;> cases hm : s.fl.minus
  all_goals
    first
      | (have hu : u8 (padB s.fl) = .int .u8 32 := by simp only [padB, hz, hm]; rfl)
      | (have hu : u8 (padB s.fl) = .int .u8 48 := by simp only [padB, hz, hm]; rfl)
    have HU := Lib.hid hu
    have HZ := Lib.hid hz
    have HM := Lib.hid hm
    clear hz hm hu
    obtain ⟨p, hp⟩ : ∃ p : UInt8, p = padB s.fl := ⟨_, rfl⟩
    rw [← hp] at HF HU
    clear hp
    go_enter Tryz.func106, Tryz.ntmps106
    go_wp2_with (at_make; refine wpList_mk rfl _ _ 119 rfl 5 Tryz.underlying119 byte5 .i64 .i64 _ _ (c1 * 2 + n) rfl rfl (by omega) (by omega) hr ?_)
    intro w1 hB hO hs
    have hP1 : PP b w1 s (.slice ao L c1) ib := HH.out.only hO (fun _ _ _ he => by cases he)
    have g0 := hP1.c0
    have g1 := hP1.c1
    have hgN : b < w.heap.size := HH.out.lt
    obtain ⟨g, hg⟩ : ∃ g, g = w.heap.size := ⟨_, rfl⟩
    rw [← hg] at hB hs hgN ⊢
    have HG := Lib.hid hg
    obtain ⟨m, hm⟩ : ∃ m, m = c1 * 2 + n := ⟨_, rfl⟩
    rw [← hm] at hB ⊢
    have hLm : L + n ≤ m := by omega
    have hmm : (m : Int) ≤ 9223372036854775807 := by omega
    have HB := Lib.hid hB
    have HO := Lib.hid hO
    have HP1 := Lib.hid hP1
    clear hB hO hP1 hg hm h0 h1
    go_wp2_with (refine wpList_cp rfl (.tmp 33) (.tmp 39) 119 119 rfl 5 Tryz.underlying119 (by kernel_rfl) g 0 m m _ rfl HB.out (.slice ao L c1) s.out rfl HP1.out.buf (by omega) ?_)
    intro w2 hA
    have hP2 : PP b w2 s (.slice ao L c1) ib := HP1.out.only hA.only (fun b' o c he => by
      cases he
      refine ⟨show g ≠ b by omega, fun b1 o1 c1 hv => show b1 ≠ g from ?_⟩
      have := HH.out.buf.place_lt hv
      have := HG.out
      omega)
    have g0 := hP2.c0
    have g1 := hP2.c1
    have g4 := hP2.c4
    have g8 := hP2.c8
    rw [HZ.out] at g8
    rw [HM.out] at g4
    have HA := Lib.hid hA
    have HP2 := Lib.hid hP2
    clear hA hP2
    go_wp2
    go_loopw [60] (fun i wr => ∃ k : Nat, k ≤ n ∧ i = .int .i64 k ∧ App w1 (.slice (some ⟨g, 0, none⟩) m m) wr (.slice (some ⟨g, 0, none⟩) (L + k) m) (s.out ++ List.replicate k p)) (fun i _ => n - (intOf i).toNat)
    case atStart => exact ⟨0, Nat.zero_le _, rfl, by have := HA.out; simpa using this⟩
    case round =>
      obtain ⟨k, hk, rfl, hA⟩ := hrel
      by_cases hlt : k < n
      · obtain ⟨u, hu⟩ := hA.cellFree (L + k) (by omega)
        rw [Nat.zero_add] at hu
        have hf := hA.frz (L + k)
        have R := hA.store (by simp; omega) (by omega) p
        rw [Nat.zero_add, Nat.add_assoc, List.append_assoc, ← List.replicate_succ', HU.out] at R
        have RH := Lib.hid R
        clear hA R
        go_wp2
        go_roundw
        case rel => exact ⟨k + 1, by omega, by go_num, RH.out⟩
        case measure => simp [intOf]; omega
      · obtain rfl : k = n := by omega
        have hP3 : PP b wr s (.slice ao L c1) ib := HP1.out.only hA.only (fun b' o c he => by
          cases he
          refine ⟨show g ≠ b by omega, fun b1 o1 c1 hv => show b1 ≠ g from ?_⟩
          have := HH.out.buf.place_lt hv
          have := HG.out
          omega)
        have g0 := hP3.c0
        have g1 := hP3.c1
        have gf := hP3.frz 0
        have RH := Lib.hid (HF.out m g (.slice ao L c1) w1 wr HO.out (by rw [← HG.out]; exact Nat.le_refl _) hA)
        clear hA hP3
        go_wp2
        go_region
        all_goals (go_end0; exact RH.out)

theorem writePadding_any {b : Nat} {w : World} {s : PS} {v : Value} {ib : List Value} (h : PP b w s v ib) (n : Int) (_hr : Room (s.out.length + n.toNat)) (hr2 : n ≤ 140737488) (hr3 : s.out.length ≤ 35184372088832) :
    Calls Tryz.prog 106 #[.pointer (some ⟨b, 1, none⟩), .int .i64 n] w (Wrote b w s v ib (padding s.fl n)) := by
  by_cases hn : n ≤ 0
  · exact writePadding_none h n hn
  · obtain ⟨ao, L, c1, rfl⟩ := h.buf.slice
    have hl := h.buf.len
    by_cases hfit : (L : Int) + n ≤ c1
    · rcases h.buf with ⟨hv, _⟩ | ⟨b', o, c, cs, e, hv, _⟩
      · cases hv; omega
      · cases hv
        exact writePadding_fits h n (by omega) hfit (by have := hl.2.2; unfold maxLen at this; omega)
    · exact writePadding_grows h n (by omega) (by omega) (show _ ≤ _ by omega)

/-- so long a text is no trouble (a plain name: the walk must not look at the number) -/
def Fits (n : Nat) : Prop := n ≤ 35184372088832
theorem Fits.le {m n : Nat} (h : Fits n) (k : m ≤ n) : Fits m := Nat.le_trans k h
theorem Fits.room {n : Nat} (h : Fits n) : Room n := Nat.le_trans h (by decide)
/-- width and precision are no less than 0 and not great -/
def FlOk (f : Fl) : Prop := 0 ≤ f.wid ∧ f.wid ≤ 100000000 ∧ 0 ≤ f.prec ∧ f.prec ≤ 100000000

/-- a text filled up to the width -/
def padM (f : Fl) (t : Bytes) : Bytes :=
  if f.widP = false ∨ f.wid = 0 then t
  else if f.minus then t ++ padding f (f.wid - runes t) else padding f (f.wid - runes t) ++ t

theorem padding_length (f : Fl) (n : Int) : (padding f n).length = n.toNat := by simp [padding]

theorem padM_length (f : Fl) (t : Bytes) : (padM f t).length ≤ t.length + f.wid.toNat := by
  unfold padM
  split
  · omega
  · split <;> simp only [List.length_append, padding_length] <;> omega
theorem padM_ge (f : Fl) (t : Bytes) : t.length ≤ (padM f t).length := by
  unfold padM
  split
  · omega
  · split <;> simp only [List.length_append] <;> omega

theorem Wrote.append {b : Nat} {w w1 : World} {s : PS} {v : Value} {ib : List Value} {t t' : Bytes} {v1 : Value} (hf : Fr b w v w1 v1) {e : Ending} {w2 : World}
    (h : Wrote b w1 { s with out := s.out ++ t } v1 ib t' e w2) : Wrote b w s v ib (t ++ t') e w2 := by
  obtain ⟨h1, v2, h2, h3⟩ := h
  exact ⟨h1, v2, by simpa [List.append_assoc] using h2, hf.trans h3⟩

theorem str_eta (t : ByteArray) : str t.data.toList = t := by cases t; simp

set_option maxRecDepth 100000 in
set_option maxHeartbeats 1000000 in
theorem padString_no {b : Nat} {w : World} {s : PS} {v : Value} {ib : List Value} (h : PP b w s v ib) (t : ByteArray) (hw : s.fl.widP = false ∨ s.fl.wid = 0) (hl : Fits (s.out.length + t.size)) :
    Calls Tryz.prog 88 #[.pointer (some ⟨b, 1, none⟩), .string t] w (Wrote b w s v ib (padM s.fl t.data.toList)) := by
  have hp : padM s.fl t.data.toList = t.data.toList := by unfold padM; rw [if_pos hw]
  rw [hp]
  have h1 := h.c1
  have h2 := h.c2
  have h11 := h.c11
  have C := writeString_any h t hl.room
  have HC := Lib.hid C
  clear hp C
  cases hwp : s.fl.widP
  · rw [hwp] at h2
    clear hwp hw
    go_enter Tryz.func88, Tryz.ntmps88
    go_wp2_with (go_at_call 76; refine (HC.out).mono ?_; rintro e w' ⟨rfl, hq⟩)
    go_end0
    exact ⟨rfl, by assumption⟩
  · rw [hwp] at h2
    have hz : s.fl.wid = 0 := by rcases hw with h | h; (rw [hwp] at h; cases h); exact h
    rw [hz] at h11
    clear hwp hw hz
    go_enter Tryz.func88, Tryz.ntmps88
    go_wp2_with (go_at_call 76; refine (HC.out).mono ?_; rintro e w' ⟨rfl, hq⟩)
    go_end0
    exact ⟨rfl, by assumption⟩

set_option maxRecDepth 100000 in
set_option maxHeartbeats 1000000 in
theorem padString_yes {b : Nat} {w : World} {s : PS} {v : Value} {ib : List Value} (h : PP b w s v ib) (t : ByteArray) (hw1 : s.fl.widP = true) (hw2 : 0 < s.fl.wid) (hw3 : s.fl.wid ≤ 100000000) (hl : Fits (s.out.length + t.size + s.fl.wid.toNat)) :
    Calls Tryz.prog 88 #[.pointer (some ⟨b, 1, none⟩), .string t] w (Wrote b w s v ib (padM s.fl t.data.toList)) := by
  have hl' : s.out.length + t.size + s.fl.wid.toNat ≤ 35184372088832 := hl
  have hsz : t.data.toList.length = t.size := by rw [Array.length_toList]; rfl
  have hrl : Lib.runeCount t = runes t.data.toList := by unfold runes; rw [str_eta]
  have hle := Lib.runeCount_le t
  obtain ⟨d, hd⟩ : ∃ d : Int, d = s.fl.wid - runes t.data.toList := ⟨_, rfl⟩
  have hd1 : d.toNat ≤ s.fl.wid.toNat := by omega
  have hd2 : d ≤ 100000000 := by omega
  have hn : ¬ (s.fl.widP = false ∨ s.fl.wid = 0) := by rw [hw1]; simp; omega
  have hp : padM s.fl t.data.toList = if s.fl.minus then t.data.toList ++ padding s.fl d else padding s.fl d ++ t.data.toList := by unfold padM; rw [if_neg hn, hd]
  have h1 := h.c1
  have h2 := h.c2
  have h4 := h.c4
  have h11 := h.c11
  rw [hw1] at h2
  have hwr : IntKind.i64.wrap (s.fl.wid - (Lib.runeCount t : Int)) = d := by rw [hd, hrl]; exact IntWalk.i64_in _ (by omega)
  have R : ∀ W, Calls Tryz.prog 105 #[.string t] W fun e w' => e = .returned (.int .i64 (Lib.runeCount t)) ∧ ∃ o, w' = W.alloc o := fun W => (RuneCountInString_any t W (by omega)).mono fun e w' ⟨he, pos, hw⟩ => ⟨he, _, hw⟩
  generalize hc : (Lib.runeCount t) = c at *
  obtain ⟨wd, hwd⟩ : ∃ wd, wd = s.fl.wid := ⟨_, rfl⟩
  rw [← hwd] at h11 hwr hw2
  have hw0 : (wd == 0) = false := by rw [beq_eq_false_iff_ne]; omega
  have hblt := h.lt
  have hlen : s.out.length + d.toNat + t.size ≤ 35184372088832 := by omega
  have HR := Lib.hid R
  have HH := Lib.hid h
  have HL := Lib.hid hlen
  have HD := Lib.hid hd2
  clear R h hn hd hd1 hd2 hle hsz hl hl' hw3 hrl hwd hlen
  have HP := Lib.hid hp
  clear hp
  have C1 : ∀ (W : World) (s' : PS) (v' : Value), PP b W s' v' ib → s'.fl = s.fl → s'.out.length + d.toNat ≤ 35184372088832 → Calls Tryz.prog 106 #[.pointer (some ⟨b, 1, none⟩), .int .i64 d] W (Wrote b W s' v' ib (padding s.fl d)) :=
    fun W s' v' hP hfl hb => hfl ▸ writePadding_any hP d (show _ ≤ _ by omega) (by have := HD.out; omega) (by omega)
  have HC1 := Lib.hid C1
  have C2 : ∀ (W : World) (s' : PS) (v' : Value), s'.out.length + t.size ≤ 35184372088832 → PP b W s' v' ib → Calls Tryz.prog 76 #[.pointer (some ⟨b, 0, none⟩), .string t] W (Wrote b W s' v' ib t.data.toList) :=
    fun W s' v' hb hP => writeString_any hP t (Fits.room hb)
  have HC2 := Lib.hid C2
  clear C1 C2
  have hsz : t.data.toList.length = t.size := by rw [Array.length_toList]; rfl
  have HS := Lib.hid hsz
  clear hsz
  cases hm : s.fl.minus
  · have hp := HP.out
    rw [hm] at h4 hp
    rw [hp]
    clear hp hm
    go_enter Tryz.func88, Tryz.ntmps88
    go_wp2_with fail
    go_region_with (go_at_call 105; refine (HR.out _).mono ?_; rintro e w' ⟨rfl, o, rfl⟩)
    all_goals
      have HPw : ∃ W, Hid (W = (w.alloc o).drew) ∧ Hid (PP b W s v ib) ∧ Hid (Fr b w v W v) := ⟨_, rfl, (HH.out.alloc _).drew, ((Fr.refl _ _ _).alloc _).drew⟩
      obtain ⟨W, HW, HPW, HFW⟩ := HPw
      go_wp2_with fail
      first | (rw [← HW.out]) | skip
      refine (HC1.out _ _ _ HPW.out rfl (by have := HL.out; omega)).mono ?_
      rintro e w1 ⟨rfl, v1, hP1, hF1⟩
      have g1 := hP1.c1
      have HP1 := Lib.hid hP1
      have HF1 := Lib.hid hF1
      clear hP1 hF1
      go_wp2_with fail
      refine (HC2.out _ _ _ (by have := HL.out; simp only [List.length_append, padding_length]; omega) HP1.out).mono ?_
      rintro e w2 hW2
      have R2 := Wrote.append (HFW.out.trans HF1.out) hW2
      obtain ⟨rfl, hq⟩ := R2
      clear hW2
      go_wp2_with fail
      go_end0
      exact ⟨rfl, hq⟩
  · have hp := HP.out
    rw [hm] at h4 hp
    rw [hp]
    clear hp hm
    go_enter Tryz.func88, Tryz.ntmps88
    go_wp2_with fail
    go_region_with (go_at_call 105; refine (HR.out _).mono ?_; rintro e w' ⟨rfl, o, rfl⟩)
    all_goals
      have HPw : ∃ W, Hid (W = (w.alloc o).drew) ∧ Hid (PP b W s v ib) ∧ Hid (Fr b w v W v) := ⟨_, rfl, (HH.out.alloc _).drew, ((Fr.refl _ _ _).alloc _).drew⟩
      obtain ⟨W, HW, HPW, HFW⟩ := HPw
      go_wp2_with fail
      first | (rw [← HW.out]) | skip
      refine (HC2.out _ _ _ (by have := HL.out; omega) HPW.out).mono ?_
      rintro e w1 ⟨rfl, v1, hP1, hF1⟩
      have g1 := hP1.c1
      have HP1 := Lib.hid hP1
      have HF1 := Lib.hid hF1
      clear hP1 hF1
      go_wp2_with fail
      refine (HC1.out _ _ _ HP1.out rfl (by have := HL.out; show (s.out ++ t.data.toList).length + d.toNat ≤ 35184372088832; rw [List.length_append, HS.out]; omega)).mono ?_
      rintro e w2 hW2
      have R2 := Wrote.append (HFW.out.trans HF1.out) hW2
      obtain ⟨rfl, hq⟩ := R2
      clear hW2
      go_wp2_with fail
      go_end0
      exact ⟨rfl, hq⟩

theorem padString_any {b : Nat} {w : World} {s : PS} {v : Value} {ib : List Value} (h : PP b w s v ib) (t : ByteArray) (hf : FlOk s.fl) (hl : Fits (s.out.length + t.size + s.fl.wid.toNat)) :
    Calls Tryz.prog 88 #[.pointer (some ⟨b, 1, none⟩), .string t] w (Wrote b w s v ib (padM s.fl t.data.toList)) := by
  have hf1 := hf.1
  have hf2 := hf.2.1
  cases hw : s.fl.widP
  · exact padString_no h t (.inl hw) (hl.le (by omega))
  · by_cases h0 : s.fl.wid = 0
    · exact padString_no h t (.inr h0) (hl.le (by omega))
    · exact padString_yes h t hw (by omega) hf2 hl

set_option maxRecDepth 100000 in
set_option maxHeartbeats 1000000 in
theorem pad_no {b : Nat} {w : World} {s : PS} {v : Value} {ib : List Value} (h : PP b w s v ib) (x : Value) (t : Bytes) (hx : Held b w v x t) (hw : s.fl.widP = false ∨ s.fl.wid = 0) (hl : Fits (s.out.length + t.length)) :
    Calls Tryz.prog 122 #[.pointer (some ⟨b, 1, none⟩), x] w (Wrote b w s v ib (padM s.fl t)) := by
  have hp : padM s.fl t = t := by unfold padM; rw [if_pos hw]
  rw [hp]
  have h1 := h.c1
  have h2 := h.c2
  have h11 := h.c11
  have C := write_any h x t hx.1 hl.room
  have HC := Lib.hid C
  clear hp C
  cases hwp : s.fl.widP
  · rw [hwp] at h2
    clear hwp hw
    go_enter Tryz.func122, Tryz.ntmps122
    go_wp2_with (go_at_call 123; refine (HC.out).mono ?_; rintro e w' ⟨rfl, hq⟩)
    go_end0
    exact ⟨rfl, by assumption⟩
  · rw [hwp] at h2
    have hz : s.fl.wid = 0 := by rcases hw with h | h; (rw [hwp] at h; cases h); exact h
    rw [hz] at h11
    clear hwp hw hz
    go_enter Tryz.func122, Tryz.ntmps122
    go_wp2_with (go_at_call 123; refine (HC.out).mono ?_; rintro e w' ⟨rfl, hq⟩)
    go_end0
    exact ⟨rfl, by assumption⟩

set_option maxRecDepth 100000 in
set_option maxHeartbeats 1000000 in
theorem pad_yes {b : Nat} {w : World} {s : PS} {v : Value} {ib : List Value} (h : PP b w s v ib) (x : Value) (t : Bytes) (hx : Held b w v x t) (hw1 : s.fl.widP = true) (hw2 : 0 < s.fl.wid) (hw3 : s.fl.wid ≤ 100000000) (hl : Fits (s.out.length + t.length + s.fl.wid.toNat)) :
    Calls Tryz.prog 122 #[.pointer (some ⟨b, 1, none⟩), x] w (Wrote b w s v ib (padM s.fl t)) := by
  have hl' : s.out.length + t.length + s.fl.wid.toNat ≤ 35184372088832 := hl
  have hle := runes_le t
  obtain ⟨d, hd⟩ : ∃ d : Int, d = s.fl.wid - runes t := ⟨_, rfl⟩
  have hd1 : d.toNat ≤ s.fl.wid.toNat := by omega
  have hd2 : d ≤ 100000000 := by omega
  have hn : ¬ (s.fl.widP = false ∨ s.fl.wid = 0) := by rw [hw1]; simp; omega
  have hp : padM s.fl t = if s.fl.minus then t ++ padding s.fl d else padding s.fl d ++ t := by unfold padM; rw [if_neg hn, hd]
  have h1 := h.c1
  have h2 := h.c2
  have h4 := h.c4
  have h11 := h.c11
  rw [hw1] at h2
  have hwr : IntKind.i64.wrap (s.fl.wid - (runes t : Int)) = d := by rw [hd]; exact IntWalk.i64_in _ (by omega)
  have R : ∀ W, Only none w W → Calls Tryz.prog 136 #[x] W fun e w' => e = .returned (.int .i64 (runes t)) ∧ One W w' := fun W hO => RuneCount_any (hx.1.only hO (fun _ _ _ _ _ _ he => by cases he)) (Fits.room (show _ ≤ _ by omega))
  generalize hc : (runes t) = c at *
  obtain ⟨wd, hwd⟩ : ∃ wd, wd = s.fl.wid := ⟨_, rfl⟩
  rw [← hwd] at h11 hwr hw2
  have hw0 : (wd == 0) = false := by rw [beq_eq_false_iff_ne]; omega
  have hblt := h.lt
  have hlen : s.out.length + d.toNat + t.length ≤ 35184372088832 := by omega
  have HR := Lib.hid R
  have hh := h
  have HH := Lib.hid h
  have HL := Lib.hid hlen
  have HWD := Lib.hid hwd.symm
  have HD := Lib.hid hd2
  clear R hn hd hd1 hd2 hle hl hl' hw3 hwd hlen
  have HP := Lib.hid hp
  clear hp
  have C1 : ∀ (W : World) (s' : PS) (v' : Value), PP b W s' v' ib → s'.fl = s.fl → s'.out.length + d.toNat ≤ 35184372088832 → Calls Tryz.prog 106 #[.pointer (some ⟨b, 1, none⟩), .int .i64 d] W (Wrote b W s' v' ib (padding s.fl d)) :=
    fun W s' v' hP hfl hb => hfl ▸ writePadding_any hP d (show _ ≤ _ by omega) (by have := HD.out; omega) (by omega)
  have HC1 := Lib.hid C1
  have C2 : ∀ (W : World) (s' : PS) (v' : Value), PP b W s' v' ib → Fr b w v W v' → s'.out.length + t.length ≤ 35184372088832 → Calls Tryz.prog 123 #[.pointer (some ⟨b, 0, none⟩), x] W (Wrote b W s' v' ib t) :=
    fun W s' v' hP hF hb => write_any hP x t (hx.step h hP hF).1 (Fits.room hb)
  have HC2 := Lib.hid C2
  clear C1 C2 h hh
  have HX := Lib.hid hx
  clear hx
  cases hm : s.fl.minus
  · have hp := HP.out
    rw [hm] at h4 hp
    rw [hp]
    have HM := Lib.hid hm
    clear hp hm
    go_enter Tryz.func122, Tryz.ntmps122
    go_wp2_with fail
    go_region_with (go_at_call 136; refine (HR.out _ (by first | exact (Only.refl _ _).drew | exact Only.refl _ _)).mono ?_; rintro e w' ⟨rfl, hO⟩; have hP' := (HH.out.drew).only (hO.only none) (fun _ _ _ he => by cases he); have g11 := hP'.c11; rw [HWD.out] at g11; have HP0 := Lib.hid hP'; have HO := Lib.hid hO; clear hP' hO)
    all_goals
      have g1 := HP0.out.c1
      have g4 := HP0.out.c4
      rw [HM.out] at g4
      have HFW := Lib.hid (((Fr.refl b w v).drew).only (HO.out.only none) (fun _ _ _ he => by cases he))
      go_wp2_with fail
      refine (HC1.out _ _ _ HP0.out rfl (by have := HL.out; omega)).mono ?_
      rintro e w1 ⟨rfl, v1, hP1, hF1⟩
      have g1 := hP1.c1
      have HP1 := Lib.hid hP1
      have HF1 := Lib.hid hF1
      clear hP1 hF1
      go_wp2_with fail
      refine (HC2.out _ _ _ HP1.out (HFW.out.trans HF1.out) (by have := HL.out; simp only [List.length_append, padding_length]; omega)).mono ?_
      rintro e w2 hW2
      have R2 := Wrote.append (HFW.out.trans HF1.out) hW2
      obtain ⟨rfl, hq⟩ := R2
      clear hW2
      go_wp2_with fail
      go_end0
      exact ⟨rfl, hq⟩
  · have hp := HP.out
    rw [hm] at h4 hp
    rw [hp]
    have HM := Lib.hid hm
    clear hp hm
    go_enter Tryz.func122, Tryz.ntmps122
    go_wp2_with fail
    go_region_with (go_at_call 136; refine (HR.out _ (by first | exact (Only.refl _ _).drew | exact Only.refl _ _)).mono ?_; rintro e w' ⟨rfl, hO⟩; have hP' := (HH.out.drew).only (hO.only none) (fun _ _ _ he => by cases he); have g11 := hP'.c11; rw [HWD.out] at g11; have HP0 := Lib.hid hP'; have HO := Lib.hid hO; clear hP' hO)
    all_goals
      have g1 := HP0.out.c1
      have g4 := HP0.out.c4
      rw [HM.out] at g4
      have HFW := Lib.hid (((Fr.refl b w v).drew).only (HO.out.only none) (fun _ _ _ he => by cases he))
      go_wp2_with fail
      refine (HC2.out _ _ _ HP0.out HFW.out (by have := HL.out; omega)).mono ?_
      rintro e w1 ⟨rfl, v1, hP1, hF1⟩
      have g1 := hP1.c1
      have HP1 := Lib.hid hP1
      have HF1 := Lib.hid hF1
      clear hP1 hF1
      go_wp2_with fail
      refine (HC1.out _ _ _ HP1.out rfl (by have := HL.out; show (s.out ++ t).length + d.toNat ≤ 35184372088832; rw [List.length_append]; omega)).mono ?_
      rintro e w2 hW2
      have R2 := Wrote.append (HFW.out.trans HF1.out) hW2
      obtain ⟨rfl, hq⟩ := R2
      clear hW2
      go_wp2_with fail
      go_end0
      exact ⟨rfl, hq⟩

theorem pad_any {b : Nat} {w : World} {s : PS} {v : Value} {ib : List Value} (h : PP b w s v ib) (x : Value) (t : Bytes) (hx : Held b w v x t) (hf : FlOk s.fl) (hl : Fits (s.out.length + t.length + s.fl.wid.toNat)) :
    Calls Tryz.prog 122 #[.pointer (some ⟨b, 1, none⟩), x] w (Wrote b w s v ib (padM s.fl t)) := by
  have hf1 := hf.1
  have hf2 := hf.2.1
  cases hw : s.fl.widP
  · exact pad_no h x t hx (.inl hw) (hl.le (by omega))
  · by_cases h0 : s.fl.wid = 0
    · exact pad_no h x t hx (.inr h0) (hl.le (by omega))
    · exact pad_yes h x t hx hw (by omega) hf2 hl

end Go.Proofs.YtcbliojofnigdaaGreatDoor
