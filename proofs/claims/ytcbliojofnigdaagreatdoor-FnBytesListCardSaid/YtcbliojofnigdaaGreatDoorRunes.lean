/- unicode/utf8.RuneCountInString and RuneCount: every string, every slice of bytes. -/
import Derived.Test.YtcbliojofnigdaaGreatDoorState
import Derived.Lib.RuneCountTail
import Derived.Laws.RangeString
import Derived.Laws.RangeAny
import Derived.Laws.BytesArg
import Derived.LoopTactic
namespace Go.Proofs.YtcbliojofnigdaaGreatDoor
open Go Go.Proofs Go.RowKit

/-- the world is as it was, or has one block more -/
def One (w w' : World) : Prop := w' = w ∨ ∃ o, w' = w.alloc o

set_option maxRecDepth 1000000 in
set_option maxHeartbeats 1000000 in
theorem RuneCountInString_any (s : ByteArray) (w : World) (hs : s.size < 4611686018427387904) :
    Calls Tryz.prog 105 #[.string s] w fun e w' => e = .returned (.int .i64 (Lib.runeCount s)) ∧ ∃ pos, w' = w.iter s pos := by
  go_enter Tryz.func105, Tryz.ntmps105
  go_wp2
  go_loopw [2] (fun n w' => ∃ (pos b acc : Nat), w' = w.iter s pos ∧ n = .int .i64 acc ∧ acc + Lib.runeCountFrom s b pos = Lib.runeCount s ∧ s.size ≤ pos + b ∧ acc ≤ pos) (fun _ w' => s.size - w'.iterPos w.heap.size)
  case atStart => exact ⟨0, s.size, 0, rfl, rfl, by simp [Lib.runeCount], by omega, Nat.le_refl _⟩
  case round =>
    obtain ⟨pos, b, acc, rfl, rfl, hc, hb, ha⟩ := hrel
    by_cases hp : pos < s.size
    · have hnx : ∀ ty, (Instr.next (.pointer (some ⟨w.heap.size, 0, none⟩)) true ty).run Tryz.prog (w.iter s pos) = _ := fun ty => run_next_any w s pos ty hp
      have hwd := Lib.decode_width_pos s pos hp
      go_wp2
      go_roundw
      case rel =>
        cases b with
        | zero => omega
        | succ b =>
          refine ⟨pos + (Utf8.decode s pos).2, b, acc + 1, rfl, by go_num, ?_, by omega, by omega⟩
          rw [← hc]
          simp [Lib.runeCountFrom, hp]
          omega
      case measure =>
        simp
        omega
    · have hnx : ∀ ty, (Instr.next (.pointer (some ⟨w.heap.size, 0, none⟩)) true ty).run Tryz.prog (w.iter s pos) = _ := fun ty => run_next_end w s pos ty hp
      go_wp2
      go_ret
      rw [Lib.runeCountFrom_end s b pos hp, Nat.add_zero] at hc
      subst hc
      exact ⟨rfl, _, rfl⟩

theorem strOfNums_bytes (t : ByteArray) : strOfNums (t.data.toList.map fun x => (x.toNat : Int)) = t := by
  cases t with
  | mk d =>
    have h : ∀ l : List UInt8, l.map ((fun n : Int => UInt8.ofNat n.toNat) ∘ fun x : UInt8 => (x.toNat : Int)) = l := by
      intro l
      induction l with
      | nil => rfl
      | cons x r ih => simp [ih]
    simp [strOfNums, h]

theorem runeCount_none (t : ByteArray) (h : t.size = 0) : Lib.runeCount t = 0 := by
  unfold Lib.runeCount
  rw [h]
  rfl

/-- a string of bytes -/
abbrev str (l : Bytes) : ByteArray := ⟨l.toArray⟩
theorem str_size (l : Bytes) : (str l).size = l.length := by simp [ByteArray.size]
theorem str_bytes (l : Bytes) : (str l).data.toList = l := by simp
theorem str_get! (l : Bytes) (j : Nat) (h : j < l.length) : (str l).get! j = l[j] := by
  show (l.toArray)[j]! = _
  simp [h]

set_option maxRecDepth 1000000 in
set_option maxHeartbeats 1000000 in
theorem RuneCount_some (s : ByteArray) (b off cap : Nat) (w : World) (hcap : s.size ≤ cap) (hp : ∀ j, j < s.size → w.cell? ⟨b, off + j, none⟩ = some (.int .u8 (s.get! j).toNat)) (hs : s.size < 4611686018427387904) :
    Calls Tryz.prog 136 #[.slice (some ⟨b, off, none⟩) s.size cap] w fun e w' => e = .returned (.int .i64 (Lib.runeCount s)) ∧ One w w' := by
  go_enter Tryz.func136, Tryz.ntmps136
  go_wp2
  go_loop [4] (fun n => ∃ k : Nat, k ≤ s.size ∧ n = .int .i64 k ∧ ∀ j, j < k → (s.get! j).toNat < 128) (fun n => s.size - (intOf n).toNat)
  case atStart => exact ⟨0, Nat.zero_le _, rfl, fun j hj => absurd hj (Nat.not_lt_zero _)⟩
  case round =>
    obtain ⟨k, hk, rfl, hasc⟩ := hrel
    by_cases hlt : k < s.size
    · have hcell := hp k hlt
      obtain ⟨y, hy⟩ : ∃ y, s.get! k = y := ⟨_, rfl⟩
      rw [hy] at hcell
      have hltz : (k : Int) < (s.size : Int) := by omega
      by_cases ha : y.toNat < 128
      · have haz : ¬ ((y.toNat : Int) ≥ 128) := by omega
        clear hp
        go_wp2
        go_round
        case rel =>
          refine ⟨k + 1, by omega, by go_num, fun j hj => ?_⟩
          by_cases hjk : j < k
          · exact hasc j hjk
          · have : j = k := by omega
            subst this
            rw [hy]; exact ha
        case measure => simp [intOf]; omega
      · have haz : (y.toNat : Int) ≥ 128 := by omega
        have hcv : ∀ c, (convert 26 9 (.slice (some ⟨b, off + k, none⟩) (s.size - k) c)).run Tryz.prog w = .ok (.string (s.extract k s.size)) w := fun c => by
          have := run_convert_bytes_arg (P := Tryz.prog) w 26 5 Tryz.underlying26 Tryz.underlying5 b (off + k) (s.size - k) c ((s.extract k s.size).data.toList.map fun x => (x.toNat : Int))
            (by rw [List.length_map, ← Lib.size_eq, Lib.tail_size])
            (fun i hi => by
              rw [Nat.add_assoc, hp (k + i) (by omega), ← Lib.tail_get!, ← Lib.getD_get!']
              generalize (s.extract k s.size).data.toList = l
              simp only [List.getD, List.getElem?_map]
              cases l[i]? <;> rfl)
            9 Tryz.underlying9
          rwa [strOfNums_bytes] at this
        have cR := RuneCountInString_any (s.extract k s.size) w (by rw [Lib.tail_size]; omega)
        have hsp := Lib.runeCount_split s k hk hasc
        have hle := Lib.runeCount_le (s.extract k s.size)
        rw [Lib.tail_size] at hle
        generalize Lib.runeCount (s.extract k s.size) = c at *
        clear hp
        go_wp2_with (first
          | (simp only)
          | (go_at_call 105; refine cR.mono ?_; rintro e w' ⟨rfl, pos, rfl⟩))
        go_ret
        refine ⟨?_, Or.inr ⟨_, rfl⟩⟩
        first | rfl | (rw [hsp]; go_num)
    · have hkk : k = s.size := by omega
      subst hkk
      have hge : ¬ ((s.size : Int) < (s.size : Int)) := by omega
      clear hp
      go_wp2
      go_ret
      refine ⟨?_, Or.inl rfl⟩
      rw [Lib.runeCount_split s s.size (Nat.le_refl _) hasc, runeCount_none _ (by rw [Lib.tail_size]; omega)]
      rfl

set_option maxRecDepth 1000000 in
set_option maxHeartbeats 1000000 in
theorem RuneCount_nil (w : World) : Calls Tryz.prog 136 #[.slice none 0 0] w fun e w' => e = .returned (.int .i64 0) ∧ One w w' := by
  go_enter Tryz.func136, Tryz.ntmps136
  go_wp2
  go_loop [4] (fun n => n = .int .i64 0) (fun n => 0)
  case atStart => rfl
  case round =>
    subst hrel
    go_wp2
    go_ret
    exact ⟨rfl, .inl rfl⟩

/-- how many runes bytes make -/
def runes (l : Bytes) : Nat := Lib.runeCount (str l)
theorem runes_le (l : Bytes) : runes l ≤ l.length := by
  have := Lib.runeCount_le (str l)
  rw [str_size] at this
  exact this

theorem RuneCount_any {w : World} {v : Value} {xs : Bytes} (h : RBuf w v xs) (hl : Room xs.length) :
    Calls Tryz.prog 136 #[v] w fun e w' => e = .returned (.int .i64 (runes xs)) ∧ One w w' := by
  have hl' : xs.length ≤ 140737488355328 := hl
  rcases h with ⟨rfl, rfl⟩ | ⟨b, o, c, cs, e, fr, rfl, hb, h1, h2, h3, h4⟩
  · exact RuneCount_nil w
  · have := RuneCount_some (str xs) b o c w (by rw [str_size]; exact h2) (fun j hj => by
      rw [str_size] at hj
      rw [str_get! _ _ hj]
      simp [World.cell?, hb, h4 j hj, u8]) (by rw [str_size]; omega)
    rw [str_size] at this
    exact this

theorem One.only {w w' : World} (h : One w w') (p : Option (Nat × Nat × Nat)) : Only p w w' := by
  rcases h with rfl | ⟨o, rfl⟩
  · exact Only.refl _ _
  · exact (Only.refl _ _).alloc o

end Go.Proofs.YtcbliojofnigdaaGreatDoor
