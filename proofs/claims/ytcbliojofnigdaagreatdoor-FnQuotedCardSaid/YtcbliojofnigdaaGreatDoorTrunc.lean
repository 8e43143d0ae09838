/- fmt.truncate and fmt.fmtBs: bytes up to the precision, filled up to the width. unicode/utf8.DecodeRune by its contract, at this program's numbers. -/
import Derived.Shelf.Spec.DecodeRune
import Derived.Test.YtcbliojofnigdaaGreatDoorFmtS
set_option linter.unusedVariables false
set_option linter.unusedSimpArgs false
namespace Go.Proofs.YtcbliojofnigdaaGreatDoor
open Go Go.Proofs Go.RowKit

def decRen : Go.Shelf.Ren := ⟨fun | 32 => 142 | 49 => 147 | n => n, fun | 30 => 26 | 21 => 21 | 3 => 3 | 0 => 0 | 5 => 5 | 4 => 4 | 33 => 138 | 66 => 190 | 25 => 88 | 69 => 193 | 68 => 192 | n => n, fun | 2 => 0 | 3 => 1 | n => n⟩
theorem decLays : Go.Proofs.Lays7.n32 Tryz.prog decRen := {
  mixed := by kernel_rfl
  f32 := Tryz.func142.trans (congrArg some (by kernel_rfl))
  f49 := Tryz.func147.trans (congrArg some (by kernel_rfl))
  t0 := Tryz.underlying0
  a0 := Tryz.isAgg0
  z0 := Tryz.sizeOf0
  v0 := Tryz.zeroValue0
  i0 := by kernel_rfl
  t3 := Tryz.underlying3
  a3 := Tryz.isAgg3
  z3 := Tryz.sizeOf3
  v3 := Tryz.zeroValue3
  i3 := by kernel_rfl
  t4 := Tryz.underlying4
  a4 := Tryz.isAgg4
  z4 := Tryz.sizeOf4
  v4 := Tryz.zeroValue4
  i4 := by kernel_rfl
  t5 := Tryz.underlying5
  a5 := Tryz.isAgg5
  z5 := Tryz.sizeOf5
  v5 := Tryz.zeroValue5
  i5 := by kernel_rfl
  t21 := Tryz.underlying21
  a21 := Tryz.isAgg21
  z21 := Tryz.sizeOf21
  v21 := Tryz.zeroValue21
  i21 := by kernel_rfl
  t25 := Tryz.underlying88
  a25 := Tryz.isAgg88
  z25 := Tryz.sizeOf88
  v25 := Tryz.zeroValue88
  i25 := by kernel_rfl
  t30 := Tryz.underlying26
  a30 := Tryz.isAgg26
  z30 := Tryz.sizeOf26
  v30 := Tryz.zeroValue26
  i30 := by kernel_rfl
  t33 := Tryz.underlying138
  a33 := Tryz.isAgg138
  z33 := Tryz.sizeOf138
  v33 := Tryz.zeroValue138
  i33 := by kernel_rfl
  t66 := Tryz.underlying190
  a66 := Tryz.isAgg190
  z66 := Tryz.sizeOf190
  t68 := Tryz.underlying192
  a68 := Tryz.isAgg192
  z68 := Tryz.sizeOf192
  v68 := Tryz.zeroValue192
  i68 := by kernel_rfl
  t69 := Tryz.underlying193
  a69 := Tryz.isAgg193
  z69 := Tryz.sizeOf193
  v69 := Tryz.zeroValue193
  i69 := by kernel_rfl
  g2 := by kernel_rfl
  g3 := by kernel_rfl }

theorem cell_lt {w : World} {k j : Nat} {v : Value} (h : w.cell? ⟨k, j, Option.none⟩ = some v) : k < w.heap.size := by
  by_cases hk : k < w.heap.size
  · exact hk
  · have : w.heap[k]? = Option.none := by simp; omega
    simp [World.cell?, this] at h
theorem Below.onlyNone {w w' : World} (h : Below w.heap.size w w') : Only Option.none w w' := ⟨h.os, h.tape, h.output, h.size, fun k hk _ => h.block k hk, fun _ _ _ _ _ _ he => by cases he⟩
/-- the two tables of unicode/utf8 -/
def Tabs (w : World) : Prop := Lib.Utf8Tabs 0 1 w
theorem Tabs.only {w w' : World} (h : Tabs w) (k : Only Option.none w w') : Tabs w' := by
  refine ⟨fun c hc => ?_, fun i hi => ?_⟩
  · have h1 := h.1 c hc
    rw [only_cellAt k (cell_lt h1) c]; exact h1
  · have h1 := h.2 i hi
    exact ⟨by rw [only_cellAt k (cell_lt h1.1)]; exact h1.1, by rw [only_cellAt k (cell_lt h1.2)]; exact h1.2⟩
theorem DecodeRune_any (s : ByteArray) (b off cap : Nat) (w : World) (hT : Tabs w) (hp : ∀ j, j < s.size → w.cell? ⟨b, off + j, none⟩ = some (.int .u8 (s.get! j).toNat)) :
    Calls Tryz.prog 142 #[.slice (some ⟨b, off, none⟩) s.size cap] w fun e w' => e = .returned (.tuple #[.int .i32 (Lib.decodeGo s).1, .int .i64 (Lib.decodeGo s).2]) ∧ Only Option.none w w' :=
  (Any7.utf8_DecodeRune decLays s b off cap w hT hp).mono fun _ _ h => ⟨h.1, Below.onlyNone h.2⟩

set_option maxRecDepth 100000 in
set_option maxHeartbeats 2000000 in
theorem truncate_some {b : Nat} {w : World} {s : PS} {v : Value} {ib : List Value} (h : PP b w s v ib) (k o c : Nat) (t : ByteArray) (hc : t.size ≤ c) (hcell : ∀ j, j < t.size → w.cell? ⟨k, o + j, none⟩ = some (.int .u8 (t.get! j).toNat)) (hs : t.size < 4611686018427387904) (hc2 : c ≤ 9223372036854775807) (hp : s.fl.precP = true → 0 ≤ s.fl.prec ∧ s.fl.prec ≤ 1000000) (hT : Tabs w) :
    Calls Tryz.prog 133 #[.pointer (some ⟨b, 1, none⟩), .slice (some ⟨k, o, none⟩) t.size c] w fun e w' => e = .returned (.slice (some ⟨k, o, none⟩) (truncB s.fl t.data.toList).length c) ∧ Only Option.none w w' := by
  have c3 := h.c3
  have c12 := h.c12
  have hblt := h.lt
  unfold truncB
  cases hpp : s.fl.precP with
  | false =>
    rw [hpp] at c3
    have e : (if (false : Bool) = true then firstB s.fl.prec.toNat t.data.toList else t.data.toList).length = t.size := (size_list t).symm
    rw [e]
    clear e h hp c12 hcell hT
    go_enter Tryz.func133, Tryz.ntmps133
    go_wp2
    go_ret
    exact ⟨rfl, Only.refl _ _⟩
  | true =>
    obtain ⟨p0, p1⟩ := hp hpp
    rw [hpp] at c3
    obtain ⟨m, hm⟩ := Int.eq_ofNat_of_zero_le p0
    rw [hm] at c12 p1
    rw [hm]
    obtain ⟨q, hq⟩ : ∃ q, q = after t m 0 := ⟨_, rfl⟩
    have e : (if (true : Bool) = true then firstB ((m : Int)).toNat t.data.toList else t.data.toList).length = min q t.size := by
      rw [if_pos rfl, Int.toNat_natCast]
      unfold firstB
      rw [str_eta, List.length_take, ← hq, ← size_list]
    rw [e]
    have HC := Lib.hid (And.intro hcell hT)
    have HQ := Lib.hid hq
    clear e h hp hm p0 hpp hcell hT hq
    go_enter Tryz.func133, Tryz.ntmps133
    go_wp2
    go_loopw [5, 6] (fun n i W => ∃ (pos k : Nat), Only Option.none w W ∧ i = .int .i64 pos ∧ n = .int .i64 ((m : Int) - k) ∧ pos ≤ t.size ∧ k ≤ m ∧ Hid (after t (m - k) pos = q)) (fun _ i _ => t.size - (intOf i).toNat)
    case atStart => exact ⟨0, 0, Only.refl _ _, rfl, by simp, Nat.zero_le _, Nat.zero_le _, HQ.out.symm⟩
    case round =>
      obtain ⟨pos, j, hO, rfl, rfl, hpos, hk, HR⟩ := hrel
      by_cases hlt : pos < t.size
      · have hwd := Lib.decode_width_pos t pos hlt
        have hwf := decode_fits t pos hlt
        obtain ⟨d, hd⟩ : ∃ d, d = (Utf8.decode t pos).2 := ⟨_, rfl⟩
        by_cases hkm : j < m
        · have C : Calls Tryz.prog 142 #[.slice (some ⟨k, o + pos, none⟩) (t.size - pos) (c - pos)] wr fun e w' => e = .returned (.tuple #[.int .i32 (Utf8.decode t pos).1, .int .i64 d]) ∧ Only Option.none w w' := by
            have hsz : (t.extract pos t.size).size = t.size - pos := by rw [ByteArray.size_extract]; omega
            have := DecodeRune_any (t.extract pos t.size) k (o + pos) (c - pos) wr (HC.out.2.only hO) (fun i hi => by
              rw [hsz] at hi
              have h1 := HC.out.1 (pos + i) (by omega)
              rw [get_ext, only_cellAt hO (cell_lt h1), Nat.add_assoc]
              exact h1)
            rw [hsz] at this
            have hg : Lib.decodeGo (t.extract pos t.size) = Utf8.decode t pos := by
              unfold Lib.decodeGo
              rw [if_neg (by rw [hsz]; omega), decode_ext]
            rw [hg] at this
            refine this.mono ?_
            rintro e w' ⟨he, h2⟩
            exact ⟨by rw [he, hd], hO.trans h2⟩
          rw [← hd] at hwd hwf
          have HCC := Lib.hid C
          have HD := Lib.hid hd
          clear C hd
          go_wp2_with (go_at_call 142; refine (HCC.out).mono ?_; rintro e w2 ⟨rfl, hO2⟩)
          go_roundw
          case rel =>
            refine ⟨pos + d, j + 1, hO2, by go_num, by go_num, hwf, by omega, ?_⟩
            show _ = _
            rw [← HR.out, show m - j = (m - (j + 1)) + 1 by omega, after_step t _ pos hlt, ← HD.out]
          case measure =>
            simp [intOf]
            omega
        · obtain rfl : j = m := by omega
          have e := HR.out
          rw [Nat.sub_self] at e
          have e2 : pos = q := e
          have HE := Lib.hid (show min q t.size = pos by omega)
          clear e HR e2 hd
          go_wp2
          go_ret
          exact ⟨by show Ending.returned (Value.slice (some ⟨k, o, none⟩) pos c) = _; rw [HE.out], hO⟩
      · have e := HR.out
        rw [after_end t _ _ hlt] at e
        have hps : pos = t.size := by omega
        have HE := Lib.hid (show min q t.size = t.size by omega)
        clear e HR
        go_wp2
        go_ret
        exact ⟨by show Ending.returned (Value.slice (some ⟨k, o, none⟩) t.size c) = _; rw [HE.out], hO⟩

set_option maxRecDepth 100000 in
set_option maxHeartbeats 2000000 in
theorem truncate_nil {b : Nat} {w : World} {s : PS} {v : Value} {ib : List Value} (h : PP b w s v ib) :
    Calls Tryz.prog 133 #[.pointer (some ⟨b, 1, none⟩), .slice none 0 0] w fun e w' => e = .returned (.slice none 0 0) ∧ Only Option.none w w' := by
  have c3 := h.c3
  have c12 := h.c12
  have hblt := h.lt
  cases hpp : s.fl.precP with
  | false =>
    rw [hpp] at c3
    clear h c12
    go_enter Tryz.func133, Tryz.ntmps133
    go_wp2
    go_ret
    exact ⟨rfl, Only.refl _ _⟩
  | true =>
    rw [hpp] at c3
    clear h
    go_enter Tryz.func133, Tryz.ntmps133
    go_wp2
    refine wp_loop_rounds 1 ?_
    rw [rounds_succ]
    go_wp2
    try rw [Exit.noGoto_ret]
    go_ret
    exact ⟨rfl, Only.refl _ _⟩

theorem truncB_take (f : Fl) (t : Bytes) : t.take (truncB f t).length = truncB f t := by
  unfold truncB firstB
  split
  · rw [List.length_take]
    by_cases h : after (str t) f.prec.toNat 0 ≤ t.length
    · rw [Nat.min_eq_left h]
    · rw [Nat.min_eq_right (by omega), List.take_length, List.take_of_length_le (by omega)]
  · rw [List.take_length]
theorem Out.take {b : Nat} {w : World} {v : Value} {k o n c : Nat} {t : Bytes} (h : Out b w v (.slice (some ⟨k, o, none⟩) n c) t) (m : Nat) (hm : m ≤ n) : Out b w v (.slice (some ⟨k, o, none⟩) m c) (t.take m) := by
  refine ⟨?_, fun k' o' c' hp => ?_⟩
  · have := h.1.part 0 m (by omega)
    simpa using this
  · cases hp
    exact h.2 k o c rfl
theorem truncate_any {b : Nat} {w : World} {s : PS} {v : Value} {ib : List Value} (h : PP b w s v ib) (x : Value) (t : Bytes) (hx : Out b w v x t) (hp : s.fl.precP = true → 0 ≤ s.fl.prec ∧ s.fl.prec ≤ 1000000) (hT : Tabs w) (hs : t.length < 4611686018427387904) :
    Calls Tryz.prog 133 #[.pointer (some ⟨b, 1, none⟩), x] w fun e w' => ∃ y, e = .returned y ∧ Only Option.none w w' ∧ Out b w v y (truncB s.fl t) := by
  have hx1 := hx.1
  rcases hx1 with ⟨rfl, rfl⟩ | ⟨k, o, c, cs, e, fr, rfl, hbb, h1, h2, h3, h4⟩
  · refine (truncate_nil h).mono ?_
    rintro e w' ⟨rfl, hO⟩
    have e0 : truncB s.fl [] = [] := List.eq_nil_of_length_eq_zero (Nat.le_zero.1 (truncB_len s.fl []))
    rw [e0]
    exact ⟨_, rfl, hO, hx⟩
  · have hm : maxLen = 9223372036854775807 := rfl
    have := truncate_some h k o c (str t) (by rw [str_size]; exact h2) (fun j hj => by
      rw [str_size] at hj
      rw [str_get! _ _ hj]
      exact hx.1.cell hj) (by rw [str_size]; exact hs) (by omega) hp hT
    rw [str_size, str_bytes] at this
    refine this.mono ?_
    rintro e w' ⟨rfl, hO⟩
    refine ⟨_, rfl, hO, ?_⟩
    have := hx.take (truncB s.fl t).length (truncB_len s.fl t)
    rw [truncB_take] at this
    exact this

set_option maxRecDepth 100000 in
set_option maxHeartbeats 1000000 in
theorem fmtBs_any {b : Nat} {w : World} {s : PS} {v : Value} {ib : List Value} (h : PP b w s v ib) (x : Value) (t : Bytes) (hx : Out b w v x t) (hf : FlOk s.fl) (hp : s.fl.precP = true → 0 ≤ s.fl.prec ∧ s.fl.prec ≤ 1000000) (hT : Tabs w) (hl : Fits (s.out.length + t.length + s.fl.wid.toNat)) :
    Calls Tryz.prog 117 #[.pointer (some ⟨b, 1, none⟩), x] w (Wrote b w s v ib (padM s.fl (truncB s.fl t))) := by
  have hlt := truncB_len s.fl t
  have C133 := truncate_any h x t hx hp hT (by have : s.out.length + t.length + s.fl.wid.toNat ≤ 35184372088832 := hl; omega)
  have C122 : ∀ W y, Only Option.none w W → Out b w v y (truncB s.fl t) → Calls Tryz.prog 122 #[.pointer (some ⟨b, 1, none⟩), y] W (Wrote b w s v ib (padM s.fl (truncB s.fl t))) := by
    intro W y hO hy
    have hF : Fr b w v W v := (Fr.refl b w v).only hO (fun _ _ _ he => by cases he)
    refine (pad_any (h.only hO (fun _ _ _ he => by cases he)) y _ (hy.step hF).held hf (hl.le (by omega))).mono ?_
    rintro e w' ⟨he, v', h1, h2⟩
    exact ⟨he, v', h1, hF.trans h2⟩
  have H133 := Lib.hid C133
  have H122 := Lib.hid C122
  clear C133 C122 hlt hx hT hl hp hf h
  go_enter Tryz.func117, Tryz.ntmps117
  go_wp2_with (first
    | (go_at_call 133; refine (H133.out).mono ?_; rintro e w1 ⟨y, rfl, hO1, hy⟩; have HY := Lib.hid (And.intro hO1 hy); clear hO1 hy)
    | (go_at_call 122; refine (H122.out _ _ HY.out.1 HY.out.2).mono ?_; rintro e w2 ⟨rfl, hq⟩; have HQ := Lib.hid hq; clear hq))
  go_end0
  exact ⟨rfl, HQ.out⟩

end Go.Proofs.YtcbliojofnigdaaGreatDoor
