/- pp.fmtBytes by the verbs d and v, no flags; printArg of bytes by them. -/
import Derived.Test.YtcbliojofnigdaaGreatDoorPaInt
import Derived.LoopTactic
namespace Go.Proofs.YtcbliojofnigdaaGreatDoor
open Go Go.Proofs Go.RowKit

def decC (c : UInt8) : Bytes := digits 10 false 64 c.toNat
/-- the numbers of some bytes, spaces between -/
def nums : Bytes → Bytes
  | [] => []
  | c :: r => decC c ++ r.flatMap fun c => 32 :: decC c
theorem nums_snoc (t : Bytes) (c : UInt8) : nums (t ++ [c]) = nums t ++ ((if t = [] then [] else [32]) ++ decC c) := by
  cases t with
  | nil => simp [nums]
  | cons d r => simp [nums]
theorem nums_take (t : Bytes) (j : Nat) (h : j < t.length) : nums (t.take (j + 1)) = nums (t.take j) ++ ((if j = 0 then [] else [32]) ++ decC t[j]) := by
  rw [List.take_succ_eq_append_getElem h, nums_snoc]
  congr 2
  cases j with
  | zero => simp
  | succ j =>
    rw [if_neg, if_neg (by omega)]
    intro e
    have := congrArg List.length e
    simp only [List.length_take, List.length_nil] at this
    omega
theorem nums_le (t : Bytes) (j : Nat) : (nums (t.take j)).length ≤ (nums t).length := by
  by_cases h : j ≤ t.length
  · obtain ⟨m, hm⟩ : ∃ m, t.length = j + m := ⟨t.length - j, by omega⟩
    have key : ∀ m, j + m ≤ t.length → (nums (t.take j)).length ≤ (nums (t.take (j + m))).length := by
      intro m
      induction m with
      | zero => intro _; exact Nat.le_refl _
      | succ m ih =>
        intro hm
        have := ih (by omega)
        rw [show j + (m + 1) = (j + m) + 1 by omega, nums_take t (j + m) (by omega)]
        simp only [List.length_append]
        omega
    have := key m (by omega)
    rw [← hm, List.take_length] at this
    exact this
  · rw [List.take_of_length_le (by omega)]
    exact Nat.le_refl _
theorem decC_len (c : UInt8) : (decC c).length ≤ 3 := digits_len 10 false (by decide) 2 64 c.toNat (Nat.lt_of_lt_of_le c.toNat_lt (by decide))
theorem nums_len (t : Bytes) : (nums t).length ≤ 4 * t.length := by
  have key : ∀ j, j ≤ t.length → (nums (t.take j)).length ≤ 4 * j := by
    intro j
    induction j with
    | zero => intro _; simp [nums]
    | succ j ih =>
      intro hj
      have := ih (by omega)
      have h3 := decC_len t[j]
      rw [nums_take t j (by omega)]
      simp only [List.length_append]
      split <;> simp only [List.length_nil, List.length_cons] <;> omega
  have := key t.length (Nat.le_refl _)
  rw [List.take_length] at this
  exact this

/-- nothing asked for -/
def Plain (f : Fl) : Prop := f.widP = false ∧ f.precP = false ∧ f.plus = false ∧ f.space = false ∧ f.sharp = false ∧ f.sharpV = false
theorem fmtIntM_plain (f : Fl) (h : Plain f) (n : Nat) (verb : Int) (hv : verb ≠ 79) : fmtIntM f n false 10 verb false = digits 10 false 64 n := by
  obtain ⟨h1, h2, h3, h4, h5, _⟩ := h
  unfold fmtIntM padM
  rw [if_neg (by rw [h2]; simp), if_pos (by left; exact h1)]
  unfold intBody intSign intO intPrec
  rw [h2, h3, h4, h5, h1]
  simp [hv, intZeros]

set_option maxRecDepth 100000 in
set_option maxHeartbeats 4000000 in
theorem fmtBytes_some {b : Nat} {w : World} {s : PS} {v : Value} {ib : List Value} (h : PP b w s v ib) (k o c : Nat) (t : Bytes) (hx : Out b w v (.slice (some ⟨k, o, none⟩) t.length c) t) (r : Int) (hr : r = 118 ∨ r = 100) (nm : ByteArray) (hpl : Plain s.fl) (hf : FlOk s.fl) (hl : Fits (s.out.length + ((nums t).length + 2) + 1000000000)) :
    Calls Tryz.prog 96 #[.pointer (some ⟨b, 0, none⟩), .slice (some ⟨k, o, none⟩) t.length c, .int .i32 r, .string nm] w (WroteI b w s v (91 :: (nums t ++ [93]))) := by
  have c10 := h.c10
  have hblt := h.lt
  rw [hpl.2.2.2.2.2] at c10
  have hmax : t.length ≤ 9223372036854775807 := by
    obtain ⟨a, c', e, h1, h2⟩ := hx.1.slice
    have : maxLen ≤ 9223372036854775807 := by decide
    cases e
    omega
  have C1 := writeByte_any h 91 (by decide) (by decide) (hl.le (by omega)).room
  have C83 : ∀ (c : Int) (cb : UInt8), B c = cb → 0 ≤ c → c ≤ 255 → ∀ (W : World) (j : Nat) (z : Bytes) (v' : Value) (ib' : List Value), z.length ≤ 4 → PP b W { s with out := s.out ++ 91 :: (nums (t.take j) ++ z) } v' ib' → Calls Tryz.prog 83 #[.pointer (some ⟨b, 0, none⟩), .int .u8 c] W (Wrote b W { s with out := s.out ++ 91 :: (nums (t.take j) ++ z) } v' ib' [cb]) :=
    fun c cb hcb h0 h1 W j z v' ib' hz hP => hcb ▸ writeByte_any hP c h0 h1 (hl.le (by have := nums_le t j; simp only [List.length_append, List.length_cons]; omega)).room
  have C111 : ∀ (W : World) (j : Nat) (z : Bytes) (v' : Value) (ib' : List Value) (n : Nat), n ≤ 255 → (nums (t.take j)).length + z.length ≤ (nums t).length → PP b W { s with out := s.out ++ 91 :: (nums (t.take j) ++ z) } v' ib' → Calls Tryz.prog 111 #[.pointer (some ⟨b, 1, none⟩), .int .u64 n, .int .i64 10, .bool false, .int .i32 r, .string ⟨#[48, 49, 50, 51, 52, 53, 54, 55, 56, 57, 97, 98, 99, 100, 101, 102, 120]⟩] W (WroteI b W { s with out := s.out ++ 91 :: (nums (t.take j) ++ z) } v' (digits 10 false 64 n)) := by
    intro W j z v' ib' n hn hz hP
    have := fmtInteger_any hP hf n (by omega) (by omega) 10 (by decide) false r (by rcases hr with rfl | rfl <;> decide) false (hl.le (by simp only [List.length_append, List.length_cons]; omega))
    have e : fmtIntM s.fl (absU false n) (negU false n) 10 r false = digits 10 false 64 n := fmtIntM_plain s.fl hpl n r (by rcases hr with rfl | rfl <;> decide)
    rw [e] at this
    exact this
  have HC1 := Lib.hid C1
  have H83 := Lib.hid C83
  have H111 := Lib.hid C111
  have HX := Lib.hid hx
  clear C1 C83 C111 hx hl hf hpl h
  rcases hr with rfl | rfl
  all_goals
    go_enter Tryz.func96, Tryz.ntmps96
    go_wp2_with (go_at_call 83; refine (HC1.out).mono ?_; rintro e w1 ⟨rfl, v1, hP1, hF1⟩; have H1 := Lib.hid (And.intro hP1 hF1); clear hP1 hF1)
    go_loopw [69] (fun i W => ∃ j : Nat, i = .int .i64 j ∧ j ≤ t.length ∧ Hid (∃ v' ib', PP b W { s with out := s.out ++ 91 :: nums (t.take j) } v' ib' ∧ Fr b w v W v')) (fun i _ => t.length - (intOf i).toNat)
    case atStart => exact ⟨0, rfl, Nat.zero_le _, v1, ib, H1.out.1, H1.out.2⟩
    case round =>
      obtain ⟨j, rfl, hj, HS⟩ := hrel
      by_cases hlt : j < t.length
      · obtain ⟨v2, ib2, hP2, hF2⟩ := HS.out
        obtain ⟨n, hn⟩ : ∃ n, n = (t[j]).toNat := ⟨_, rfl⟩
        have hn255 : n ≤ 255 := by have := (t[j]).toNat_lt; omega
        have hcell : wr.cell? ⟨k, o + j, none⟩ = some (.int .u8 n) := by
          rw [(HX.out.step hF2).1.cell hlt, hn]
          rfl
        have hnx := nums_take t j hlt
        have hdc : decC t[j] = digits 10 false 64 n := by rw [hn]; rfl
        rw [hdc] at hnx
        clear hdc hn
        by_cases hj0 : j = 0
        · subst hj0
          rw [Nat.add_zero] at hcell
          rw [if_pos rfl, List.nil_append] at hnx
          have C := H111.out _ 0 [] v2 ib2 n hn255 (by have := nums_le t 0; simpa using this) (by rw [List.append_nil]; exact hP2)
          rw [List.append_nil] at C
          have HC := Lib.hid C
          have HN := Lib.hid hnx
          have HF2 := Lib.hid hF2
          clear C hnx hP2 hF2
          go_wp2_with (go_at_call 111; refine (HC.out).mono ?_; rintro e w3 ⟨rfl, v3, ib3, hP3, hF3⟩; have H3 := Lib.hid (And.intro hP3 hF3); clear hP3 hF3)
          go_roundw
          case rel =>
            refine ⟨1, rfl, by omega, v3, ib3, ?_, HF2.out.trans H3.out.2⟩
            have := H3.out.1
            rw [HN.out]
            simpa using this
          case measure => simp [intOf]; omega
        · rw [if_neg hj0] at hnx
          have hz32 := Lib.hid (show (nums (t.take j)).length + ([32] : Bytes).length ≤ (nums t).length from by have := nums_le t (j + 1); rw [hnx] at this; simp only [List.length_append, List.length_cons, List.length_nil] at this ⊢; omega)
          have hj1 : (0 : Int) < j := by omega
          have C := H83.out 32 32 rfl (by decide) (by decide) _ j [] v2 ib2 (by simp) (by rw [List.append_nil]; exact hP2)
          rw [List.append_nil] at C
          have HC := Lib.hid C
          have HN := Lib.hid hnx
          have HF2 := Lib.hid hF2
          clear C hnx hP2 hF2
          go_wp2_with (go_at_call 83; refine (HC.out).mono ?_; rintro e w3 ⟨rfl, v3, hP3, hF3⟩; have hP3' : PP b w3 { s with out := s.out ++ 91 :: (nums (t.take j) ++ [32]) } v3 ib2 := (by simpa using hP3); have C' := H111.out w3 j [32] v3 ib2 n hn255 hz32.out hP3'; have HC' := Lib.hid C'; have HF3 := Lib.hid hF3; clear C' hP3 hP3' hF3)
          go_wp2_with (go_at_call 111; refine (HC'.out).mono ?_; rintro e w4 ⟨rfl, v4, ib4, hP4, hF4⟩; have H4 := Lib.hid (And.intro hP4 hF4); clear hP4 hF4)
          go_roundw
          case rel =>
            refine ⟨j + 1, rfl, by omega, v4, ib4, ?_, (HF2.out.trans HF3.out).trans H4.out.2⟩
            have := H4.out.1
            rw [HN.out]
            simpa using this
          case measure => simp [intOf]; omega
      · obtain rfl : j = t.length := by omega
        obtain ⟨v2, ib2, hP2, hF2⟩ := HS.out
        have C := H83.out 93 93 rfl (by decide) (by decide) _ t.length [] v2 ib2 (by simp) (by rw [List.append_nil]; exact hP2)
        rw [List.append_nil, List.take_length] at C
        have HC := Lib.hid C
        have HF2 := Lib.hid hF2
        clear C hP2 hF2 HS
        go_wp2_with (go_at_call 83; refine (HC.out).mono ?_; rintro e w3 ⟨rfl, v3, hP3, hF3⟩; have H3 := Lib.hid (And.intro hP3 hF3); clear hP3 hF3)
        go_end0
        refine ⟨rfl, v3, ib2, ?_, HF2.out.trans H3.out.2⟩
        have := H3.out.1
        simpa using this

set_option maxRecDepth 100000 in
set_option maxHeartbeats 1000000 in
theorem fmtBytes_nil {b : Nat} {w : World} {s : PS} {v : Value} {ib : List Value} (h : PP b w s v ib) (r : Int) (hr : r = 118 ∨ r = 100) (nm : ByteArray) (hpl : Plain s.fl) (hl : Fits (s.out.length + 2 + 1000000000)) :
    Calls Tryz.prog 96 #[.pointer (some ⟨b, 0, none⟩), .slice none 0 0, .int .i32 r, .string nm] w (WroteI b w s v [91, 93]) := by
  have c10 := h.c10
  have hblt := h.lt
  rw [hpl.2.2.2.2.2] at c10
  have C1 := writeByte_any h 91 (by decide) (by decide) (hl.le (by omega)).room
  have C2 : ∀ (W : World) (v' : Value), PP b W { s with out := s.out ++ [91] } v' ib → Calls Tryz.prog 83 #[.pointer (some ⟨b, 0, none⟩), .int .u8 93] W (Wrote b W { s with out := s.out ++ [91] } v' ib [93]) :=
    fun W v' hP => writeByte_any hP 93 (by decide) (by decide) (hl.le (by simp only [List.length_append, List.length_cons, List.length_nil]; omega)).room
  have HC1 := Lib.hid C1
  have HC2 := Lib.hid C2
  clear C1 C2 hl hpl h
  rcases hr with rfl | rfl
  all_goals
    go_enter Tryz.func96, Tryz.ntmps96
    go_wp2_with (go_at_call 83; refine (HC1.out).mono ?_; rintro e w1 ⟨rfl, v1, hP1, hF1⟩; have C := HC2.out _ _ hP1; have HC := Lib.hid C; have HF1 := Lib.hid hF1; clear hP1 hF1 C HC1)
    refine wp_loop_rounds 1 ?_
    rw [rounds_succ]
    go_wp2_with (go_at_call 83; refine (HC.out).mono ?_; rintro e w2 ⟨rfl, v2, hP2, hF2⟩)
    go_end0
    refine ⟨rfl, v2, ib, ?_, HF1.out.trans hF2⟩
    simpa using hP2

set_option maxRecDepth 100000 in
set_option maxHeartbeats 1000000 in
theorem printArg_26 {b : Nat} {w : World} {s : PS} {v : Value} (u : Value) (r : Int) (hv1 : ¬ r = 84) (hv2 : ¬ r = 112) {T : Bytes} (C : ∀ nm : ByteArray, Calls Tryz.prog 96 #[.pointer (some ⟨b, 0, none⟩), u, .int .i32 r, .string nm] w (WroteI b w s v T)) :
    Calls Tryz.prog 78 #[.pointer (some ⟨b, 0, none⟩), .iface 26 u, .int .i32 r] w (WroteI b w s v T) := by
  have q4 := ta_26_4
  have q149 := ta_26_149
  have q151 := ta_26_151
  have q152 := ta_26_152
  have q154 := ta_26_154
  have q3 := ta_26_3
  have q83 := ta_26_83
  have q84 := ta_26_84
  have q21 := ta_26_21
  have q2 := ta_26_2
  have q88 := ta_26_88
  have q5 := ta_26_5
  have q156 := ta_26_156
  have q53 := ta_26_53
  have q22 := ta_26_22
  have q12 := ta_26_12
  have q9 := ta_26_9
  have q26 := ta_26_26
  have HC := Lib.hid C
  clear C
  go_enter Tryz.func78, Tryz.ntmps78
  go_wp2_with (go_at_call 96; refine (HC.out _).mono ?_; rintro e w' ⟨rfl, hq⟩)
  go_end0
  exact ⟨rfl, hq⟩

instance (f : Fl) : Decidable (Plain f) := by unfold Plain; infer_instance
/-- what printArg writes of bytes by the verbs d and v, nothing asked for -/
def paBy (a : Arg) (r : Int) (f : Fl) : Option Bytes :=
  match a with
  | .bytes t => if (r = 118 ∨ r = 100) ∧ Plain f then some (91 :: (nums t ++ [93])) else none
  | _ => none
theorem paBy_ok (b : Nat) (t : Bytes) : PaOk b paBy (.bytes t) := by
  intro w s v ib x r u hP _ hf hA _ _ hp hl
  unfold paBy at hp
  simp only at hp
  split at hp
  · rename_i hc
    cases hp
    obtain ⟨u, rfl, hO⟩ := hA
    refine printArg_26 u r (by rcases hc.1 with h | h <;> omega) (by rcases hc.1 with h | h <;> omega) fun nm => ?_
    have hlen : (91 :: (nums t ++ [93]) : Bytes).length = (nums t).length + 2 := by simp
    rw [hlen] at hl
    have hO' := hO
    rcases hO'.1 with ⟨rfl, rfl⟩ | ⟨k, o, c, cs, e, fr, rfl, _⟩
    · exact fmtBytes_nil hP r hc.1 nm hc.2 (hl.le (Nat.add_le_add_right (Nat.add_le_add_left (Nat.le_add_left _ _) _) _))
    · exact fmtBytes_some hP k o c t hO r hc.1 nm hc.2 hf hl
  · cases hp

end Go.Proofs.YtcbliojofnigdaaGreatDoor
