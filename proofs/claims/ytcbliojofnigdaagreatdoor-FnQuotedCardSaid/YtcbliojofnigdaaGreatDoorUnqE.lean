/- spec.escape at what strconv's quoting writes of a code point or of a bad byte; what it writes as it is. -/
import Derived.Test.YtcbliojofnigdaaGreatDoorUnq1
import Derived.Test.YtcbliojofnigdaaGreatDoorUnq2
import Derived.Test.YtcbliojofnigdaaGreatDoorUnqM
import Derived.Test.YtcbliojofnigdaaGreatDoorWidthAny
import Derived.Test.YtcbliojofnigdaaGreatDoorQuo3
set_option linter.unusedVariables false
set_option linter.unusedSimpArgs false
namespace Go.Proofs.YtcbliojofnigdaaGreatDoor
open Go Go.Proofs Go.RowKit

theorem get_at {I : ByteArray} {l : Bytes} (h : I.data.toList = l) (i : Nat) (b : UInt8) (hb : l[i]? = some b) : I.get! i = b := by
  subst h
  cases I with
  | mk d =>
    rw [Array.getElem?_toList] at hb
    obtain ⟨hi, he⟩ := Array.getElem?_eq_some_iff.mp hb
    show d[i]! = b
    rw [getElem!_pos d i hi, he]
theorem size_at {I : ByteArray} {l : Bytes} (h : I.data.toList = l) : I.size = l.length := by
  rw [← h, Array.length_toList]
  rfl
theorem hexDigit_rng (d : Nat) (h : d < 16) : 0 ≤ Lib.hexDigit d ∧ Lib.hexDigit d ≤ 255 := by
  unfold Lib.hexDigit
  split <;> omega
theorem hexDigit_toNat (d : Nat) (h : d < 16) : ((B (Lib.hexDigit d)).toNat : Int) = Lib.hexDigit d := B_toNat (hexDigit_rng d h).1 (hexDigit_rng d h).2
theorem hexDigits_get (r : Nat) : ∀ (n i : Nat), i < n → (Lib.hexDigits r n)[i]? = some (Lib.hexDigit (r / 16 ^ (n - 1 - i) % 16))
  | 0, i, h => by omega
  | n + 1, 0, h => by simp [Lib.hexDigits]
  | n + 1, i + 1, h => by
    simp only [Lib.hexDigits, List.getElem?_cons_succ]
    rw [hexDigits_get r n i (by omega), show n + 1 - 1 - (i + 1) = n - 1 - i by omega]
theorem hexDigits_len (r : Nat) : ∀ n, (Lib.hexDigits r n).length = n
  | 0 => rfl
  | n + 1 => by simp [Lib.hexDigits, hexDigits_len r n]

/-- the bytes that the first code point takes up -/
def heads (t : ByteArray) : Bytes := t.data.toList.take (Utf8.decode t 0).2
def EscTo (T : Lib.PrintTabs) (rest : ByteArray) (w : World) (e : Ending) (w' : World) : Prop :=
  e = .returned (.tuple #[.string ⟨(heads rest).toArray⟩, .int .i64 ((Lib.quoteStep T rest).length : Int)]) ∧ Only none w w'

theorem list_arr (l : Bytes) : (⟨l.toArray⟩ : ByteArray).data.toList = l := by simp
theorem ext_one (s : ByteArray) (b : UInt8) (hs : 1 < s.size) (hb : s.get! 1 = b) : s.extract 1 2 = ⟨#[b]⟩ := by
  apply ByteArray.ext
  rw [ByteArray.data_extract]
  apply Array.ext
  · rw [Array.size_extract]
    have : s.data.size = s.size := rfl
    simp
    omega
  · intro i h1 h2
    have h3 : i = 0 := by simp at h2; omega
    subst h3
    rw [Array.getElem_extract]
    rw [← hb]
    cases s with
    | mk d => exact (getElem!_pos d 1 hs).symm

theorem low_shape (t : ByteArray) (h : 0 < t.size) (hr : (Utf8.decode t 0).1 < 128) : (Utf8.decode t 0).2 = 1 ∧ (t.get! 0).toNat = (Utf8.decode t 0).1 := by
  have e1 := Lib.decode_at t 0
  rw [e1] at hr ⊢
  generalize (t.get! 0).toNat = b0 at *
  generalize (t.get! (0+1)).toNat = b1 at *
  generalize (t.get! (0+2)).toNat = b2 at *
  generalize (t.get! (0+3)).toNat = b3 at *
  rcases Lib.decodeN_shape (t.size - 0) b0 b1 b2 b3 with ⟨h0, hd⟩ | ⟨h0, h1, h2, h3, hd⟩ | ⟨h0, h1, h2, h3, h4, h5, hd⟩ | ⟨h0, h1, h2, h3, h4, h5, h6, hd⟩ | hd <;> rw [hd] at hr ⊢
  · exact ⟨rfl, rfl⟩
  · exfalso; simp only at hr; omega
  · exfalso; simp only at hr; omega
  · exfalso; simp only at hr; omega
  · exfalso; simp only at hr; omega
theorem one_shape (t : ByteArray) (h : 0 < t.size) (hK : (Utf8.decode t 0).2 = 1) (hv : ¬ (Utf8.decode t 0).1 = 65533) : (t.get! 0).toNat < 128 ∧ (Utf8.decode t 0).1 < 128 := by
  have e1 := Lib.decode_at t 0
  rw [e1] at hK hv ⊢
  generalize (t.get! 0).toNat = b0 at *
  generalize (t.get! (0+1)).toNat = b1 at *
  generalize (t.get! (0+2)).toNat = b2 at *
  generalize (t.get! (0+3)).toNat = b3 at *
  rcases Lib.decodeN_shape (t.size - 0) b0 b1 b2 b3 with ⟨h0, hd⟩ | ⟨h0, h1, h2, h3, hd⟩ | ⟨h0, h1, h2, h3, h4, h5, hd⟩ | ⟨h0, h1, h2, h3, h4, h5, h6, hd⟩ | hd <;> rw [hd] at hK hv ⊢
  · exact ⟨by omega, by show b0 < 128; omega⟩
  · simp only at hK; omega
  · simp only at hK; omega
  · simp only at hK; omega
  · exact absurd rfl hv

theorem take_one (t : ByteArray) (h : 0 < t.size) : t.data.toList.take 1 = [t.get! 0] := by
  cases t with
  | mk d =>
    have hd : 0 < d.size := h
    apply List.ext_getElem
    · simp; omega
    · intro i h1 h2
      have : i = 0 := by simp at h2; omega
      subst this
      simp only [List.getElem_take, Array.getElem_toList, List.getElem_cons_zero]
      exact (getElem!_pos d 0 hd).symm

theorem B_self (b : UInt8) : B (b.toNat : Int) = b := by
  unfold B
  simp

theorem heads_bad (t : ByteArray) (h : 0 < t.size) (hK : (Utf8.decode t 0).2 = 1) : heads t = [B ((t.get! 0).toNat : Int)] := by
  unfold heads
  rw [hK, take_one t h, B_self]
theorem heads_good (t : ByteArray) (h : 0 < t.size) (hv : ¬ ((Utf8.decode t 0).2 = 1 ∧ (Utf8.decode t 0).1 = 65533)) : heads t = encB ((Utf8.decode t 0).1 : Int) := (dec_take t h hv).symm
theorem heads_low (t : ByteArray) (h : 0 < t.size) (hr : (Utf8.decode t 0).1 < 128) : heads t = [B ((Utf8.decode t 0).1 : Int)] := by
  have := low_shape t h hr
  rw [heads_bad t h this.1, this.2]

theorem encB_head (r : Int) (h : 128 ≤ r) : ∃ b l, encB r = b :: l ∧ 128 ≤ b.toNat := by
  unfold encB Lib.encodeRuneZ
  rw [if_neg (by omega)]
  have key : ∀ x : Int, 128 ≤ x → x ≤ 255 → 128 ≤ (B x).toNat := by
    intro x h0 h1
    have := B_toNat (c := x) (by omega) h1
    omega
  repeat' split
  · exact ⟨_, _, rfl, key _ (by omega) (by omega)⟩
  · exact ⟨_, _, rfl, key _ (by omega) (by omega)⟩
  · exact ⟨_, _, rfl, key _ (by omega) (by omega)⟩
  · exact ⟨_, _, rfl, key _ (by omega) (by omega)⟩

/-- what is written of a code point stands as it is, or begins with a backslash and is read back -/
theorem step_cases (T : Lib.PrintTabs) (rest : ByteArray) (h0 : 0 < rest.size) :
    ((Lib.quoteStep T rest).map B = heads rest ∧ ¬ ((Utf8.decode rest 0).2 = 1 ∧ (Utf8.decode rest 0).1 = 65533) ∧ (∃ b l, heads rest = b :: l ∧ b ≠ 34 ∧ b ≠ 92 ∧ b ≠ 10 ∧ ((Utf8.decode rest 0).2 = 1 → b.toNat < 128))) ∨
    ((∃ l, (Lib.quoteStep T rest).map B = 92 :: l) ∧ ∀ (I : ByteArray) (Z : Bytes) (w : World), I.data.toList = (Lib.quoteStep T rest).map B ++ Z → Calls Tryz.prog 57 #[.string I, .int .u8 34] w (EscTo T rest w)) := by
  by_cases hbad : (Utf8.decode rest 0).2 = 1 ∧ (Utf8.decode rest 0).1 = 65533
  · have hS : Lib.quoteStep T rest = [92, 120, Lib.hexDigit ((rest.get! 0).toNat / 16), Lib.hexDigit ((rest.get! 0).toNat % 16)] := by
      unfold Lib.quoteStep
      rw [if_pos hbad]
    have hb := UInt8.toNat_lt (rest.get! 0)
    refine .inr ⟨⟨_, by rw [hS]; rfl⟩, fun I Z w hI => ?_⟩
    unfold EscTo
    rw [hS, heads_bad rest h0 hbad.1]
    rw [hS] at hI
    have hsz := size_at hI
    simp only [List.map_cons, List.map_nil, List.cons_append, List.nil_append, List.length_cons] at hI hsz
    refine (esch_120 I (rest.get! 0).toNat hb (by omega) (by omega) ?_ ?_ w).mono ?_
    · rw [bt_eq, show bt I 1 = ((I.get! 1).toNat : Int) from rfl, get_at hI 1 _ rfl]; rfl
    · intro i hi
      rcases (by omega : i = 0 ∨ i = 1) with rfl | rfl
      · rw [get_at hI 2 _ rfl, hexDigit_toNat _ (by omega)]
        congr 1
        simp
        omega
      · rw [get_at hI 3 _ rfl, hexDigit_toNat _ (by omega)]
        congr 1
        simp
    · rintro e w' ⟨rfl, hO⟩
      exact ⟨rfl, hO⟩
  · have hS := Lib.quoteStep_good T rest hbad
    have hH := heads_good rest h0 hbad
    have hv := decode_valid rest
    have hlow := heads_low rest h0
    have hone : (Utf8.decode rest 0).2 = 1 → (Utf8.decode rest 0).1 < 128 := fun h => (one_shape rest h0 h (fun h2 => hbad ⟨h, h2⟩)).2
    unfold EscTo
    rw [hS]
    clear hS
    generalize (Utf8.decode rest 0).1 = R at *
    generalize (Utf8.decode rest 0).2 = K at *
    generalize heads rest = H at *
    have hlet : ∀ (m : Int) (r : Nat), R = r → r < 128 → Lib.escRune T (R : Int) = [92, m] → 0 ≤ m → m ≤ 255 →
        (∀ (s : ByteArray) (hs : 1 < s.size) (h1 : ((s[1]'hs).toNat : Int) = m) (w : World), Calls Tryz.prog 57 #[.string s, .int .u8 34] w fun e w' => e = .returned (.tuple #[.string ⟨#[B r]⟩, .int .i64 2]) ∧ Only none w w') →
        ((Lib.escRune T (R : Int)).map B = H ∧ ¬ (K = 1 ∧ R = 65533) ∧ (∃ b l, H = b :: l ∧ b ≠ 34 ∧ b ≠ 92 ∧ b ≠ 10 ∧ (K = 1 → b.toNat < 128))) ∨
    ((∃ l, (Lib.escRune T (R : Int)).map B = 92 :: l) ∧ ∀ (I : ByteArray) (Z : Bytes) (w : World), I.data.toList = (Lib.escRune T (R : Int)).map B ++ Z → Calls Tryz.prog 57 #[.string I, .int .u8 34] w fun e w' => e = .returned (.tuple #[.string ⟨H.toArray⟩, .int .i64 ((Lib.escRune T (R : Int)).length : Int)]) ∧ Only none w w') := by
      intro m r hr hr2 he hm0 hm1 C
      rw [he]
      refine .inr ⟨⟨_, rfl⟩, fun I Z w hI => ?_⟩
      have hsz := size_at hI
      simp only [List.map_cons, List.map_nil, List.cons_append, List.nil_append, List.length_cons] at hI hsz
      refine (C I (by omega) ?_ w).mono ?_
      · rw [bt_eq, show bt I 1 = ((I.get! 1).toNat : Int) from rfl, get_at hI 1 _ rfl, B_toNat hm0 hm1]
      · rintro e w' ⟨rfl, hO⟩
        rw [hlow (by omega), hr]
        exact ⟨rfl, hO⟩
    by_cases c0 : R = 34 ∨ R = 92
    · refine hlet R R rfl (by omega) (by unfold Lib.escRune; rw [if_pos (by omega)]) (by omega) (by omega) ?_
      intro s hs h1 w
      have h2 : s.get! 1 = B R := by
        have h3 : bt s 1 = (R : Int) := by rw [← bt_eq s 1 hs, h1]
        have h4 : ((s.get! 1).toNat : Int) = R := h3
        rw [← h4, B_self]
      rcases c0 with rfl | rfl
      · have := escq_34 s hs h1 w
        rw [ext_one s _ hs h2] at this
        exact this
      · have := escq_92 s hs h1 w
        rw [ext_one s _ hs h2] at this
        exact this
    by_cases c1 : Lib.isPrintR T R = true
    · left
      have he : Lib.escRune T R = Lib.encodeRuneZ R := by
        unfold Lib.escRune
        rw [if_neg (by omega), if_pos c1]
      rw [he]
      refine ⟨hH.symm, hbad, ?_⟩
      by_cases hl : R < 128
      · rw [hlow hl]
        have h32 : 32 ≤ R := by
          unfold Lib.isPrintR Lib.isPrintLatin at c1
          rw [if_pos (by omega)] at c1
          simp at c1
          omega
        have hB := B_toNat (c := (R : Int)) (by omega) (by omega)
        refine ⟨_, _, rfl, ?_, ?_, ?_, fun _ => by omega⟩ <;> (intro hh; rw [hh] at hB; have hq : (R : Int) = _ := hB.symm; simp at hq; omega)
      · obtain ⟨b, l, hb, h128⟩ := encB_head R (by omega)
        rw [hH]
        refine ⟨b, l, hb, ?_, ?_, ?_, fun h => absurd (hone h) hl⟩ <;> (rintro rfl; exact absurd h128 (by decide))

    by_cases d7 : R = 7
    · exact hlet 97 7 d7 (by decide) (by unfold Lib.escRune; rw [if_neg (by omega), if_neg c1, if_pos (by omega)]) (by decide) (by decide) escp_97
    by_cases d8 : R = 8
    · exact hlet 98 8 d8 (by decide) (by unfold Lib.escRune; rw [if_neg (by omega), if_neg c1, if_neg (by omega), if_pos (by omega)]) (by decide) (by decide) escp_98
    by_cases d12 : R = 12
    · exact hlet 102 12 d12 (by decide) (by unfold Lib.escRune; rw [if_neg (by omega), if_neg c1, if_neg (by omega), if_neg (by omega), if_pos (by omega)]) (by decide) (by decide) escp_102
    by_cases d10 : R = 10
    · exact hlet 110 10 d10 (by decide) (by unfold Lib.escRune; rw [if_neg (by omega), if_neg c1, if_neg (by omega), if_neg (by omega), if_neg (by omega), if_pos (by omega)]) (by decide) (by decide) escp_110
    by_cases d13 : R = 13
    · exact hlet 114 13 d13 (by decide) (by unfold Lib.escRune; rw [if_neg (by omega), if_neg c1, if_neg (by omega), if_neg (by omega), if_neg (by omega), if_neg (by omega), if_pos (by omega)]) (by decide) (by decide) escp_114
    by_cases d9 : R = 9
    · exact hlet 116 9 d9 (by decide) (by unfold Lib.escRune; rw [if_neg (by omega), if_neg c1, if_neg (by omega), if_neg (by omega), if_neg (by omega), if_neg (by omega), if_neg (by omega), if_pos (by omega)]) (by decide) (by decide) escp_116
    by_cases d11 : R = 11
    · exact hlet 118 11 d11 (by decide) (by unfold Lib.escRune; rw [if_neg (by omega), if_neg c1, if_neg (by omega), if_neg (by omega), if_neg (by omega), if_neg (by omega), if_neg (by omega), if_neg (by omega), if_pos (by omega)]) (by decide) (by decide) escp_118
    by_cases d0 : R < 32 ∨ R = 127
    · have he : Lib.escRune T (R : Int) = 92 :: 120 :: Lib.hexDigits R 2 := by
        unfold Lib.escRune
        rw [if_neg (by omega), if_neg c1, if_neg (by omega), if_neg (by omega), if_neg (by omega), if_neg (by omega), if_neg (by omega), if_neg (by omega), if_neg (by omega), if_pos (by omega)]
        have q : R / 16 % 16 = R / 16 := by omega
        simp [Lib.hexDigits, q]
      refine .inr ⟨⟨_, by rw [he]; rfl⟩, fun I Z w hI => ?_⟩
      rw [he] at hI ⊢
      have hsz := size_at hI
      simp only [List.map_cons, List.cons_append, List.length_cons, List.length_append, List.length_map, hexDigits_len] at hI hsz
      have hlen : ((92 :: 120 :: Lib.hexDigits R 2 : List Int)).length = 4 := by simp only [List.length_cons, hexDigits_len]
      rw [hlen]
      refine (esch_120 I R (by omega) (by omega) (by omega) ?_ ?_ w).mono ?_
      · rw [bt_eq, show bt I 1 = ((I.get! 1).toNat : Int) from rfl, get_at hI 1 _ rfl]; rfl
      · intro i hi
        have hg : ((B 92 :: B 120 :: ((Lib.hexDigits R 2).map B ++ Z)))[2 + i]? = some (B (Lib.hexDigit (R / 16 ^ (2 - 1 - i) % 16))) := by
          rw [show 2 + i = (i + 1) + 1 by omega, List.getElem?_cons_succ, List.getElem?_cons_succ, List.getElem?_append_left (by rw [List.length_map, hexDigits_len]; exact hi), List.getElem?_map, hexDigits_get R 2 i hi]
          rfl
        rw [get_at hI (2 + i) _ hg, hexDigit_toNat _ (by omega)]
      · rintro e w' ⟨rfl, hO⟩
        rw [hlow (by omega)]
        exact ⟨rfl, hO⟩
    have hvr : Lib.validRune (R : Int) = true := by
      simp only [Lib.validRune, decide_eq_true_eq]
      omega
    by_cases d1 : R < 65536
    · have he : Lib.escRune T (R : Int) = 92 :: 117 :: Lib.hexDigits R 4 := by
        unfold Lib.escRune
        rw [if_neg (by omega), if_neg c1, if_neg (by omega), if_neg (by omega), if_neg (by omega), if_neg (by omega), if_neg (by omega), if_neg (by omega), if_neg (by omega), if_neg (by omega), if_neg (by rw [hvr]; decide), if_pos (by omega), Int.toNat_natCast]
      refine .inr ⟨⟨_, by rw [he]; rfl⟩, fun I Z w hI => ?_⟩
      rw [he] at hI ⊢
      have hsz := size_at hI
      simp only [List.map_cons, List.cons_append, List.length_cons, List.length_append, List.length_map, hexDigits_len] at hI hsz
      have hlen : ((92 :: 117 :: Lib.hexDigits R 4 : List Int)).length = 6 := by simp only [List.length_cons, hexDigits_len]
      rw [hlen]
      refine (esch_117 I R (by omega) hv (by omega) (by omega) ?_ ?_ w).mono ?_
      · rw [bt_eq, show bt I 1 = ((I.get! 1).toNat : Int) from rfl, get_at hI 1 _ rfl]; rfl
      · intro i hi
        have hg : ((B 92 :: B 117 :: ((Lib.hexDigits R 4).map B ++ Z)))[2 + i]? = some (B (Lib.hexDigit (R / 16 ^ (4 - 1 - i) % 16))) := by
          rw [show 2 + i = (i + 1) + 1 by omega, List.getElem?_cons_succ, List.getElem?_cons_succ, List.getElem?_append_left (by rw [List.length_map, hexDigits_len]; exact hi), List.getElem?_map, hexDigits_get R 4 i hi]
          rfl
        rw [get_at hI (2 + i) _ hg, hexDigit_toNat _ (by omega)]
      · rintro e w' ⟨rfl, hO⟩
        rw [hH]
        exact ⟨rfl, hO⟩
    · have he : Lib.escRune T (R : Int) = 92 :: 85 :: Lib.hexDigits R 8 := by
        unfold Lib.escRune
        rw [if_neg (by omega), if_neg c1, if_neg (by omega), if_neg (by omega), if_neg (by omega), if_neg (by omega), if_neg (by omega), if_neg (by omega), if_neg (by omega), if_neg (by omega), if_neg (by rw [hvr]; decide), if_neg (by omega), Int.toNat_natCast]
      refine .inr ⟨⟨_, by rw [he]; rfl⟩, fun I Z w hI => ?_⟩
      rw [he] at hI ⊢
      have hsz := size_at hI
      simp only [List.map_cons, List.cons_append, List.length_cons, List.length_append, List.length_map, hexDigits_len] at hI hsz
      have hlen : ((92 :: 85 :: Lib.hexDigits R 8 : List Int)).length = 10 := by simp only [List.length_cons, hexDigits_len]
      rw [hlen]
      refine (esch_85 I R (by omega) hv (by omega) (by omega) ?_ ?_ w).mono ?_
      · rw [bt_eq, show bt I 1 = ((I.get! 1).toNat : Int) from rfl, get_at hI 1 _ rfl]; rfl
      · intro i hi
        have hg : ((B 92 :: B 85 :: ((Lib.hexDigits R 8).map B ++ Z)))[2 + i]? = some (B (Lib.hexDigit (R / 16 ^ (8 - 1 - i) % 16))) := by
          rw [show 2 + i = (i + 1) + 1 by omega, List.getElem?_cons_succ, List.getElem?_cons_succ, List.getElem?_append_left (by rw [List.length_map, hexDigits_len]; exact hi), List.getElem?_map, hexDigits_get R 8 i hi]
          rfl
        rw [get_at hI (2 + i) _ hg, hexDigit_toNat _ (by omega)]
      · rintro e w' ⟨rfl, hO⟩
        rw [hH]
        exact ⟨rfl, hO⟩

set_option maxRecDepth 100000 in
set_option maxHeartbeats 1000000 in
theorem Width_low (t : ByteArray) (h : 0 < t.size) (g : (t.get! 0).toNat < 128) (w : World) : Calls Tryz.prog 56 #[.string t] w fun e w' => e = .returned (.int .i64 1) ∧ w = w' := by
  obtain ⟨c0, e0⟩ : ∃ c, (t.get! 0).toNat = c := ⟨_, rfl⟩
  rw [e0] at g
  have b0 := bt_eq t 0 (by omega)
  have f0 : bt t 0 = (c0 : Int) := by unfold bt; rw [e0]
  have p0 := bt_le t 0
  rw [f0] at b0 p0
  clear e0 f0
  go_enter Tryz.func56, Tryz.ntmps56
  go_wp2
  all_goals first | (exfalso; omega) | (go_ret; exact ⟨rfl, rfl⟩)

/-- spec.Width where a code point stands as it is -/
theorem Width_raw (rest I : ByteArray) (Z : Bytes) (h0 : 0 < rest.size) (hv : ¬ ((Utf8.decode rest 0).2 = 1 ∧ (Utf8.decode rest 0).1 = 65533)) (hI : I.data.toList = heads rest ++ Z) (w : World) :
    Calls Tryz.prog 56 #[.string I] w fun e w' => e = .returned (.int .i64 ((Utf8.decode rest 0).2 : Int)) ∧ w = w' := by
  have hw := Lib.width_le rest h0
  have hp := Lib.width_pos rest 0
  have hhl : (heads rest).length = (Utf8.decode rest 0).2 := by
    unfold heads
    rw [List.length_take, Array.length_toList]
    have : rest.data.size = rest.size := rfl
    omega
  have hsz := size_at hI
  rw [List.length_append, hhl] at hsz
  have hb : ∀ i, i < (Utf8.decode rest 0).2 → I.get! i = rest.get! i := by
    intro i hi
    apply get_at hI
    rw [List.getElem?_append_left (by omega)]
    unfold heads
    rw [List.getElem?_take, if_pos hi, Array.getElem?_toList]
    have hr : i < rest.data.size := by have : rest.data.size = rest.size := rfl; omega
    rw [Array.getElem?_eq_getElem hr]
    cases rest with
    | mk d => exact congrArg some (getElem!_pos d i hr).symm
  by_cases h1 : (Utf8.decode rest 0).2 = 1
  · have hl := (one_shape rest h0 h1 (fun h2 => hv ⟨h1, h2⟩)).1
    rw [h1]
    exact Width_low I (by omega) (by rw [hb 0 (by omega)]; exact hl) w
  · have hd := dec_same rest I h0 hv (by omega) (fun i hi => by rw [hb i hi])
    refine (Width_any I (by omega) w).mono ?_
    rintro e w' ⟨⟨k, rfl, hk, hk0, hk4⟩, rfl⟩
    rw [hd] at hk
    have : k = ((Utf8.decode rest 0).2 : Int) := by omega
    rw [this]
    exact ⟨rfl, rfl⟩

end Go.Proofs.YtcbliojofnigdaaGreatDoor
