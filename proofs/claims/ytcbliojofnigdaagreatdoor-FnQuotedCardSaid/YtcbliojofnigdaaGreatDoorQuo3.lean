/- strconv.appendEscapedRune and strconv.appendQuotedWith, quote '"', onto a slice that holds nothing: every text (printed by tools/gen_quo3.py). -/
import Derived.Test.YtcbliojofnigdaaGreatDoorQuo1
import Derived.Test.YtcbliojofnigdaaGreatDoorQuo2
set_option linter.unusedVariables false
set_option linter.unusedSimpArgs false
namespace Go.Proofs.YtcbliojofnigdaaGreatDoor
open Go Go.Proofs Go.RowKit

theorem App.keep {W w w' : World} {V v : Value} {xs : Bytes} (h : App W V w v xs) (k : Only none w w') : App W V w' v xs := ⟨h.buf.only k (fun _ _ _ _ _ _ he => by cases he), h.only.trans (Only.none k), h.plc⟩
theorem escaped_any {T : Lib.PrintTabs} {W w : World} {V v : Value} {xs : Bytes} (hb : App W V w v xs) (r : Nat) (hv : r < 55296 ∨ (57343 < r ∧ r ≤ 1114111)) (hT : PT T w) (hl : Room (xs.length + 10)) :
    Calls Tryz.prog 146 #[v, .int .i32 r, .int .u8 34, .bool false, .bool false] w (Apd W V (xs ++ (Lib.escRune T r).map B)) := by
  have C126 := IsPrint_any (T := T) r w (by omega) (by omega) hT
  unfold Lib.escRune
  by_cases c0 : (r : Int) = 34 ∨ (r : Int) = 92
  · rw [if_pos c0]
    rcases c0 with h | h
    · obtain rfl : r = 34 := by omega
      exact esc_q34 (T := T) hb hl
    · obtain rfl : r = 92 := by omega
      exact esc_q92 (T := T) hb hl
  rw [if_neg c0]
  by_cases c1 : Lib.isPrintR T r = true
  · rw [if_pos c1]
    rw [c1] at C126
    exact esc_print (T := T) hb r (by omega) (by omega) (by omega) C126 hl
  rw [if_neg c1]
  have c1' : Lib.isPrintR T r = false := by cases h : Lib.isPrintR T r <;> simp_all
  rw [c1'] at C126

  by_cases n7 : (r : Int) = 7
  · rw [if_pos n7]
    obtain rfl : r = 7 := by omega
    exact esc_n7 (T := T) hb C126 hl
  rw [if_neg n7]
  by_cases n8 : (r : Int) = 8
  · rw [if_pos n8]
    obtain rfl : r = 8 := by omega
    exact esc_n8 (T := T) hb C126 hl
  rw [if_neg n8]
  by_cases n12 : (r : Int) = 12
  · rw [if_pos n12]
    obtain rfl : r = 12 := by omega
    exact esc_n12 (T := T) hb C126 hl
  rw [if_neg n12]
  by_cases n10 : (r : Int) = 10
  · rw [if_pos n10]
    obtain rfl : r = 10 := by omega
    exact esc_n10 (T := T) hb C126 hl
  rw [if_neg n10]
  by_cases n13 : (r : Int) = 13
  · rw [if_pos n13]
    obtain rfl : r = 13 := by omega
    exact esc_n13 (T := T) hb C126 hl
  rw [if_neg n13]
  by_cases n9 : (r : Int) = 9
  · rw [if_pos n9]
    obtain rfl : r = 9 := by omega
    exact esc_n9 (T := T) hb C126 hl
  rw [if_neg n9]
  by_cases n11 : (r : Int) = 11
  · rw [if_pos n11]
    obtain rfl : r = 11 := by omega
    exact esc_n11 (T := T) hb C126 hl
  rw [if_neg n11]
  by_cases cx : (r : Int) < 32 ∨ (r : Int) = 127
  · rw [if_pos cx]
    rcases cx with h | h
    · exact esc_xlo (T := T) hb r (by omega) (by omega) (by omega) (by omega) (by omega) (by omega) (by omega) (by omega) (by omega) (by omega) C126 hl
    · obtain rfl : r = 127 := by omega
      exact esc_xdel (T := T) hb C126 hl
  rw [if_neg cx]
  have hval : Lib.validRune (r : Int) = true := by simp only [Lib.validRune, decide_eq_true_eq]; omega
  rw [if_neg (by rw [hval]; decide)]
  have n128 : 128 ≤ r := by
    have hp : ¬ ((32 ≤ (r : Int) ∧ (r : Int) ≤ 126)) := by
      intro h
      apply c1
      unfold Lib.isPrintR
      rw [if_pos (by omega)]
      unfold Lib.isPrintLatin
      simp [h.1, h.2]
    omega
  by_cases cu : (r : Int) < 65536
  · rw [if_pos cu]
    exact esc_u4 (T := T) hb r n128 (by omega) hv (by omega) (by omega) (by omega) (by omega) (by omega) (by omega) (by omega) (by omega) (by omega) C126 hl
  · rw [if_neg cu]
    exact esc_u8 (T := T) hb r (by omega) (by omega) hv (by omega) (by omega) (by omega) (by omega) (by omega) (by omega) (by omega) (by omega) (by omega) C126 hl

theorem decodeGo_some (t : ByteArray) (h : 0 < t.size) : Lib.decodeGo t = Utf8.decode t 0 := by
  unfold Lib.decodeGo
  rw [if_neg (by omega)]
theorem decode_valid (t : ByteArray) : (Utf8.decode t 0).1 < 55296 ∨ (57343 < (Utf8.decode t 0).1 ∧ (Utf8.decode t 0).1 ≤ 1114111) := by
  have h := Lib.decodeN_valid (t.size - 0) (t.get! 0).toNat (t.get! (0 + 1)).toNat (t.get! (0 + 2)).toNat (t.get! (0 + 3)).toNat (UInt8.toNat_lt _)
  rw [← Lib.decode_at] at h
  exact h

/-- 'make([]byte, 0, n)' -/
theorem wpList_mk0 {P : Program} {ops : Array Oper} {rest : List Oper} {o : Oper} {a : Act} {Q : Exit → Act → World → Prop} {w : World} (hg : o.guard = none) (l c : Operand) (t : TypeId) (hop : o.op = Op.makeSlice t l c)
    (e : TypeId) (h1 : P.underlying t = some (.slice e)) (hby : (P.info? e).map (fun i => (i.zero, i.size, i.bytes)) = some (some (.int .u8 0), 1, 1))
    (kl kc : IntKind) (C : Int) (n : Nat) (hl : a.eval l = .int kl 0) (hc : a.eval c = .int kc C) (hC : C = (n : Int)) (hr : Room n)
    (hK : ∀ w', Buf w' (.slice (some ⟨w.heap.size, 0, none⟩) 0 n) [] → Only none w w' → w.heap.size < w'.heap.size → wpList P ops Q rest (a.put o.dst (.slice (some ⟨w.heap.size, 0, none⟩) 0 n)) w') :
    wpList P ops Q (o :: rest) a w := by
  obtain ⟨i, hi, hz0, hz1, hz2⟩ := info_parts hby
  have hn : n ≤ 140737488355328 := hr
  refine wpList_make_own w hg l c t hop w.heap.size e i (.int .u8 0) 1 h1 hi hz0 hz1 kl kc C n hl hc hC (by rw [hz2]; omega) (by unfold maxLen; omega) (Nat.le_refl _) ?_
  intro w' hown hgr
  have hO : Only none w w' := ⟨hgr.os, hgr.tape, hgr.output, hgr.size, fun k hk _ => hgr.block k hk (by simp), fun _ _ _ _ _ _ he => by cases he⟩
  rcases hown.2 with ⟨hv, _⟩ | ⟨g, cap, cur, hv, hb, hh, h2, h3, h4, h5⟩
  · cases hv
  · cases hv
    exact hK w' (.inr ⟨_, 0, n, cur, e, by simp, hh, by omega, by simp, h3, fun j hj => by simp at hj⟩) hO (lt_of_heap hh)

/-- a new slice of bytes, of which no other knows -/
theorem App.fresh0 {W w w1 w2 : World} {V v : Value} {xs : Bytes} {C : Nat} (h : App W V w v xs) (hO : Only none w w1) (k : App w1 (.slice (some ⟨w.heap.size, 0, none⟩) 0 C) w2 (.slice (some ⟨w.heap.size, 0, none⟩) 0 C) []) : App W V w2 (.slice (some ⟨w.heap.size, 0, none⟩) 0 C) [] :=
  ⟨k.buf, (h.only.trans (Only.none hO)).fresh h.only.size k.only, .inr ⟨w.heap.size, 0, C, rfl, h.only.size⟩⟩

set_option maxRecDepth 100000 in
set_option maxHeartbeats 8000000 in
theorem appendQuoted_any {T : Lib.PrintTabs} {W w : World} {V v : Value} (hb : App W V w v []) (s : ByteArray) (hs : s.size ≤ 1000000) (hT : ∀ w' v' ys, App W V w' v' ys → PT T w') :
    Calls Tryz.prog 141 #[v, .string s, .int .u8 34, .bool false, .bool false] w (Apd W V ((Lib.quoteZ T s).map B)) := by
  obtain ⟨a, n, c, rfl⟩ := hb.buf.slice
  obtain ⟨hn, _, hc⟩ := hb.buf.len
  obtain rfl : n = 0 := by simpa using hn.symm
  have hci : (c : Int) ≤ 9223372036854775807 := by have : maxLen = 9223372036854775807 := rfl; omega
  have hsi : (s.size : Int) ≤ 1000000 := by omega
  have hc34 : ∀ c ∈ ([34] : List Int), 0 ≤ c ∧ c ≤ 255 := by decide
  have HC34 := Lib.hid hc34
  have hr1 : Room (([] : Bytes).length + 1) := by unfold Room; decide
  have HR1 := Lib.hid hr1
  have HT := Lib.hid hT
  have HB := Lib.hid hb
  clear hc34 hr1 hT hn hc
  by_cases hcap : (c : Int) < s.size
  · clear hb
    have hrm : Room (s.size + 2) := show _ ≤ _ by omega
    have HRM := Lib.hid hrm
    clear hrm
    go_enter Tryz.func141, Tryz.ntmps141
    go_wp2_with (first
      | (at_make; refine wpList_mk0 rfl _ _ 26 rfl 5 Tryz.underlying26 byte5 .i64 .i64 _ (s.size + 2) rfl rfl (by omega) HRM.out ?_; intro w0 hB0 hO0 hs0; have HB1 := Lib.hid (And.intro hB0 hO0); clear hB0 hO0)
      | (refine wpList_cp rfl (.tmp 32) (.tmp 33) 26 26 rfl 5 Tryz.underlying26 (by kernel_rfl) _ 0 0 (s.size + 2) [] rfl HB1.out.1 _ [] rfl (HB.out.keep HB1.out.2).buf (Nat.le_refl _) ?_; intro w00 hA00; have HB0 := Lib.hid (HB.out.fresh0 HB1.out.2 hA00); clear hA00)  | (at_builtin; refine wpList_app_lit rfl (.tmp 36) (.tmp 38) 26 rfl 5 byte5 Tryz.underlying26 _ _ rfl [34] 1 rfl rfl W V HB0.out 5 _ rfl HC34.out HR1.out ?_; intro v1 w1 hA1; have HA1 := Lib.hid hA1; clear hA1))
    go_loopw [0, 1, 12, 13] (fun a0 sv _ _ W1 => ∃ (rest : ByteArray) (f : Nat) (ys : Bytes) (bv : Value), bv = a0 ∧ sv = .string rest ∧ App W V W1 bv ys ∧ rest.size ≤ f ∧ rest.size ≤ s.size ∧ ys.length + 10 * rest.size ≤ 1 + 10 * s.size ∧ Hid (ys ++ (Lib.quoteFrom T f rest).map B = 34 :: (Lib.quoteFrom T s.size s).map B)) (fun _ sv _ _ _ => match sv with | .string s => s.size | _ => 0)
    case atStart => exact ⟨s, s.size, _, _, rfl, rfl, HA1.out, Nat.le_refl _, Nat.le_refl _, by simp, by show _ = _; rfl⟩
    case round =>
      obtain ⟨rest, f, ys, bv, rfl, rfl, hA, hf, hrs, hyl, HQ⟩ := hrel
      by_cases h0 : 0 < rest.size
      · have h0i : (0 : Int) < rest.size := by omega
        have hyr : Room (ys.length + 10) := by unfold Room; omega
        obtain ⟨R, hR⟩ : ∃ R, R = (Utf8.decode rest 0).1 := ⟨_, rfl⟩
        obtain ⟨K, hK⟩ : ∃ K, K = (Utf8.decode rest 0).2 := ⟨_, rfl⟩
        have hg := decodeGo_some rest h0
        have C82 := DecodeInString_any (T := T) rest wr (HT.out _ _ _ hA)
        rw [hg, ← hR, ← hK] at C82
        have hKs : K ≤ rest.size := by rw [hK]; exact Lib.width_le rest h0
        have hK1 : 1 ≤ K := by rw [hK]; exact Lib.decode_width_pos rest 0 h0
        have hRv := decode_valid rest
        rw [← hR] at hRv
        have hstep := Lib.quoteFrom_step T f rest h0 hf
        have hnl := Lib.quoteStep_length_le T rest
        have C146 : ∀ W1, Only none wr W1 → Calls Tryz.prog 146 #[bv, .int .i32 R, .int .u8 34, .bool false, .bool false] W1 (Apd W V (ys ++ (Lib.escRune T R).map B)) := by
          intro W1 hO
          exact escaped_any (hA.keep hO) R hRv (HT.out _ _ _ (hA.keep hO)) hyr
        have hsz2 : (rest.extract K rest.size).size = rest.size - K := Lib.size_rest rest K
        have H82 := Lib.hid C82
        have H146 := Lib.hid C146
        have HA := Lib.hid hA
        have HST := Lib.hid (And.intro hR (And.intro hK (And.intro hstep hnl)))
        have HYR := Lib.hid hyr
        clear C82 C146 hA hg hstep hnl hRv hyr hR hK
        by_cases hbad : K = 1 ∧ R = 65533
        · obtain ⟨rfl, rfl⟩ := hbad
          have hqs := Lib.quoteStep_bad T rest h0 HST.out.2.1 HST.out.1
          obtain ⟨m, hm⟩ : ∃ m, m = (rest[0]'h0).toNat := ⟨_, rfl⟩
          have hm9 : m < 256 := by rw [hm]; exact (rest[0]'h0).toNat_lt
          have hbt : (((rest[0]'h0).toNat : Nat) : Int) = (m : Int) := by rw [hm]
          rw [← hm] at hqs
          obtain ⟨d1, hd1⟩ : ∃ d, d = m / 16 := ⟨_, rfl⟩
          obtain ⟨d2, hd2⟩ : ∃ d, d = m % 16 := ⟨_, rfl⟩
          have hq1 : d1 < 16 := by omega
          have hq2 : d2 < 16 := by omega
          rw [← hd1, ← hd2] at hqs
          have hdiv : (m : Int) / 16 = (d1 : Int) := by omega
          have hand : bits .and .u8 (m : Int) 15 = (d2 : Int) := by rw [hd2]; exact and15_u8n m hm9
          have hda := bt_eq ⟨#[48, 49, 50, 51, 52, 53, 54, 55, 56, 57, 97, 98, 99, 100, 101, 102]⟩ d1 hq1
          have hdb := bt_eq ⟨#[48, 49, 50, 51, 52, 53, 54, 55, 56, 57, 97, 98, 99, 100, 101, 102]⟩ d2 hq2
          have hi1 : (d1 : Int) < 16 := by omega
          have hi2 : (d2 : Int) < 16 := by omega
          have hfin : ys ++ [92, 120] ++ ([bt ⟨#[48, 49, 50, 51, 52, 53, 54, 55, 56, 57, 97, 98, 99, 100, 101, 102]⟩ d1] : List Int).map B ++ ([bt ⟨#[48, 49, 50, 51, 52, 53, 54, 55, 56, 57, 97, 98, 99, 100, 101, 102]⟩ d2] : List Int).map B ++ (Lib.quoteFrom T (f - 1) (rest.extract 1 rest.size)).map B = 34 :: (Lib.quoteFrom T s.size s).map B := by
            rw [← HQ.out, HST.out.2.2.1, hqs, ← HST.out.2.1]
            have e1 := B_hexd d1 hq1
            have e2 := B_hexd d2 hq2
            simp only [List.map_cons, List.map_nil, List.map_append, e1, e2, List.append_assoc]
            rfl
          have hc1 : ∀ c ∈ ([bt ⟨#[48, 49, 50, 51, 52, 53, 54, 55, 56, 57, 97, 98, 99, 100, 101, 102]⟩ d1] : List Int), 0 ≤ c ∧ c ≤ 255 := by intro c hc; rw [List.mem_singleton.1 hc]; exact ⟨bt_nonneg _ _, bt_le _ _⟩
          have hc2 : ∀ c ∈ ([bt ⟨#[48, 49, 50, 51, 52, 53, 54, 55, 56, 57, 97, 98, 99, 100, 101, 102]⟩ d2] : List Int), 0 ≤ c ∧ c ≤ 255 := by intro c hc; rw [List.mem_singleton.1 hc]; exact ⟨bt_nonneg _ _, bt_le _ _⟩
          have HC1 := Lib.hid hc1
          have HC2 := Lib.hid hc2
          have hr1 : Room (ys.length + (⟨#[92, 120]⟩ : ByteArray).size) := HYR.out.le (by show ys.length + 2 ≤ _; omega)
          have hr2 : Room ((ys ++ [92, 120]).length + 1) := HYR.out.le (by rw [List.length_append]; simp)
          have hr3 : Room ((ys ++ [92, 120] ++ ([bt ⟨#[48, 49, 50, 51, 52, 53, 54, 55, 56, 57, 97, 98, 99, 100, 101, 102]⟩ d1] : List Int).map B).length + 1) := HYR.out.le (by rw [List.length_append, List.length_append]; simp)
          have HR2 := Lib.hid hr1
          have HR3 := Lib.hid hr2
          have HR4 := Lib.hid hr3
          have HFIN := Lib.hid hfin
          clear hc1 hc2 hr1 hr2 hr3 hfin hqs hd1 hd2 hm HQ HST H146
          go_wp2_with (first
            | (go_at_call 82; refine (H82.out).mono ?_; rintro e w2 ⟨rfl, hO2⟩; have HA2 := Lib.hid (HA.out.keep hO2); clear hO2)
            | (at_builtin; refine wpList_app_str rfl (.tmp 57) _ 26 9 rfl 5 byte5 Tryz.underlying26 Tryz.underlying9 _ _ rfl ⟨#[92, 120]⟩ rfl W V HA2.out HR2.out ?_; intro v3 w3 hA3; have HA3 := Lib.hid hA3; clear hA3)
            | (at_builtin; refine wpList_app_lit rfl (.tmp 59) (.tmp 64) 26 rfl 5 byte5 Tryz.underlying26 _ _ rfl [bt ⟨#[48, 49, 50, 51, 52, 53, 54, 55, 56, 57, 97, 98, 99, 100, 101, 102]⟩ d1] 1 rfl rfl W V HA3.out 5 _ rfl HC1.out HR3.out ?_; intro v4 w4 hA4; have HA4 := Lib.hid hA4; clear hA4)
            | (at_builtin; refine wpList_app_lit rfl (.tmp 66) (.tmp 71) 26 rfl 5 byte5 Tryz.underlying26 _ _ rfl [bt ⟨#[48, 49, 50, 51, 52, 53, 54, 55, 56, 57, 97, 98, 99, 100, 101, 102]⟩ d2] 1 rfl rfl W V HA4.out 5 _ rfl HC2.out HR4.out ?_; intro v5 w5 hA5; have HA5 := Lib.hid hA5; clear hA5))
          go_roundw
          case rel => exact ⟨_, f - 1, _, _, rfl, rfl, HA5.out, by rw [hsz2]; omega, by rw [hsz2]; omega, by rw [hsz2]; simp only [List.length_append, List.length_cons, List.length_nil, List.length_map]; omega, HFIN.out⟩
          case measure => show (rest.extract 1 rest.size).size < rest.size; rw [hsz2]; omega
        · have hqs := Lib.quoteStep_good T rest (by rw [← HST.out.1, ← HST.out.2.1]; exact hbad)
          have hfin : ys ++ (Lib.escRune T R).map B ++ (Lib.quoteFrom T (f - 1) (rest.extract K rest.size)).map B = 34 :: (Lib.quoteFrom T s.size s).map B := by
            rw [← HQ.out, HST.out.2.2.1, hqs, ← HST.out.2.1, ← HST.out.1]
            simp only [List.map_append, List.append_assoc]
          have hle : (ys ++ (Lib.escRune T R).map B).length ≤ ys.length + 10 := by
            have := HST.out.2.2.2
            rw [hqs, ← HST.out.1] at this
            rw [List.length_append, List.length_map]; omega
          have HFIN := Lib.hid (And.intro hfin hle)
          clear hfin hle hqs HST HQ
          have hor : (¬ (K : Int) = 1) ∨ ((K : Int) = 1 ∧ ¬ (R : Int) = 65533) := by
            by_cases hk : K = 1
            · exact .inr ⟨by omega, fun h => hbad ⟨hk, by omega⟩⟩
            · exact .inl (by omega)
          clear hbad
          rcases hor with hk | ⟨hk, hr⟩
          · go_wp2_with (first
              | (go_at_call 82; refine (H82.out).mono ?_; rintro e w2 ⟨rfl, hO2⟩; have HO2 := Lib.hid hO2; clear hO2)
              | (go_at_call 146; refine (H146.out _ HO2.out).mono ?_; rintro e w3 ⟨v3, rfl, hA3⟩; have HA3 := Lib.hid hA3; clear hA3))
            go_roundw
            case rel => exact ⟨_, f - 1, _, _, rfl, rfl, HA3.out, by rw [hsz2]; omega, by rw [hsz2]; omega, by rw [hsz2]; have := HFIN.out.2; omega, HFIN.out.1⟩
            case measure => show (rest.extract K rest.size).size < rest.size; rw [hsz2]; omega
          · obtain rfl : K = 1 := by omega
            go_wp2_with (first
              | (go_at_call 82; refine (H82.out).mono ?_; rintro e w2 ⟨rfl, hO2⟩; have HO2 := Lib.hid hO2; clear hO2)
              | (go_at_call 146; refine (H146.out _ HO2.out).mono ?_; rintro e w3 ⟨v3, rfl, hA3⟩; have HA3 := Lib.hid hA3; clear hA3))
            go_roundw
            case rel => exact ⟨_, f - 1, _, _, rfl, rfl, HA3.out, by rw [hsz2]; omega, by rw [hsz2]; omega, by rw [hsz2]; have := HFIN.out.2; omega, HFIN.out.1⟩
            case measure => show (rest.extract 1 rest.size).size < rest.size; rw [hsz2]; omega
      · have h0i : ¬ (0 : Int) < rest.size := by omega
        have hq := HQ.out
        rw [Lib.quoteFrom_end T f rest h0, List.map_nil, List.append_nil] at hq
        have hr9 : Room (ys.length + 1) := show _ ≤ _ by omega
        have HR9 := Lib.hid hr9
        have HA := Lib.hid hA
        have HQQ := Lib.hid hq
        clear hr9 hA hq HQ
        go_wp2_with (at_builtin; refine wpList_app_lit rfl (.tmp 79) (.tmp 81) 26 rfl 5 byte5 Tryz.underlying26 _ _ rfl [34] 1 rfl rfl W V HA.out 5 _ rfl HC34.out HR9.out ?_; intro v9 w9 hA9; have HA9 := Lib.hid hA9; clear hA9)
        go_ret
        refine ⟨_, rfl, ?_⟩
        have h := HA9.out
        rw [HQQ.out] at h
        have e : (Lib.quoteZ T s).map B = 34 :: (Lib.quoteFrom T s.size s).map B ++ ([34] : List Int).map B := by
          unfold Lib.quoteZ
          simp only [List.map_cons, List.map_append, List.map_nil, List.cons_append]
          rfl
        rw [e]
        exact h

  · have HB0 := Lib.hid hb
    clear hb
    go_enter Tryz.func141, Tryz.ntmps141
    go_wp2_with (first
      | (at_builtin; refine wpList_app_lit rfl (.tmp 36) (.tmp 38) 26 rfl 5 byte5 Tryz.underlying26 _ _ rfl [34] 1 rfl rfl W V HB0.out 5 _ rfl HC34.out HR1.out ?_; intro v1 w1 hA1; have HA1 := Lib.hid hA1; clear hA1))
    go_loopw [0, 1, 12, 13] (fun a0 sv _ _ W1 => ∃ (rest : ByteArray) (f : Nat) (ys : Bytes) (bv : Value), bv = a0 ∧ sv = .string rest ∧ App W V W1 bv ys ∧ rest.size ≤ f ∧ rest.size ≤ s.size ∧ ys.length + 10 * rest.size ≤ 1 + 10 * s.size ∧ Hid (ys ++ (Lib.quoteFrom T f rest).map B = 34 :: (Lib.quoteFrom T s.size s).map B)) (fun _ sv _ _ _ => match sv with | .string s => s.size | _ => 0)
    case atStart => exact ⟨s, s.size, _, _, rfl, rfl, HA1.out, Nat.le_refl _, Nat.le_refl _, by simp, by show _ = _; rfl⟩
    case round =>
      obtain ⟨rest, f, ys, bv, rfl, rfl, hA, hf, hrs, hyl, HQ⟩ := hrel
      by_cases h0 : 0 < rest.size
      · have h0i : (0 : Int) < rest.size := by omega
        have hyr : Room (ys.length + 10) := by unfold Room; omega
        obtain ⟨R, hR⟩ : ∃ R, R = (Utf8.decode rest 0).1 := ⟨_, rfl⟩
        obtain ⟨K, hK⟩ : ∃ K, K = (Utf8.decode rest 0).2 := ⟨_, rfl⟩
        have hg := decodeGo_some rest h0
        have C82 := DecodeInString_any (T := T) rest wr (HT.out _ _ _ hA)
        rw [hg, ← hR, ← hK] at C82
        have hKs : K ≤ rest.size := by rw [hK]; exact Lib.width_le rest h0
        have hK1 : 1 ≤ K := by rw [hK]; exact Lib.decode_width_pos rest 0 h0
        have hRv := decode_valid rest
        rw [← hR] at hRv
        have hstep := Lib.quoteFrom_step T f rest h0 hf
        have hnl := Lib.quoteStep_length_le T rest
        have C146 : ∀ W1, Only none wr W1 → Calls Tryz.prog 146 #[bv, .int .i32 R, .int .u8 34, .bool false, .bool false] W1 (Apd W V (ys ++ (Lib.escRune T R).map B)) := by
          intro W1 hO
          exact escaped_any (hA.keep hO) R hRv (HT.out _ _ _ (hA.keep hO)) hyr
        have hsz2 : (rest.extract K rest.size).size = rest.size - K := Lib.size_rest rest K
        have H82 := Lib.hid C82
        have H146 := Lib.hid C146
        have HA := Lib.hid hA
        have HST := Lib.hid (And.intro hR (And.intro hK (And.intro hstep hnl)))
        have HYR := Lib.hid hyr
        clear C82 C146 hA hg hstep hnl hRv hyr hR hK
        by_cases hbad : K = 1 ∧ R = 65533
        · obtain ⟨rfl, rfl⟩ := hbad
          have hqs := Lib.quoteStep_bad T rest h0 HST.out.2.1 HST.out.1
          obtain ⟨m, hm⟩ : ∃ m, m = (rest[0]'h0).toNat := ⟨_, rfl⟩
          have hm9 : m < 256 := by rw [hm]; exact (rest[0]'h0).toNat_lt
          have hbt : (((rest[0]'h0).toNat : Nat) : Int) = (m : Int) := by rw [hm]
          rw [← hm] at hqs
          obtain ⟨d1, hd1⟩ : ∃ d, d = m / 16 := ⟨_, rfl⟩
          obtain ⟨d2, hd2⟩ : ∃ d, d = m % 16 := ⟨_, rfl⟩
          have hq1 : d1 < 16 := by omega
          have hq2 : d2 < 16 := by omega
          rw [← hd1, ← hd2] at hqs
          have hdiv : (m : Int) / 16 = (d1 : Int) := by omega
          have hand : bits .and .u8 (m : Int) 15 = (d2 : Int) := by rw [hd2]; exact and15_u8n m hm9
          have hda := bt_eq ⟨#[48, 49, 50, 51, 52, 53, 54, 55, 56, 57, 97, 98, 99, 100, 101, 102]⟩ d1 hq1
          have hdb := bt_eq ⟨#[48, 49, 50, 51, 52, 53, 54, 55, 56, 57, 97, 98, 99, 100, 101, 102]⟩ d2 hq2
          have hi1 : (d1 : Int) < 16 := by omega
          have hi2 : (d2 : Int) < 16 := by omega
          have hfin : ys ++ [92, 120] ++ ([bt ⟨#[48, 49, 50, 51, 52, 53, 54, 55, 56, 57, 97, 98, 99, 100, 101, 102]⟩ d1] : List Int).map B ++ ([bt ⟨#[48, 49, 50, 51, 52, 53, 54, 55, 56, 57, 97, 98, 99, 100, 101, 102]⟩ d2] : List Int).map B ++ (Lib.quoteFrom T (f - 1) (rest.extract 1 rest.size)).map B = 34 :: (Lib.quoteFrom T s.size s).map B := by
            rw [← HQ.out, HST.out.2.2.1, hqs, ← HST.out.2.1]
            have e1 := B_hexd d1 hq1
            have e2 := B_hexd d2 hq2
            simp only [List.map_cons, List.map_nil, List.map_append, e1, e2, List.append_assoc]
            rfl
          have hc1 : ∀ c ∈ ([bt ⟨#[48, 49, 50, 51, 52, 53, 54, 55, 56, 57, 97, 98, 99, 100, 101, 102]⟩ d1] : List Int), 0 ≤ c ∧ c ≤ 255 := by intro c hc; rw [List.mem_singleton.1 hc]; exact ⟨bt_nonneg _ _, bt_le _ _⟩
          have hc2 : ∀ c ∈ ([bt ⟨#[48, 49, 50, 51, 52, 53, 54, 55, 56, 57, 97, 98, 99, 100, 101, 102]⟩ d2] : List Int), 0 ≤ c ∧ c ≤ 255 := by intro c hc; rw [List.mem_singleton.1 hc]; exact ⟨bt_nonneg _ _, bt_le _ _⟩
          have HC1 := Lib.hid hc1
          have HC2 := Lib.hid hc2
          have hr1 : Room (ys.length + (⟨#[92, 120]⟩ : ByteArray).size) := HYR.out.le (by show ys.length + 2 ≤ _; omega)
          have hr2 : Room ((ys ++ [92, 120]).length + 1) := HYR.out.le (by rw [List.length_append]; simp)
          have hr3 : Room ((ys ++ [92, 120] ++ ([bt ⟨#[48, 49, 50, 51, 52, 53, 54, 55, 56, 57, 97, 98, 99, 100, 101, 102]⟩ d1] : List Int).map B).length + 1) := HYR.out.le (by rw [List.length_append, List.length_append]; simp)
          have HR2 := Lib.hid hr1
          have HR3 := Lib.hid hr2
          have HR4 := Lib.hid hr3
          have HFIN := Lib.hid hfin
          clear hc1 hc2 hr1 hr2 hr3 hfin hqs hd1 hd2 hm HQ HST H146
          go_wp2_with (first
            | (go_at_call 82; refine (H82.out).mono ?_; rintro e w2 ⟨rfl, hO2⟩; have HA2 := Lib.hid (HA.out.keep hO2); clear hO2)
            | (at_builtin; refine wpList_app_str rfl (.tmp 57) _ 26 9 rfl 5 byte5 Tryz.underlying26 Tryz.underlying9 _ _ rfl ⟨#[92, 120]⟩ rfl W V HA2.out HR2.out ?_; intro v3 w3 hA3; have HA3 := Lib.hid hA3; clear hA3)
            | (at_builtin; refine wpList_app_lit rfl (.tmp 59) (.tmp 64) 26 rfl 5 byte5 Tryz.underlying26 _ _ rfl [bt ⟨#[48, 49, 50, 51, 52, 53, 54, 55, 56, 57, 97, 98, 99, 100, 101, 102]⟩ d1] 1 rfl rfl W V HA3.out 5 _ rfl HC1.out HR3.out ?_; intro v4 w4 hA4; have HA4 := Lib.hid hA4; clear hA4)
            | (at_builtin; refine wpList_app_lit rfl (.tmp 66) (.tmp 71) 26 rfl 5 byte5 Tryz.underlying26 _ _ rfl [bt ⟨#[48, 49, 50, 51, 52, 53, 54, 55, 56, 57, 97, 98, 99, 100, 101, 102]⟩ d2] 1 rfl rfl W V HA4.out 5 _ rfl HC2.out HR4.out ?_; intro v5 w5 hA5; have HA5 := Lib.hid hA5; clear hA5))
          go_roundw
          case rel => exact ⟨_, f - 1, _, _, rfl, rfl, HA5.out, by rw [hsz2]; omega, by rw [hsz2]; omega, by rw [hsz2]; simp only [List.length_append, List.length_cons, List.length_nil, List.length_map]; omega, HFIN.out⟩
          case measure => show (rest.extract 1 rest.size).size < rest.size; rw [hsz2]; omega
        · have hqs := Lib.quoteStep_good T rest (by rw [← HST.out.1, ← HST.out.2.1]; exact hbad)
          have hfin : ys ++ (Lib.escRune T R).map B ++ (Lib.quoteFrom T (f - 1) (rest.extract K rest.size)).map B = 34 :: (Lib.quoteFrom T s.size s).map B := by
            rw [← HQ.out, HST.out.2.2.1, hqs, ← HST.out.2.1, ← HST.out.1]
            simp only [List.map_append, List.append_assoc]
          have hle : (ys ++ (Lib.escRune T R).map B).length ≤ ys.length + 10 := by
            have := HST.out.2.2.2
            rw [hqs, ← HST.out.1] at this
            rw [List.length_append, List.length_map]; omega
          have HFIN := Lib.hid (And.intro hfin hle)
          clear hfin hle hqs HST HQ
          have hor : (¬ (K : Int) = 1) ∨ ((K : Int) = 1 ∧ ¬ (R : Int) = 65533) := by
            by_cases hk : K = 1
            · exact .inr ⟨by omega, fun h => hbad ⟨hk, by omega⟩⟩
            · exact .inl (by omega)
          clear hbad
          rcases hor with hk | ⟨hk, hr⟩
          · go_wp2_with (first
              | (go_at_call 82; refine (H82.out).mono ?_; rintro e w2 ⟨rfl, hO2⟩; have HO2 := Lib.hid hO2; clear hO2)
              | (go_at_call 146; refine (H146.out _ HO2.out).mono ?_; rintro e w3 ⟨v3, rfl, hA3⟩; have HA3 := Lib.hid hA3; clear hA3))
            go_roundw
            case rel => exact ⟨_, f - 1, _, _, rfl, rfl, HA3.out, by rw [hsz2]; omega, by rw [hsz2]; omega, by rw [hsz2]; have := HFIN.out.2; omega, HFIN.out.1⟩
            case measure => show (rest.extract K rest.size).size < rest.size; rw [hsz2]; omega
          · obtain rfl : K = 1 := by omega
            go_wp2_with (first
              | (go_at_call 82; refine (H82.out).mono ?_; rintro e w2 ⟨rfl, hO2⟩; have HO2 := Lib.hid hO2; clear hO2)
              | (go_at_call 146; refine (H146.out _ HO2.out).mono ?_; rintro e w3 ⟨v3, rfl, hA3⟩; have HA3 := Lib.hid hA3; clear hA3))
            go_roundw
            case rel => exact ⟨_, f - 1, _, _, rfl, rfl, HA3.out, by rw [hsz2]; omega, by rw [hsz2]; omega, by rw [hsz2]; have := HFIN.out.2; omega, HFIN.out.1⟩
            case measure => show (rest.extract 1 rest.size).size < rest.size; rw [hsz2]; omega
      · have h0i : ¬ (0 : Int) < rest.size := by omega
        have hq := HQ.out
        rw [Lib.quoteFrom_end T f rest h0, List.map_nil, List.append_nil] at hq
        have hr9 : Room (ys.length + 1) := show _ ≤ _ by omega
        have HR9 := Lib.hid hr9
        have HA := Lib.hid hA
        have HQQ := Lib.hid hq
        clear hr9 hA hq HQ
        go_wp2_with (at_builtin; refine wpList_app_lit rfl (.tmp 79) (.tmp 81) 26 rfl 5 byte5 Tryz.underlying26 _ _ rfl [34] 1 rfl rfl W V HA.out 5 _ rfl HC34.out HR9.out ?_; intro v9 w9 hA9; have HA9 := Lib.hid hA9; clear hA9)
        go_ret
        refine ⟨_, rfl, ?_⟩
        have h := HA9.out
        rw [HQQ.out] at h
        have e : (Lib.quoteZ T s).map B = 34 :: (Lib.quoteFrom T s.size s).map B ++ ([34] : List Int).map B := by
          unfold Lib.quoteZ
          simp only [List.map_cons, List.map_append, List.map_nil, List.cons_append]
          rfl
        rw [e]
        exact h

end Go.Proofs.YtcbliojofnigdaaGreatDoor
