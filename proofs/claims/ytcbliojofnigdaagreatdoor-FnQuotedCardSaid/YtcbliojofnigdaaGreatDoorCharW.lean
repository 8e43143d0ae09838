/- fmt.fmtC and fmt.fmtUnicode (no precision, no sharp flag), pp.fmtInteger by the verbs c and U; what printArg writes of an integer by them. -/
import Derived.Test.YtcbliojofnigdaaGreatDoorPaInt
import Derived.LoopTactic
namespace Go.Proofs.YtcbliojofnigdaaGreatDoor
open Go Go.Proofs Go.RowKit

set_option maxRecDepth 100000 in
set_option maxHeartbeats 2000000 in
theorem fmtC_any {b : Nat} {w : World} {s : PS} {v : Value} {ib : List Value} (h : PP b w s v ib) (hf : FlOk s.fl) (u : Int) (h0 : 0 ≤ u) (h1 : u ≤ 1114111) (hl : Fits (s.out.length + 1000000000)) :
    Calls Tryz.prog 112 #[.pointer (some ⟨b, 1, none⟩), .int .u64 u] w (WroteI b w s v (padM s.fl (encB u))) := by
  have hw : wrap32 u = u := by unfold wrap32; omega
  have hw2 : IntKind.i32.wrap u = u := by rw [IntKind.wrap_i32]; omega
  have CA := AppendRune_any (App.refl h.ibBuf) u (by omega) (by omega) (show Room (0 + 4) from by unfold Room; decide)
  have hle := encB_len u
  have hfl := hf
  have HP := Lib.hid h
  have HCA := Lib.hid CA
  have HF := Lib.hid hf
  have HL := Lib.hid (show Fits (s.out.length + (encB u).length + s.fl.wid.toNat) from hl.le (by have := hfl.1; have := hfl.2.1; omega))
  clear h hf hfl hle hl CA
  go_enter Tryz.func112, Tryz.ntmps112
  go_wp2_with (first
    | (go_at_call 120; refine (HCA.out).mono ?_; rintro e w1 ⟨v1, rfl, hA⟩; obtain ⟨⟨ib1, hP1⟩, hH1, hF1⟩ := HP.out.held hA; have CP := pad_any hP1 v1 _ hH1 HF.out HL.out; have HCP := Lib.hid CP; have HF1 := Lib.hid hF1; clear hP1 hH1 hF1 CP hA)
    | (go_at_call 122; refine (HCP.out).mono ?_; rintro e w2 ⟨rfl, v2, hP2, hF2⟩))
  go_end0
  exact ⟨rfl, v2, ib1, hP2, HF1.out.trans hF2⟩

/-- a code point as fmtUnicode writes it -/
def uniM (n : Nat) : Bytes := 85 :: 43 :: intZeros 4 (digits 16 true 64 n)
theorem digits16_len (n : Nat) (h : n < 18446744073709551616) : (digits 16 true 64 n).length ≤ 16 := digits_len 16 true (by decide) 15 64 n (Nat.lt_of_lt_of_le h (by decide))

set_option maxRecDepth 100000 in
set_option maxHeartbeats 8000000 in
theorem fmtUnicode_any {b : Nat} {w : World} {s : PS} {v : Value} {ib : List Value} (h : PP b w s v ib) (hf : FlOk s.fl) (hp : s.fl.precP = false) (hs : s.fl.sharp = false) (n : Nat) (hn : n < 18446744073709551616) (hl : Fits (s.out.length + 1000000000)) :
    Calls Tryz.prog 114 #[.pointer (some ⟨b, 1, none⟩), .int .u64 n] w (WroteI b w s v (padM s.fl.noZero (uniM n))) := by
  have c3 := h.c3
  have c6 := h.c6
  rw [hp] at c3
  rw [hs] at c6
  have HP := Lib.hid h
  have HF := Lib.hid hf
  have HL := Lib.hid hl
  have HN := Lib.hid hn
  clear h hf hp hs hl hn
  go_enter Tryz.func114, Tryz.ntmps114
  go_wp2
  go_loopw [1, 5, 7] (fun a p i W => ∃ (q j : Nat) (ys : Bytes), a = .int .u64 q ∧ p = .int .i64 (4 - (ys.length : Int)) ∧ i = .int .i64 j ∧ Hid (Scr b w.heap.size W s v b 13 68 j ys ∧ Fr b w v W v) ∧ j + ys.length = 68 ∧ ys.length ≤ 15 ∧ q ≤ n ∧ Hid (q < 16 ^ (16 - ys.length)) ∧ Hid (digits 16 true 64 n = digits 16 true (64 - ys.length) q ++ ys)) (fun a _ _ _ => (intOf a).toNat)
  case atStart => exact ⟨n, 68, [], rfl, rfl, rfl, ⟨Scr.start HP.out, Fr.refl _ _ _⟩, rfl, by decide, Nat.le_refl _, Nat.lt_of_lt_of_le HN.out (by decide), by show _ = _; simp⟩
  case round =>
    obtain ⟨q, j, ys, rfl, rfl, rfl, HS, hj, hyl, hqn, HQ, HD⟩ := hrel
    obtain ⟨j, rfl⟩ : ∃ j', j = j' + 1 := ⟨j - 1, by omega⟩
    obtain ⟨u0, hu0⟩ := HS.out.1.free (show j < 68 by omega)
    have hf0 := HS.out.1.frz (13 + j)
    have hudz : (⟨#[48, 49, 50, 51, 52, 53, 54, 55, 56, 57, 65, 66, 67, 68, 69, 70, 88]⟩ : ByteArray).size = 17 := rfl
    by_cases hlt : q < 16
    · have hdz : q < (⟨#[48, 49, 50, 51, 52, 53, 54, 55, 56, 57, 65, 66, 67, 68, 69, 70, 88]⟩ : ByteArray).size := by rw [hudz]; omega
      have hdb := bt_eq (⟨#[48, 49, 50, 51, 52, 53, 54, 55, 56, 57, 65, 66, 67, 68, 69, 70, 88]⟩ : ByteArray) q hdz
      obtain ⟨ds, hds⟩ : ∃ ds, ds = digits 16 true 64 n := ⟨_, rfl⟩
      have hdy : ds = digC true q :: ys := by
        rw [hds, HD.out, show 64 - ys.length = (63 - ys.length) + 1 by omega, digits, if_pos (by omega), Nat.mod_eq_of_lt hlt]
        rfl
      have e := digS_at true q hlt (dg := (⟨#[48, 49, 50, 51, 52, 53, 54, 55, 56, 57, 65, 66, 67, 68, 69, 70, 88]⟩ : ByteArray)) rfl
      have hS1 : Scr b w.heap.size (wr.setCell ⟨b, 13 + j, none⟩ (.int .u8 (bt (⟨#[48, 49, 50, 51, 52, 53, 54, 55, 56, 57, 65, 66, 67, 68, 69, 70, 88]⟩ : ByteArray) q))) s v b 13 68 j (digC true q :: ys) := by rw [← e]; exact HS.out.1.store _
      have hF1 : Fr b w v (wr.setCell ⟨b, 13 + j, none⟩ (.int .u8 (bt (⟨#[48, 49, 50, 51, 52, 53, 54, 55, 56, 57, 65, 66, 67, 68, 69, 70, 88]⟩ : ByteArray) q))) v := by rw [← e]; exact HS.out.1.fr HS.out.2 _
      have HSF := Lib.hid (And.intro hS1 hF1)
      have HDS := Lib.hid (And.intro hds hdy)
      clear hS1 hF1 hds hdy e HS HD HQ hqn
      go_wp2
      go_loopw [5, 7] (fun p i W => ∃ (j : Nat) (zs : Bytes), p = .int .i64 (4 - (zs.length : Int)) ∧ i = .int .i64 j ∧ Hid (Scr b w.heap.size W s v b 13 68 j zs ∧ Fr b w v W v) ∧ j + zs.length = 68 ∧ zs.length ≤ 16 ∧ Hid (intZeros 4 ds = intZeros 4 zs)) (fun p _ _ => (intOf p).toNat)
      case atStart => exact ⟨j, digC true q :: ys, by simp only [List.length_cons]; congr 1; omega, rfl, HSF.out, by simp only [List.length_cons]; omega, by simp only [List.length_cons]; omega, by rw [HDS.out.2]; rfl⟩
      case round =>
        clear HSF hu0 hf0 hj hyl
        obtain ⟨j, zs, rfl, rfl, HS, hj, hzl, HZ⟩ := hrel
        obtain ⟨j, rfl⟩ : ∃ j', j = j' + 1 := ⟨j - 1, by omega⟩
        by_cases hlt2 : (zs.length : Int) < 4
        · obtain ⟨u0, hu0⟩ := HS.out.1.free (show j < 68 by omega)
          have hf0 := HS.out.1.frz (13 + j)
          have HZ2 := Lib.hid (HZ.out.trans (intZeros_step 4 zs hlt2))
          clear HZ
          go_wp2
          go_roundw
          case rel => exact ⟨j, 48 :: zs, by simp only [List.length_cons]; congr 1; omega, by go_num, ⟨HS.out.1.store 48, HS.out.1.fr HS.out.2 48⟩, by simp only [List.length_cons]; omega, by simp only [List.length_cons]; omega, HZ2.out⟩
          case measure => simp [intOf]; omega
        · obtain ⟨j, rfl⟩ : ∃ j', j = j' + 1 := ⟨j - 1, by omega⟩
          have hz := HZ.out.trans (intZeros_stop 4 zs (by omega))
          have HZ2 := Lib.hid hz
          clear hz HZ
          obtain ⟨u0, hu0⟩ := HS.out.1.free (show j + 1 < 68 by omega)
          have hf0 := HS.out.1.frz (13 + (j + 1))
          have hS2 : Scr b w.heap.size (wr.setCell ⟨b, 13 + (j + 1), none⟩ (.int .u8 43)) s v b 13 68 (j + 1) (43 :: zs) := HS.out.1.store 43
          have hF2 : Fr b w v (wr.setCell ⟨b, 13 + (j + 1), none⟩ (.int .u8 43)) v := HS.out.1.fr HS.out.2 43
          obtain ⟨u1, hu1⟩ := hS2.free (show j < 68 by omega)
          have hf1 := hS2.frz (13 + j)
          have hS3 : Scr b w.heap.size ((wr.setCell ⟨b, 13 + (j + 1), none⟩ (.int .u8 43)).setCell ⟨b, 13 + j, none⟩ (.int .u8 85)) s v b 13 68 j (85 :: 43 :: zs) := hS2.store 85
          have hF3 : Fr b w v ((wr.setCell ⟨b, 13 + (j + 1), none⟩ (.int .u8 43)).setCell ⟨b, 13 + j, none⟩ (.int .u8 85)) v := hS2.fr hF2 85
          obtain ⟨ib3, hP3⟩ := hS3.pp
          have c8 := hP3.c8
          have f8 := hP3.frz 8
          have hS4 := hS3.flag (s' := { s with fl := { s.fl with zero := false } }) (j := 8) (.bool false) (by decide) (fun ib h => h.setZero false)
          obtain ⟨ib4, hP4⟩ := hS4.pp
          have hfl := HF.out
          have htl : (85 :: 43 :: zs).length ≤ 100 := by simp only [List.length_cons]; omega
          have CP := pad_any hP4 _ (85 :: 43 :: zs) (hS4.held (by decide)) hfl (HL.out.le (by have := hfl.2.1; have := hfl.1; show s.out.length + (85 :: 43 :: zs).length + s.fl.wid.toNat ≤ _; omega))
          have HCP := Lib.hid CP
          have HF3 := Lib.hid hF3
          have hj68 : j ≤ 68 := by omega
          clear hS2 hF2 hS3 hF3 hS4 hP3 hP4 CP hfl htl
          go_wp2_with (go_at_call 122; refine (HCP.out).mono ?_; rintro e w' ⟨rfl, v', hP', hF'⟩; have g8 := hP'.frz 8; have c8b := hP'.c8)
          go_end0
          have e : uniM n = 85 :: 43 :: zs := by unfold uniM; rw [← HDS.out.1, HZ2.out]
          rw [e]
          exact ⟨rfl, v', ib4, hP'.setZero s.fl.zero, ((HF3.out.setB 8 _).trans hF').setB 8 _⟩
    · obtain ⟨d, hd⟩ : ∃ d, d = q % 16 := ⟨_, rfl⟩
      have hd16 : d < 16 := by omega
      have hdd : (q : Int) % 16 = (d : Int) := by omega
      have hq64 : q < 18446744073709551616 := Nat.lt_of_le_of_lt hqn HN.out
      have hand : bits .and .u64 (q : Int) 15 = (d : Int) := (and_u64 4 (by decide) q hq64).trans hdd
      have hdz : d < (⟨#[48, 49, 50, 51, 52, 53, 54, 55, 56, 57, 65, 66, 67, 68, 69, 70, 88]⟩ : ByteArray).size := by rw [hudz]; omega
      have hdb := bt_eq (⟨#[48, 49, 50, 51, 52, 53, 54, 55, 56, 57, 65, 66, 67, 68, 69, 70, 88]⟩ : ByteArray) d hdz
      have e := digS_at true d hd16 (dg := (⟨#[48, 49, 50, 51, 52, 53, 54, 55, 56, 57, 65, 66, 67, 68, 69, 70, 88]⟩ : ByteArray)) rfl
      have hgk : q < 16 ^ (16 - ys.length) := HQ.out
      have hyl2 : ys.length ≤ 14 := by
        by_cases h15 : ys.length = 15
        · rw [h15] at hgk; simp at hgk; omega
        · omega
      have hq' : q / 16 < 16 ^ (16 - (ys.length + 1)) := by
        rw [show 16 - ys.length = (16 - (ys.length + 1)) + 1 by omega, Nat.pow_succ, Nat.mul_comm] at hgk
        exact Nat.div_lt_of_lt_mul hgk
      have hdg : digits 16 true 64 n = digits 16 true (64 - (ys.length + 1)) (q / 16) ++ (digC true d :: ys) := by
        rw [HD.out, show 64 - ys.length = (64 - (ys.length + 1)) + 1 by omega, digits, if_neg (by omega), List.append_assoc, hd]; rfl
      have hS1 : Scr b w.heap.size (wr.setCell ⟨b, 13 + j, none⟩ (.int .u8 (bt (⟨#[48, 49, 50, 51, 52, 53, 54, 55, 56, 57, 65, 66, 67, 68, 69, 70, 88]⟩ : ByteArray) d))) s v b 13 68 j (digC true d :: ys) := by rw [← e]; exact HS.out.1.store _
      have hF1 : Fr b w v (wr.setCell ⟨b, 13 + j, none⟩ (.int .u8 (bt (⟨#[48, 49, 50, 51, 52, 53, 54, 55, 56, 57, 65, 66, 67, 68, 69, 70, 88]⟩ : ByteArray) d))) v := by rw [← e]; exact HS.out.1.fr HS.out.2 _
      have HSF := Lib.hid (And.intro hS1 hF1)
      have HX := Lib.hid (And.intro hq' hdg)
      clear hS1 hF1 e HS HD HQ hgk hq' hdg hq64 hdd hd hd16
      go_wp2
      go_roundw
      case rel => exact ⟨q / 16, j, digC true d :: ys, rfl, by simp only [List.length_cons]; congr 1; omega, by go_num, HSF.out, by simp only [List.length_cons]; omega, by simp only [List.length_cons]; omega, by omega, HX.out.1, HX.out.2⟩
      case measure => simp [intOf]; omega

set_option maxRecDepth 100000 in
set_option maxHeartbeats 1000000 in
theorem ppC_any {b : Nat} {w : World} {s : PS} {v : Value} {ib : List Value} (h : PP b w s v ib) (x : Value) (u : Int) (h0 : 0 ≤ u) (h1 : u ≤ 1114111) (sg : Bool) (hf : FlOk s.fl) (hl : Fits (s.out.length + 1000000000)) :
    Calls Tryz.prog 94 #[.pointer (some ⟨b, 0, none⟩), x, .agg #[], .int .u64 u, .bool sg, .int .i32 99] w (WroteI b w s v (padM s.fl (encB u))) := by
  have C : ∀ (W : World), PP b W s v ib → Fr b w v W v → Calls Tryz.prog 112 #[.pointer (some ⟨b, 1, none⟩), .int .u64 u] W (WroteI b w s v (padM s.fl (encB u))) :=
    fun W hP hF => (fmtC_any hP hf u h0 h1 hl).mono fun e w' hq => wroteI_from hF hq
  have HP := Lib.hid h
  have HC := Lib.hid C
  clear hl hf h0 h1 h C
  go_enter Tryz.func94, Tryz.ntmps94
  go_wp2_with (go_at_call 112; refine (HC.out _ (by first | exact HP.out | exact HP.out.alloc _) (by first | exact Fr.refl _ _ _ | exact (Fr.refl _ _ _).alloc _)).mono ?_; rintro e w' ⟨rfl, hq⟩)
  go_end0
  exact ⟨rfl, hq⟩
set_option maxRecDepth 100000 in
set_option maxHeartbeats 1000000 in
theorem ppU_any {b : Nat} {w : World} {s : PS} {v : Value} {ib : List Value} (h : PP b w s v ib) (x : Value) (n : Nat) (hn : n < 18446744073709551616) (sg : Bool) (hf : FlOk s.fl) (hp : s.fl.precP = false) (hs : s.fl.sharp = false) (hl : Fits (s.out.length + 1000000000)) :
    Calls Tryz.prog 94 #[.pointer (some ⟨b, 0, none⟩), x, .agg #[], .int .u64 n, .bool sg, .int .i32 85] w (WroteI b w s v (padM s.fl.noZero (uniM n))) := by
  have C : ∀ (W : World), PP b W s v ib → Fr b w v W v → Calls Tryz.prog 114 #[.pointer (some ⟨b, 1, none⟩), .int .u64 n] W (WroteI b w s v (padM s.fl.noZero (uniM n))) :=
    fun W hP hF => (fmtUnicode_any hP hf hp hs n hn hl).mono fun e w' hq => wroteI_from hF hq
  have HP := Lib.hid h
  have HC := Lib.hid C
  clear hl hf hn hp hs h C
  go_enter Tryz.func94, Tryz.ntmps94
  go_wp2_with (go_at_call 114; refine (HC.out _ (by first | exact HP.out | exact HP.out.alloc _) (by first | exact Fr.refl _ _ _ | exact (Fr.refl _ _ _).alloc _)).mono ?_; rintro e w' ⟨rfl, hq⟩)
  go_end0
  exact ⟨rfl, hq⟩

/-- what printArg writes of an integer that is a code point, by the verbs c and U -/
def paC (a : Arg) (r : Int) (f : Fl) : Option Bytes :=
  match a with
  | .int _ _ n =>
    if uN n ≤ 1114111 ∧ f.precP = false ∧ f.sharp = false then (if r = 99 then some (padM f (encB (uN n))) else if r = 85 then some (padM f.noZero (uniM (uN n).toNat)) else none) else none
  | _ => none

/-- printArg of an integer, by what pp.fmtInteger writes of it -/
theorem printInt_by {b : Nat} {w : World} {s : PS} {v : Value} {x : Value} {ty : Nat} {k : IntKind} {n : Int} (hA : ArgIs b w v x (.int ty k n)) (r : Int) (hv1 : ¬ r = 84) (hv2 : ¬ r = 112) {T : Bytes}
    (C : ∀ (y : Value) (sg : Bool), Calls Tryz.prog 94 #[.pointer (some ⟨b, 0, none⟩), y, .agg #[], .int .u64 (uN n), .bool sg, .int .i32 r] w (WroteI b w s v T)) :
    Calls Tryz.prog 78 #[.pointer (some ⟨b, 0, none⟩), x, .int .i32 r] w (WroteI b w s v T) := by
  obtain ⟨rfl, ⟨nm, hm⟩, g1, g2⟩ := hA
  have hw : ∀ m : Int, IntKind.u64.wrap m = uN m := fun m => by rw [IntKind.wrap_u64]; rfl
  have hu : 0 ≤ n → n ≤ 18446744073709551615 → uN n = n := by intro q1 q2; unfold uN; omega
  simp only [intTypes, List.mem_cons, Prod.mk.injEq, List.not_mem_nil, or_false] at hm
  rcases hm with ⟨rfl, rfl, _⟩ | ⟨rfl, rfl, _⟩ | ⟨rfl, rfl, _⟩ | ⟨rfl, rfl, _⟩ | ⟨rfl, rfl, _⟩ | ⟨rfl, rfl, _⟩ | ⟨rfl, rfl, _⟩ | ⟨rfl, rfl, _⟩ | ⟨rfl, rfl, _⟩ | ⟨rfl, rfl, _⟩ | ⟨rfl, rfl, _⟩
  · exact printArg_3 n r hv1 hv2 (by rw [hw]; exact C _ _)
  · exact printArg_83 n g1 g2 r hv1 hv2 (by rw [hw]; exact C _ _)
  · exact printArg_84 n g1 g2 r hv1 hv2 (by rw [hw]; exact C _ _)
  · exact printArg_21 n g1 g2 r hv1 hv2 (by rw [hw]; exact C _ _)
  · exact printArg_2 n r hv1 hv2 (by rw [hw]; exact C _ _)
  · exact printArg_88 n r hv1 hv2 (by have := C (.iface 88 (.int .u64 n)) false; rw [hu g1 g2] at this; exact this)
  · exact printArg_5 n g1 g2 r hv1 hv2 (by have := C (.iface 5 (.int .u8 n)) false; rw [hu g1 (Int.le_trans g2 (by decide))] at this; exact this)
  · exact printArg_156 n g1 g2 r hv1 hv2 (by have := C (.iface 156 (.int .u16 n)) false; rw [hu g1 (Int.le_trans g2 (by decide))] at this; exact this)
  · exact printArg_53 n g1 g2 r hv1 hv2 (by have := C (.iface 53 (.int .u32 n)) false; rw [hu g1 (Int.le_trans g2 (by decide))] at this; exact this)
  · exact printArg_22 n r hv1 hv2 (by have := C (.iface 22 (.int .u64 n)) false; rw [hu g1 g2] at this; exact this)
  · exact printArg_12 n r hv1 hv2 (by have := C (.iface 12 (.int .u64 n)) false; rw [hu g1 g2] at this; exact this)

theorem paC_ok (b : Nat) (ty : Nat) (k : IntKind) (n : Int) : PaOk b paC (.int ty k n) := by
  intro w s v ib x r u hP _ hf hA _ _ hp hl
  unfold paC at hp
  simp only at hp
  have h0 : 0 ≤ uN n := by unfold uN; omega
  split at hp
  · rename_i hc
    split at hp
    · rename_i hr
      cases hp
      subst hr
      exact printInt_by hA 99 (by decide) (by decide) fun y sg => ppC_any hP y (uN n) h0 hc.1 sg hf (hl.le (by omega))
    · split at hp
      · rename_i hr
        cases hp
        subst hr
        refine printInt_by hA 85 (by decide) (by decide) fun y sg => ?_
        have := ppU_any hP y (uN n).toNat (by omega) sg hf hc.2.1 hc.2.2 (hl.le (by omega))
        rw [Int.toNat_of_nonneg h0] at this
        exact this
      · cases hp
  · cases hp

end Go.Proofs.YtcbliojofnigdaaGreatDoor
