/- FnBoolAndNil: the law's walk. -/
import Derived.Test.YtcbliojofnigdaaGreatDoorFlags
import Derived.Test.YtcbliojofnigdaaGreatDoorBoolNil
namespace Go.Proofs.YtcbliojofnigdaaGreatDoor
open Go Go.Proofs Go.RowKit

/-- the flags of a format by a minus and a width from 0 to 199 -/
def sfMW (m : Bool) (r : Nat) : SF := ⟨r, 0, decide (r ≠ 0), false, m, false, false, false, false⟩
/-- the format itself, without its verb -/
def fmtMW (m : Bool) (r : Nat) : Bytes := 37 :: (flagB m false false false false ++ widB r)
theorem flags_bn (m : Bool) (wid : Int) (h0 : -9223372036854775808 ≤ wid) (h1 : wid ≤ 9223372036854775807) : ∃ r : Nat, r < 200 ∧ ∀ w : World, Calls Tryz.prog 21 #[.int .i64 (if m then 1 else 0), .int .i64 wid, .int .i64 (-1)] w fun e w' => e = .returned (.tuple #[(sfMW m r).val, .string ⟨(fmtMW m r).toArray⟩]) ∧ Only none w w' := by
  by_cases hw : wid < 0
  · refine ⟨0, by decide, fun w => ?_⟩
    cases m
    · exact flags_0n wid w hw
    · exact flags_1n wid w hw
  · have hw' : 0 ≤ wid := by omega
    obtain ⟨r, hr⟩ : ∃ r : Nat, wid % 200 = (r : Int) := ⟨(wid % 200).toNat, by omega⟩
    refine ⟨r, by omega, fun w => ?_⟩
    by_cases hr0 : r = 0
    · subst hr0
      cases m
      · exact flags_0z wid w hw' hr
      · exact flags_1z wid w hw' hr
    · have e : ∀ p : Bytes, (⟨p.toArray⟩ : ByteArray) ++ ⟨(dec r).toArray⟩ = ⟨(p ++ widB r).toArray⟩ := by
        intro p
        unfold widB
        rw [if_neg hr0]
        exact (str_of (by rw [append_list])).symm
      have hd : decide (r ≠ 0) = true := decide_eq_true hr0
      cases m
      · have := flags_0p wid w hw' r hr (by omega)
        rw [show (⟨#[37]⟩ : ByteArray) = ⟨([37] : Bytes).toArray⟩ from rfl, e] at this
        unfold sfMW
        rw [hd]
        exact this
      · have := flags_1p wid w hw' r hr (by omega)
        rw [show (⟨#[37, 45]⟩ : ByteArray) = ⟨([37, 45] : Bytes).toArray⟩ from rfl, e] at this
        unfold sfMW
        rw [hd]
        exact this

/-- the printer's flags by that format -/
theorem fmtF_MW (m : Bool) (r : Nat) (hr : r < 200) : FlOk (fmtF (flagB m false false false false) (widB r) none) ∧ ∀ s, padM (fmtF (flagB m false false false false) (widB r) none) s = specPad (sfMW m r) s := by
  have hn := widB_num r (by omega)
  have hf := flagsF_bits m false false false false
  have e : fmtF (flagB m false false false false) (widB r) none = { minus := m, wid := (r : Int), widP := decide (r ≠ 0) } := by
    unfold fmtF
    rw [hf, hn.1, hn.2.1]
    rfl
  rw [e]
  refine ⟨⟨by simp only; omega, by simp only; omega, by simp only; omega, by simp only; omega⟩, fun s => ?_⟩
  refine padM_spec _ _ rfl ?_ rfl rfl s
  intro h
  have : r ≠ 0 := of_decide_eq_true h
  exact ⟨rfl, by simp only; omega⟩
theorem forVerb_pad (f : Fl) (r : Int) (s : Bytes) : padM (f.forVerb r) s = padM f s := by
  unfold Fl.forVerb
  split <;> rfl

/-- one verb by that format -/
theorem one_MW (m : Bool) (r : Nat) (hr : r < 200) (vb : UInt8) (hv : verbB vb) (hvw : vb.toNat ≠ 119) {z : LA} {a : Arg} {pa : Arg → Int → Fl → Option Bytes} (hz : Known [z] [a]) (hpa : ∀ b, PaOk b pa a) (x : Bytes) (hx : x.length ≤ 1000) (hp : ∀ f, pa a vb.toNat f = some (padM f x)) (w : World) :
    Calls Tryz.prog 20 #[.string ⟨(fmtMW m r ++ [vb]).toArray⟩, z.val] w fun e w' => e = .returned (.string ⟨(specPad (sfMW m r) x).toArray⟩) ∧ Only none w w' := by
  have hn := widB_num r (by omega)
  obtain ⟨hf1, hf2⟩ := fmtF_MW m r hr
  have hsz : (⟨(fmtMW m r ++ [vb]).toArray⟩ : ByteArray).size ≤ 100 := by
    rw [str_size]
    have hfl : (flagB m false false false false).length ≤ 1 := by cases m <;> decide
    have := hn.2.2.1
    simp only [fmtMW, List.length_append, List.length_cons, List.length_nil]
    omega
  have hM := dpM_one pa ⟨(fmtMW m r ++ [vb]).toArray⟩ (flagB m false false false false) (widB r) none vb a ps0 (by simp [fmtMW, precB]) rfl (flagB_isFlag _ _ _ _ _) hn.2.2.2.1 hn.2.2.1 hn.2.2.2.2 (fun ds h => by cases h) hv hvw
  rw [hp, Option.map_some, forVerb_pad, hf2] at hM
  have hM' : dpM ⟨(fmtMW m r ++ [vb]).toArray⟩ [a] pa (⟨(fmtMW m r ++ [vb]).toArray⟩ : ByteArray).size ⟨ps0, 0, 0, false⟩ = some (specPad (sfMW m r) x) := hM
  refine one_any hz hpa (show _ ≤ _ by omega) _ hM' ?_
  have hl : (specPad (sfMW m r) x).length ≤ x.length + 200 := by
    rw [← hf2]
    have h1 := padM_length (fmtF (flagB m false false false false) (widB r) none) x
    have h2 : (fmtF (flagB m false false false false) (widB r) none).wid = (r : Int) := by unfold fmtF; rw [flagsF_bits, hn.1]; rfl
    rw [h2] at h1
    omega
  show _ ≤ _
  omega

/-- all that the law asks of its two formats -/
theorem bn_setup (m : Bool) (wid : Int) (h0 : -9223372036854775808 ≤ wid) (h1 : wid ≤ 9223372036854775807) : ∃ (f : SF) (P : ByteArray), P.size ≤ 100 ∧ 0 ≤ f.wid ∧ f.wid ≤ 1000000 ∧
    (∀ w : World, Calls Tryz.prog 21 #[.int .i64 (if m then 1 else 0), .int .i64 wid, .int .i64 (-1)] w fun e w' => e = .returned (.tuple #[f.val, .string P]) ∧ Only none w w') ∧
    (∀ (vb : UInt8), verbB vb → vb.toNat ≠ 119 → ∀ {z : LA} {a : Arg} {pa : Arg → Int → Fl → Option Bytes}, Known [z] [a] → (∀ b, PaOk b pa a) → ∀ x : Bytes, x.length ≤ 1000 → (∀ f, pa a vb.toNat f = some (padM f x)) → ∀ w : World,
      Calls Tryz.prog 20 #[.string (P ++ ⟨#[vb]⟩), z.val] w fun e w' => e = .returned (.string ⟨(specPad f x).toArray⟩) ∧ Only none w w') := by
  obtain ⟨r, hr, C⟩ := flags_bn m wid h0 h1
  refine ⟨sfMW m r, ⟨(fmtMW m r).toArray⟩, ?_, ?_, ?_, C, ?_⟩
  · rw [str_size]
    have hn := widB_num r (by omega)
    have hfl : (flagB m false false false false).length ≤ 1 := by cases m <;> decide
    have := hn.2.2.1
    simp only [fmtMW, List.length_append, List.length_cons]
    omega
  · show (0 : Int) ≤ (r : Int); omega
  · show (r : Int) ≤ 1000000; omega
  · intro vb hv hvw z a pa hz hpa x hx hp w
    have e : (⟨(fmtMW m r).toArray⟩ : ByteArray) ++ ⟨#[vb]⟩ = ⟨(fmtMW m r ++ [vb]).toArray⟩ := (str_of (by rw [append_list])).symm
    rw [e]
    exact one_MW m r hr vb hv hvw hz hpa x hx hp w

theorem ascii_nil : Ascii ⟨#[60, 110, 105, 108, 62]⟩ := by
  intro i hi
  have : i < 5 := hi
  match i, this with
  | 0, _ => decide
  | 1, _ => decide
  | 2, _ => decide
  | 3, _ => decide
  | 4, _ => decide
theorem ascii_true : Ascii ⟨#[116, 114, 117, 101]⟩ := by
  intro i hi
  have : i < 4 := hi
  match i, this with
  | 0, _ => decide
  | 1, _ => decide
  | 2, _ => decide
  | 3, _ => decide
theorem ascii_false : Ascii ⟨#[102, 97, 108, 115, 101]⟩ := by
  intro i hi
  have : i < 5 := hi
  match i, this with
  | 0, _ => decide
  | 1, _ => decide
  | 2, _ => decide
  | 3, _ => decide
  | 4, _ => decide

def zNil : LA := ⟨0, 0, ⟨#[]⟩⟩
def zBool (y : Bool) : LA := ⟨1, (if y then 1 else 0), ⟨#[]⟩⟩
theorem zNil_known : Known [zNil] [.nil] := known_one rfl (by decide) (by decide)
theorem zBool_known (y : Bool) : Known [zBool y] [.bool y] := by cases y <;> exact known_one rfl (by decide) (by decide)

/-- the ways in which worlds lie one behind the other here -/
theorem only_after {f : Nat} {xs : Array Value} {s : Value} {W0 W : World} (C : Calls Tryz.prog f xs W fun e w' => e = .returned s ∧ Only none W w') (h : Only none W0 W) : Calls Tryz.prog f xs W fun e w' => e = .returned s ∧ Only none W0 w' :=
  C.mono fun _ _ hq => ⟨hq.1, h.trans hq.2⟩
theorem only_two {w w1 W w2 w3 : World} (h1 : Only none w w1) (h2 : Only none w1 W) (h3 : Only none W w2) (h4 : Only none w2 w3) : Only none w w3 := ((h1.trans h2).trans h3).trans h4

set_option maxRecDepth 100000 in
set_option maxHeartbeats 4000000 in
theorem FnBoolAndNil_nil (B : Int) (m : Bool) (wid : Int) (h0 : -9223372036854775808 ≤ wid) (h1 : wid ≤ 9223372036854775807) (w : World) : Calls Tryz.prog 4 #[.int .u64 B, .bool false, .bool m, .int .i64 wid] w fun e w' => e = .returned (.bool true) ∧ Below w.heap.size w w' := by
  obtain ⟨f, P, hP, hf0, hf1, C21, C20⟩ := bn_setup m wid h0 h1
  have hps : ¬ 9223372036854775807 < P.size + 1 := by omega
  have CN := C20 118 (.inr (by decide)) (by decide) (z := zNil) (a := .nil) (pa := paBN) zNil_known paBN_nil (lit "<nil>") (by decide +kernel) (fun f => rfl)
  have CP := fun w => Pad_any f ⟨#[60, 110, 105, 108, 62]⟩ ascii_nil (by decide) hf0 hf1 w
  have el : (⟨#[60, 110, 105, 108, 62]⟩ : ByteArray).data.toList = lit "<nil>" := by decide +kernel
  rw [el] at CP
  obtain ⟨R, hR⟩ : ∃ R : ByteArray, R = ⟨(specPad f (lit "<nil>")).toArray⟩ := ⟨_, rfl⟩
  rw [← hR] at CN CP
  clear hR el C20 hP h0 h1 hf0 hf1
  obtain ⟨fw, fp, hw, hp, fm, fpl, fs, fsp, fz⟩ := f
  unfold SF.val at C21 CP
  unfold LA.val zNil at CN
  dsimp only at C21 CP CN
  have H21 := Lib.hid C21
  have HN := Lib.hid CN
  have HPd := Lib.hid CP
  clear C21 CN CP
  cases m <;>
  · go_enter Tryz.func4, Tryz.ntmps4
    go_wp2_with (go_at_call 21; refine (H21.out _).mono ?_; rintro e w1 ⟨rfl, hO1⟩)
    go_region_with (first | (go_at_call 20; refine (HN.out _).mono ?_; rintro e w2 ⟨rfl, hO2⟩; have hc2 := fun j => only_cellAt hO2 (k := w1.heap.size) (by simp) j) | (go_at_call 22; refine (HPd.out _).mono ?_; rintro e w3 ⟨rfl, hO3⟩))
    all_goals
      go_wp2
      go_ret
      refine ⟨rfl, Only.below ?_⟩
      first
        | exact only_two hO1 (((Only.refl _ _).alloc _).drew) hO2 hO3
        | exact only_two hO1 (((Only.refl _ _).alloc _).drew) hO3 hO2

theorem spread54 (u : Nat → Value) : (List.range 54).map u = [u 0, u 1, u 2, u 3, u 4, u 5, u 6, u 7, u 8, u 9, u 10, u 11, u 12, u 13, u 14, u 15, u 16, u 17, u 18, u 19, u 20, u 21, u 22, u 23, u 24, u 25, u 26, u 27, u 28, u 29, u 30, u 31, u 32, u 33, u 34, u 35, u 36, u 37, u 38, u 39, u 40, u 41, u 42, u 43, u 44, u 45, u 46, u 47, u 48, u 49, u 50, u 51, u 52, u 53] := rfl
theorem open54 {L : List Value} (h : L.length = 54) : ∃ u : Nat → Value, L = [u 0, u 1, u 2, u 3, u 4, u 5, u 6, u 7, u 8, u 9, u 10, u 11, u 12, u 13, u 14, u 15, u 16, u 17, u 18, u 19, u 20, u 21, u 22, u 23, u 24, u 25, u 26, u 27, u 28, u 29, u 30, u 31, u 32, u 33, u 34, u 35, u 36, u 37, u 38, u 39, u 40, u 41, u 42, u 43, u 44, u 45, u 46, u 47, u 48, u 49, u 50, u 51, u 52, u 53] := by
  obtain ⟨u, hu⟩ : ∃ u : Nat → Value, ∀ n, n < L.length → L[n]? = some (u n) := ⟨fun n => L[n]?.getD undef, fun n hn => by simp [hn]⟩
  refine ⟨u, ?_⟩
  have e := list_spread L u hu
  rw [h, spread54] at e
  exact e

set_option maxRecDepth 100000 in
set_option maxHeartbeats 8000000 in
theorem FnBoolAndNil_bool (B : Int) (hB0 : 0 ≤ B) (hB1 : B ≤ 18446744073709551615) (m : Bool) (wid : Int) (h0 : -9223372036854775808 ≤ wid) (h1 : wid ≤ 9223372036854775807) (w : World) : Calls Tryz.prog 4 #[.int .u64 B, .bool true, .bool m, .int .i64 wid] w fun e w' => e = .returned (.bool true) ∧ Below w.heap.size w w' := by
  obtain ⟨f, P, hP, hf0, hf1, C21, C20⟩ := bn_setup m wid h0 h1
  have hps : ¬ 9223372036854775807 < P.size + 1 := by omega
  obtain ⟨y, hy⟩ : ∃ y : Bool, bits .and .u64 B 1 = (if y then 1 else 0) := by
    rw [and_one_u64 B hB0 hB1]
    have : B % 2 = 0 ∨ B % 2 = 1 := by omega
    rcases this with h | h
    · exact ⟨false, h⟩
    · exact ⟨true, h⟩
  have CT := C20 116 (.inr (by decide)) (by decide) (z := zBool y) (a := .bool y) (pa := paBN) (zBool_known y) (fun b => paBN_bool b y) (boolT y) (by have := boolT_len y; omega) (fun f => rfl)
  have CV := C20 118 (.inr (by decide)) (by decide) (z := zBool y) (a := .bool y) (pa := paBN) (zBool_known y) (fun b => paBN_bool b y) (boolT y) (by have := boolT_len y; omega) (fun f => rfl)
  obtain ⟨S, hS, hSA, hSs⟩ : ∃ S : ByteArray, S = (if y then ⟨#[116, 114, 117, 101]⟩ else ⟨#[102, 97, 108, 115, 101]⟩) ∧ Ascii S ∧ S.size ≤ 5 := by
    cases y
    · exact ⟨_, rfl, ascii_false, by decide⟩
    · exact ⟨_, rfl, ascii_true, by decide⟩
  have CP := fun w => Pad_any f S hSA (by omega) hf0 hf1 w
  have el : S.data.toList = boolT y := by rw [hS]; cases y <;> decide +kernel
  rw [el] at CP
  obtain ⟨R, hR⟩ : ∃ R : ByteArray, R = ⟨(specPad f (boolT y)).toArray⟩ := ⟨_, rfl⟩
  rw [← hR] at CT CV CP
  obtain ⟨c, hc⟩ : ∃ c : Int, c = (if y then 1 else 0) := ⟨_, rfl⟩
  obtain ⟨n, hn⟩ : ∃ n : Int, n = (if m then 1 else 0) := ⟨_, rfl⟩
  rw [← hc] at hy
  have hS1 : (c = 1 ∧ S = ⟨#[116, 114, 117, 101]⟩) ∨ (¬ c = 1 ∧ S = ⟨#[102, 97, 108, 115, 101]⟩) := by
    rw [hc, hS]
    cases y
    · exact .inr ⟨by decide, rfl⟩
    · exact .inl ⟨rfl, rfl⟩
  obtain ⟨fw, fp, hw, hp, fm, fpl, fs, fsp, fz⟩ := f
  unfold SF.val at C21 CP
  unfold LA.val zBool at CT CV
  dsimp only at C21 CP CT CV
  rw [← hc] at CT CV
  rw [← hn] at C21
  have H21 := Lib.hid C21
  have HT := Lib.hid (fun W0 W (h : Only none W0 W) => only_after (CT W) h)
  have HV := Lib.hid (fun W0 W (h : Only none W0 W) => only_after (CV W) h)
  have HPd := Lib.hid (fun W0 W (h : Only none W0 W) => only_after (CP W) h)
  have HS := Lib.hid hS1
  have HNm := Lib.hid hn
  clear hR el C20 hP h0 h1 hf0 hf1 hSA hSs hB0 hB1 C21 CT CV CP hS hS1 hc hn
  go_enter Tryz.func4, Tryz.ntmps4
  go_upto_if 14 with fail
  refine wp_cut (fun a' w' => ∃ L : List Value, a' = ⟨L.toArray, []⟩ ∧ L.length = 54 ∧ L[0]? = some (.int .u64 B) ∧ L[1]? = some (.bool true) ∧ L[3]? = some (.int .i64 wid) ∧ L[9]? = some (.int .i64 n) ∧ w' = w) ?_ ?_
  · intro a1 w1 hR
    obtain ⟨L, rfl, hl, e0, e1, e3, e9, rfl⟩ := hR
    obtain ⟨u, rfl⟩ := open54 hl
    have d0 : u 0 = .int .u64 B := by simpa using e0
    have d1 : u 1 = .bool true := by simpa using e1
    have d3 : u 3 = .int .i64 wid := by simpa using e3
    have d9 : u 9 = .int .i64 n := by simpa using e9
    rw [d0, d1, d3, d9]
    clear hl e0 e1 e3 e9 d0 d1 d3 d9
    go_upto_if 32 with (go_at_call 21; refine (H21.out _).mono ?_; rintro e w2 ⟨rfl, hO1⟩)
    refine wp_cut (fun a' w' => ∃ L : List Value, a' = ⟨L.toArray, []⟩ ∧ L.length = 54 ∧ L[0]? = some (.int .u64 B) ∧ L[10]? = some (.pointer (some ⟨w2.heap.size, 0, none⟩)) ∧ L[11]? = some (.string P) ∧ L[12]? = some (.string S) ∧ w' = w2.alloc (.cells #[.int .i64 fw, .int .i64 fp, .bool hw, .bool hp, .bool fm, .bool fpl, .bool fs, .bool fsp, .bool fz] 35)) ?_ ?_
    · intro a3 w3 hR
      obtain ⟨L, rfl, hl, e0, e10, e11, e12, rfl⟩ := hR
      obtain ⟨u2, rfl⟩ := open54 hl
      have d0 : u2 0 = .int .u64 B := by simpa using e0
      have d10 : u2 10 = .pointer (some ⟨w2.heap.size, 0, none⟩) := by simpa using e10
      have d11 : u2 11 = .string P := by simpa using e11
      have d12 : u2 12 = .string S := by simpa using e12
      rw [d0, d10, d11, d12]
      clear hl e0 e10 e11 e12 d0 d10 d11 d12
      go_wp2_with fail
      go_region_with (first
        | (go_at_call 20; refine (HT.out _ _ (by first | assumption | exact Only.refl _ _ | exact (Only.refl _ _).drew | exact (Only.refl _ _).drew.drew)).mono ?_; rintro e w4 ⟨rfl, hOa⟩; have hc := fun j => only_cellAt hOa (k := w2.heap.size) (by simp <;> omega) j; have hd := fun j => only_cellAt hOa (k := w2.heap.size + 1) (by simp <;> omega) j)
        | (go_at_call 20; refine (HV.out _ _ (by first | assumption | exact Only.refl _ _ | exact (Only.refl _ _).drew | exact (Only.refl _ _).drew.drew)).mono ?_; rintro e w4 ⟨rfl, hOa⟩; have hc := fun j => only_cellAt hOa (k := w2.heap.size) (by simp <;> omega) j; have hd := fun j => only_cellAt hOa (k := w2.heap.size + 1) (by simp <;> omega) j)
        | (go_at_call 22; refine (HPd.out _ _ (by first | assumption | exact Only.refl _ _ | exact (Only.refl _ _).drew | exact (Only.refl _ _).drew.drew)).mono ?_; rintro e w4 ⟨rfl, hOa⟩; have hc := fun j => only_cellAt hOa (k := w2.heap.size) (by simp <;> omega) j; have hd := fun j => only_cellAt hOa (k := w2.heap.size + 1) (by simp <;> omega) j))
      all_goals
        go_wp2
        go_ret
        exact ⟨rfl, Only.below (only_two hO1 ((((Only.refl _ _).alloc _).alloc _).drew) hOa (Only.refl _ _))⟩
    · intro J K hJ hK
      rcases HS.out with ⟨h1, h2⟩ | ⟨h1, h2⟩
      · subst h2
        subst h1
        go_wp2_with fail
        exact Met.intro (hJ _ _ ⟨_, rfl, rfl, rfl, rfl, rfl, rfl, rfl⟩)
      · subst h2
        go_wp2_with fail
        exact Met.intro (hJ _ _ ⟨_, rfl, rfl, rfl, rfl, rfl, rfl, rfl⟩)
  · intro J K hJ hK
    have hn := HNm.out
    cases m
    · have hn0 : n = 0 := hn
      clear hn
      subst hn0
      go_wp2_with fail
      exact Met.intro (hJ _ _ ⟨_, rfl, rfl, rfl, rfl, rfl, rfl, rfl⟩)
    · have hn0 : n = 1 := hn
      clear hn
      subst hn0
      go_wp2_with fail
      exact Met.intro (hJ _ _ ⟨_, rfl, rfl, rfl, rfl, rfl, rfl, rfl⟩)

theorem FnBoolAndNil_walk (B : Int) (hB0 : 0 ≤ B) (hB1 : B ≤ 18446744073709551615) (y m : Bool) (wid : Int) (h0 : -9223372036854775808 ≤ wid) (h1 : wid ≤ 9223372036854775807) (w : World) : Calls Tryz.prog 4 #[.int .u64 B, .bool y, .bool m, .int .i64 wid] w fun e w' => e = .returned (.bool true) ∧ Below w.heap.size w w' := by
  cases y
  · exact FnBoolAndNil_nil B m wid h0 h1 w
  · exact FnBoolAndNil_bool B hB0 hB1 m wid h0 h1 w

end Go.Proofs.YtcbliojofnigdaaGreatDoor
