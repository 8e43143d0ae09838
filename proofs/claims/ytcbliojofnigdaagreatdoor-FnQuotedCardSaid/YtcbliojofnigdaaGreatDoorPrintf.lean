/- doPrintf. -/
import Derived.Test.YtcbliojofnigdaaGreatDoorPfFin
namespace Go.Proofs.YtcbliojofnigdaaGreatDoor
open Go Go.Proofs Go.RowKit

set_option maxRecDepth 100000 in
set_option maxHeartbeats 8000000 in
theorem doPrintf_any {b : Nat} {pa : Arg → Int → Fl → Option Bytes} {l : List Arg} {w : World} {s : PS} {v : Value} {ib : List Value} (hpa : ∀ y ∈ l, PaAt b w v pa y) (h : PP b w s v ib) (he : s.err = false) (hfl : FlOk s.fl) (t : ByteArray) (a : Value)
    (ha : ArgsAt b w v a l) (ht : Fits t.size) (hn : l.length ≤ 100000000) (out : Bytes) (hM : dpM t l pa t.size ⟨{ s with reord := false }, 0, 0, false⟩ = some out) (hl : Fits (out.length + 1000000000)) :
    Calls Tryz.prog 70 #[.pointer (some ⟨b, 0, none⟩), .string t, a] w (fun e w' => e = .returned (.tuple #[]) ∧ ∃ s' v' ib', s'.out = out ∧ PP b w' s' v' ib' ∧ Fr b w v w' v') := by
  obtain ⟨p, c, rfl⟩ := ha.slice
  have f81 := h.frz 81
  have c81 := h.c81
  have HP := Lib.hid h
  have HA := Lib.hid ha
  have HM := Lib.hid hM
  have HE := Lib.hid he
  have HFL := Lib.hid hfl
  have ht' : (t.size : Int) ≤ 100000000000000 := by have : t.size ≤ 35184372088832 := ht; omega
  have hn' : (l.length : Int) ≤ 100000000 := by omega
  have HPA := Lib.hid hpa
  clear h ha hM he hn hpa hfl
  go_enter Tryz.func70, Tryz.ntmps70
  go_wp2_with fail
  go_step3
  go_wp2_with fail
  go_step3
  go_wp2_with fail
  refine wp_cutB (fun a' w' => ∃ L d s8 s9, a' = ⟨L.toArray, []⟩ ∧ Fm (.pointer (some ⟨b, 0, none⟩)) (.string t) (.slice p l.length c) (.int .i64 t.size) (.int .i64 d.k) s8 s9 L ∧ At b w v t l w' d ∧ Hid (finD l pa d = some out)) ?_ ?_
  · intro a1 w1 hR
    clear HP HM HE HFL f81 c81
    obtain ⟨L, d, s8, s9, rfl, hFm, ⟨v1, ib1, hP1, hF1, hD1⟩, HX⟩ := hR
    obtain ⟨u, rfl⟩ := hFm.open
    clear hFm
    have c81 := hP1.c81
    have k1 := hD1.k
    by_cases hc : d.s.reord = false ∧ d.k < l.length
    · obtain ⟨hc1, hc2⟩ := hc
      obtain ⟨z, hz, ho⟩ := finD_extra HX.out hc1 hc2
      rw [hc1] at c81
      have hlt : (d.k : Int) < l.length := by omega
      have hA1 := HA.out.step hF1
      have hcap := hA1.cap
      obtain ⟨ka, ao, x0, rfl, hkb, -, -⟩ := hA1.at hc2
      have hlen0 : d.s.out.length + 9 + z.length + 1 = out.length := by
        rw [← ho]
        simp only [List.length_append, List.length_cons, List.length_nil, show (lit "%!(EXTRA ").length = 9 by decide +kernel]
      have HP := Lib.hid hP1
      have HF := Lib.hid hF1
      have HZ := Lib.hid (And.intro hz ho)
      have HL0 := Lib.hid hlen0
      have he1 := Lib.hid hD1.err
      clear hP1 hF1 hD1 HX hz ho hA1 hlen0
      go_wp2_with (go_at_call 77; refine (clearflags_any HP.out).mono ?_; rintro e w' ⟨rfl, hP2, hF2⟩)
      have CW := writeLit hP2 "%!(EXTRA " #[37, 33, 40, 69, 88, 84, 82, 65, 32] extra_lit (hl.le (by show d.s.out.length + _ ≤ _; have := HL0.out; simp only [show (lit "%!(EXTRA ").length = 9 by decide +kernel]; omega))
      have HCW := Lib.hid CW
      have HF2 := Lib.hid (HF.out.trans hF2)
      clear CW hP2 hF2 HP HF c81
      go_wp2_with (go_at_call 76; refine (HCW.out).mono ?_; rintro e w' ⟨rfl, v3, hP3, hF3⟩)
      have HP3 := Lib.hid hP3
      have HF3 := Lib.hid (HF2.out.trans hF3)
      clear hP3 hF3 HCW HF2
      refine wp_loop_ghost_k (fun gk a' w' => ∃ L, ∃ j : Nat, ∃ s' : PS, ∃ v' ib', a' = ⟨L.toArray, []⟩ ∧ Fm (.pointer (some ⟨b, 0, none⟩)) (.string t) (.slice (some ⟨ka, ao, none⟩) l.length c) (.int .i64 t.size) (.int .i64 d.k) s8 s9 L ∧ L[523]? = some (.slice (some ⟨ka, ao + d.k, none⟩) (l.length - d.k) (c - d.k)) ∧ L[524]? = some (.int .i64 ((l.length - d.k : Nat) : Int)) ∧ L[525]? = some (.int .i64 (j : Int)) ∧ PP b w' s' v' ib' ∧ Fr b w v w' v' ∧ s'.err = false ∧ s'.fl = {} ∧ d.k + j ≤ l.length ∧ l.length - d.k - j ≤ gk ∧ Hid (∃ z, extras pa (decide (j = 0)) (l.drop (d.k + j)) = some z ∧ s'.out ++ z ++ [41] = out)) l.length ?_ ?_
      · exact ⟨_, 0, _, v3, ib1, rfl, ⟨rfl, rfl, rfl, rfl, rfl, rfl, rfl, rfl⟩, rfl, rfl, rfl, HP3.out, HF3.out, he1.out, rfl, by omega, by omega, ⟨z, HZ.out.1, HZ.out.2⟩⟩
      · intro gk a' wr hJ
        clear HP3 HF3 HZ HL0 he1
        obtain ⟨L, j, s1, v2, ib2, rfl, hFm, h523, h524, h525, hP, hF, hes, hfs, hjl, hg, HZ⟩ := hJ
        obtain ⟨u2, rfl⟩ := hFm.open
        have e523 : u2 523 = .slice (some ⟨ka, ao + d.k, none⟩) (l.length - d.k) (c - d.k) := by simpa using h523
        have e524 : u2 524 = .int .i64 ((l.length - d.k : Nat) : Int) := by simpa using h524
        have e525 : u2 525 = .int .i64 (j : Int) := by simpa using h525
        rw [e523, e524, e525]
        clear hFm h523 h524 h525 e523 e524 e525
        intro J K hJ hK
        by_cases hjn : d.k + j < l.length
        · obtain ⟨ka', ao', xv, hpp, -, hcell, hAx⟩ := (HA.out.step hF).at hjn
          cases hpp
          obtain ⟨z, hz, ho⟩ := HZ
          rw [List.drop_eq_getElem_cons hjn] at hz
          obtain ⟨x1, z1, hx1, hz1, rfl⟩ := extras_cons hz
          have hz1' : extras pa (decide (j + 1 = 0)) (l.drop (d.k + (j + 1))) = some z1 := by rw [decide_eq_false (by omega)]; exact hz1
          have hlen : s1.out.length + (if decide (j = 0) = true then [] else [44, 32] : Bytes).length + x1.length + z1.length + 1 = out.length := by
            rw [← ho]
            simp only [List.length_append, List.length_cons, List.length_nil]
            omega
          have hlt : (j : Int) < ((l.length - d.k : Nat) : Int) := by omega
          have hcell' : wr.cell? ⟨ka, ao + d.k + j, none⟩ = some xv := by rw [Nat.add_assoc]; exact hcell
          have hym : l[d.k + j] ∈ l := List.getElem_mem _
          obtain ⟨y, hy⟩ : ∃ y, y = l[d.k + j] := ⟨_, rfl⟩
          rw [← hy] at hx1 hAx hym
          obtain ⟨cm, hcm⟩ : ∃ cm : Bytes, cm = (if decide (j = 0) = true then [] else [44, 32]) := ⟨_, rfl⟩
          rw [← hcm] at ho hlen
          have HP := Lib.hid hP
          have HF := Lib.hid hF
          have HZ1 := Lib.hid (And.intro hz1' (And.intro ho hlen))
          have HX1 := Lib.hid (And.intro hx1 (And.intro hAx hym))
          have HG := Lib.hid (And.intro hes hfs)
          have HCM := Lib.hid hcm
          clear hP hF hz1 hz1' ho hlen hz hx1 hAx hym hy hes hfs hcell hcm
          go_upto_if 531 with fail
          refine wp_cut (fun a' w' => ∃ L, ∃ v', a' = ⟨L.toArray, []⟩ ∧ Fm (.pointer (some ⟨b, 0, none⟩)) (.string t) (.slice (some ⟨ka, ao, none⟩) l.length c) (.int .i64 t.size) (.int .i64 d.k) s8 s9 L ∧ L[523]? = some (.slice (some ⟨ka, ao + d.k, none⟩) (l.length - d.k) (c - d.k)) ∧ L[524]? = some (.int .i64 ((l.length - d.k : Nat) : Int)) ∧ L[525]? = some (.int .i64 (j : Int)) ∧ L[15]? = some xv ∧ PP b w' (s1.put cm) v' ib2 ∧ Fr b wr v2 w' v') ?_ ?_
          · intro a2 wr2 hR
            obtain ⟨L, v3, rfl, hFm, h523, h524, h525, h15, hP, hF2⟩ := hR
            obtain ⟨u3, rfl⟩ := hFm.open
            have e523 : u3 523 = .slice (some ⟨ka, ao + d.k, none⟩) (l.length - d.k) (c - d.k) := by simpa using h523
            have e524 : u3 524 = .int .i64 ((l.length - d.k : Nat) : Int) := by simpa using h524
            have e525 : u3 525 = .int .i64 (j : Int) := by simpa using h525
            have e15 : u3 15 = xv := by simpa using h15
            rw [e523, e524, e525, e15]
            clear hFm h523 h524 h525 h15 e523 e524 e525 e15 hcell' HP HCM
            have hFF := HF.out.trans hF2
            have hA2 := HX1.out.2.1.step hF2
            obtain ⟨hz1, ho, hlen⟩ := HZ1.out
            by_cases hny : y = .nil
            · subst hny
              have hxn := exElem_nil HX1.out.1
              have hxv : xv = .nilIface := hA2
              subst hxv
              have hl5 : (lit "<nil>").length = 5 := by decide +kernel
              rw [hxn, hl5] at hlen
              have CW := writeLit hP "<nil>" #[60, 110, 105, 108, 62] nil_lit (hl.le (by simp only [PS.put, List.length_append, hl5]; omega))
              have HCW := Lib.hid CW
              have HFF := Lib.hid hFF
              have HH := Lib.hid (And.intro hz1 (And.intro ho hxn))
              clear CW hP hF2 hFF hA2 hz1 ho hlen hxn HZ1
              go_wp2_with (go_at_call 76; refine (HCW.out).mono ?_; rintro e w' ⟨rfl, v', hP', hF'⟩)
              refine Handed.intro (gk - 1) (by omega) (hJ _ _ _ ⟨_, j + 1, _, v', ib2, rfl, ⟨rfl, rfl, rfl, rfl, rfl, rfl, rfl, rfl⟩, rfl, rfl, by go_num, hP', HFF.out.trans hF', HG.out.1, HG.out.2, by omega, by omega, ⟨z1, HH.out.1, ?_⟩⟩)
              rw [← HH.out.2.1, HH.out.2.2]
              simp only [PS.put, List.append_assoc]
            · obtain ⟨T, xu, rfl⟩ := hA2.held hny
              obtain ⟨yv, hyv, hx1⟩ := exElem_held HX1.out.1 hny
              have hxl : x1.length = y.name.length + 1 + yv.length := by rw [hx1]; simp only [List.length_append, List.length_cons, List.length_nil]
              have CN := fun W => typeName_any hA2 hny W
              have C76 : ∀ W, PP b W (s1.put cm) v3 ib2 → Fr b wr2 v3 W v3 → Calls Tryz.prog 76 #[.pointer (some ⟨b, 0, none⟩), .string ⟨y.name.toArray⟩] W fun e w' => e = .returned (.tuple #[]) ∧ ∃ v', PP b w' ((s1.put cm).put y.name) v' ib2 ∧ Fr b wr2 v3 w' v' := by
                intro W h1 h2
                refine (writeString_any h1 ⟨y.name.toArray⟩ (hl.le (by show (s1.out ++ cm).length + y.name.toArray.size ≤ _; simp only [List.length_append, List.size_toArray]; omega)).room).mono ?_
                rintro e w' ⟨rfl, v', hP', hF'⟩
                exact ⟨rfl, v', by simpa [PS.put] using hP', h2.trans hF'⟩
              have C83 : ∀ W v', PP b W ((s1.put cm).put y.name) v' ib2 → Calls Tryz.prog 83 #[.pointer (some ⟨b, 0, none⟩), .int .u8 61] W (Wrote b W ((s1.put cm).put y.name) v' ib2 [61]) := by
                intro W v' h1
                exact writeByte_any h1 61 (by decide) (by decide) (hl.le (by simp only [PS.put, List.length_append]; omega)).room
              have C78 : ∀ W v', PP b W (((s1.put cm).put y.name).put [61]) v' ib2 → Fr b wr2 v3 W v' → Calls Tryz.prog 78 #[.pointer (some ⟨b, 0, none⟩), .iface T xu, .int .i32 118] W fun e w' => e = .returned (.tuple #[]) ∧ ∃ v'' ib', PP b w' ((((s1.put cm).put y.name).put [61]).put yv) v'' ib' ∧ Fr b w v w' v'' := by
                intro W v' h1 h2
                have hf0 : (((s1.put cm).put y.name).put [61]).fl = {} := HG.out.2
                refine (HPA.out y HX1.out.2.2 W _ v' ib2 _ 118 yv h1 (hFF.trans h2) HG.out.1 (by rw [hf0]; exact flOk_zero) (hA2.step h2) (by decide) (by decide) (by rw [hf0]; exact hyv) (hl.le (by simp only [PS.put, List.length_append, List.length_cons, List.length_nil]; omega))).mono ?_
                rintro e w' ⟨rfl, v'', ib', hP', hF'⟩
                exact ⟨rfl, v'', ib', hP', (hFF.trans h2).trans hF'⟩
              have HCN := Lib.hid CN
              have HC76 := Lib.hid C76
              have HC83 := Lib.hid C83
              have HC78 := Lib.hid C78
              have HP := Lib.hid hP
              have HH := Lib.hid (And.intro hz1 (And.intro ho hx1))
              clear CN C76 C83 C78 hP hF2 hFF hA2 hz1 ho hlen hx1 hxl HZ1 hyv
              go_upto_region 104 with fail
              go_region_with (first | (go_at_call 86; refine (HCN.out _).mono ?_; rintro e w' ⟨rfl, rfl⟩) | (go_at_call 76; refine (HC76.out _ (by first | exact HP.out | exact HP.out.drew | exact HP.out.drew.drew) (by first | exact Fr.refl _ _ _ | exact (Fr.refl _ _ _).drew | exact (Fr.refl _ _ _).drew.drew)).mono ?_; rintro e w' ⟨rfl, v', hP', hF'⟩))
              all_goals
                go_wp2_with (go_at_call 83; refine (HC83.out _ _ hP').mono ?_; rintro e w'' ⟨rfl, v'', hP'', hF''⟩)
                go_wp2_with (go_at_call 78; refine (HC78.out _ _ hP'' (hF'.trans hF'')).mono ?_; rintro e w3 ⟨rfl, v3', ib3, hP3, hF3⟩)
                refine Handed.intro (gk - 1) (by omega) (hJ _ _ _ ⟨_, j + 1, _, v3', ib3, rfl, ⟨rfl, rfl, rfl, rfl, rfl, rfl, rfl, rfl⟩, rfl, rfl, by go_num, hP3, hF3, HG.out.1, HG.out.2, by omega, by omega, ⟨z1, HH.out.1, ?_⟩⟩)
                rw [← HH.out.2.1, HH.out.2.2]
                simp only [PS.put, List.append_assoc]
          · intro J2 K2 hJ2 hK2
            by_cases hj0 : j = 0
            · subst hj0
              have hcm : cm = [] := HCM.out
              subst hcm
              have hPe : PP b wr (s1.put []) v2 ib2 := by have := HP.out; simpa [PS.put] using this
              have HPe := Lib.hid hPe
              clear hPe
              go_wp2_with fail
              exact Met.intro (hJ2 _ _ ⟨_, v2, rfl, ⟨rfl, rfl, rfl, rfl, rfl, rfl, rfl, rfl⟩, rfl, rfl, rfl, rfl, HPe.out, Fr.refl _ _ _⟩)
            · have hcm : cm = [44, 32] := by rw [HCM.out, if_neg (by simp [hj0])]
              subst hcm
              have hj1 : (0 : Int) < j := by omega
              have CW := writeLit HP.out ", " #[44, 32] comma_lit (hl.le (by have := HZ1.out.2.2; rw [comma_is]; simp only [List.length_cons, List.length_nil] at this ⊢; omega))
              rw [comma_is] at CW
              have HCW := Lib.hid CW
              clear CW
              go_wp2_with (go_at_call 76; refine (HCW.out).mono ?_; rintro e w' ⟨rfl, v', hP', hF'⟩)
              exact Met.intro (hJ2 _ _ ⟨_, v', rfl, ⟨rfl, rfl, rfl, rfl, rfl, rfl, rfl, rfl⟩, rfl, rfl, rfl, rfl, hP', hF'⟩)
        · have hlt : ¬ (j : Int) < ((l.length - d.k : Nat) : Int) := by omega
          obtain ⟨z, hz, ho⟩ := HZ
          have hnil : l.drop (d.k + j) = [] := List.drop_eq_nil_of_le (by omega)
          rw [hnil] at hz
          have hz0 : z = [] := (Option.some.inj hz).symm
          subst hz0
          rw [List.append_nil] at ho
          have CW := writeByte_any hP 41 (by decide) (by decide) (hl.le (by rw [← ho]; simp only [List.length_append, List.length_cons, List.length_nil]; omega)).room
          have HCW := Lib.hid CW
          have HF := Lib.hid hF
          have HO := Lib.hid ho
          clear CW hP hF hz ho hnil
          go_wp2_with (go_at_call 83; refine (HCW.out).mono ?_; rintro e w' ⟨rfl, v', hP', hF'⟩)
          try rw [Exit.noGoto_normal]
          go_end0
          exact ⟨rfl, _, v', ib2, HO.out, hP', HF.out.trans hF'⟩
    · have hX := finD_same HX.out hc
      have HP := Lib.hid hP1
      have HF := Lib.hid hF1
      have HO := Lib.hid hX
      clear hP1 hF1 hD1 HX hX
      cases hre : d.s.reord
      · have hlt : ¬ (d.k : Int) < l.length := fun h => hc ⟨hre, by omega⟩
        rw [hre] at c81
        clear hre hc
        go_wp2_with fail
        go_end0
        exact ⟨rfl, d.s, v1, ib1, HO.out, HP.out, HF.out⟩
      · rw [hre] at c81
        clear hre hc
        go_wp2_with fail
        rw [Exit.noGoto_normal]
        go_end0
        exact ⟨rfl, d.s, v1, ib1, HO.out, HP.out, HF.out⟩
  intro JF KF hJF hKF
  refine wp_loop_ghost_k (fun gk a' w' => ∃ L d s8, a' = ⟨L.toArray, []⟩ ∧ Fm (.pointer (some ⟨b, 0, none⟩)) (.string t) (.slice p l.length c) (.int .i64 t.size) (.int .i64 d.k) s8 (.int .i64 d.i) L ∧ At b w v t l w' d ∧ Hid (dpM t l pa gk d = some out)) t.size ?_ ?_
  · exact ⟨_, ⟨{ s with reord := false }, 0, 0, false⟩, _, rfl, ⟨rfl, rfl, rfl, rfl, rfl, rfl, rfl, rfl⟩, ⟨v, ib, HP.out.setReord false, (Fr.refl _ _ _).setB _ _, ⟨Nat.zero_le _, Nat.zero_le _, HFL.out, HE.out⟩⟩, HM⟩
  · intro gk a' wr hJ
    clear HP HM HE HFL f81 c81
    obtain ⟨L, d, s8, rfl, hFm, ⟨v1, ib1, hP1, hF1, hD1⟩, H⟩ := hJ
    obtain ⟨u, rfl⟩ := hFm.open
    clear hFm
    intro J K hJ hK
    have i1 := hD1.i
    have k1 := hD1.k
    have hb := hP1.c82
    have hb2 := hP1.frz 82
    have HP := Lib.hid hP1
    have HF := Lib.hid hF1
    have HD := Lib.hid hD1
    clear hP1 hF1 hD1
    by_cases hlt : d.i < t.size
    · go_wp2_with fail
      go_wp2_with fail
      go_step3
      go_wp2_with fail
      refine wp_cutB (fun a' w' => ∃ L, a' = ⟨L.toArray, []⟩ ∧ Fm (.pointer (some ⟨b, 0, none⟩)) (.string t) (.slice p l.length c) (.int .i64 t.size) (.int .i64 d.k) s8 (.int .i64 (txtEnd t (t.size - d.i) d.i)) L ∧ L[10]? = some (.int .i64 d.i) ∧ w' = wr.setCell ⟨b, 82, none⟩ (.bool true)) ?_ ?_
      · intro a2 wr2 hR
        obtain ⟨L, rfl, hFm, h10, rfl⟩ := hR
        obtain ⟨u2, rfl⟩ := hFm.open
        have e10 : u2 10 = .int .i64 d.i := by simpa using h10
        rw [e10]
        clear hFm h10 e10
        obtain ⟨g, hg, hP⟩ : ∃ g, g < gk ∧ pctD t l pa (dpM t l pa g) (finD l pa) (txtD t d) = some out := by
          have := H.out
          cases gk with
          | zero => rw [dpM, if_pos hlt] at this; cases this
          | succ g => rw [dpM, if_pos hlt] at this; exact ⟨g, Nat.lt_succ_self g, this⟩
        have hlen := pctD_out (dpM_grows t l pa g) (finD_grows l pa) hP
        have hj := txtEnd_le t (t.size - d.i) d.i i1
        have hD2 : DOk t l (txtD t d) := ⟨hj.2, k1, HD.out.fl, HD.out.err⟩
        have hs2 : (txtD t d).s = ({ d.s with good := true } : PS).put ((t.extract d.i (txtEnd t (t.size - d.i) d.i)).data.toList) := rfl
        have hi2 : (txtD t d).i = txtEnd t (t.size - d.i) d.i := rfl
        have hk2 : (txtD t d).k = d.k := rfl
        obtain ⟨d2, hd2⟩ : ∃ d2, d2 = txtD t d := ⟨_, rfl⟩
        rw [← hd2] at hP hlen hD2 hs2 hi2 hk2
        rw [← hi2] at hj hs2 ⊢
        clear hd2
        have HH := Lib.hid (And.intro hP (And.intro hlen (And.intro hD2 hs2)))
        clear hP hlen hD2 hs2 hi2 hb hb2 H hlt
        obtain ⟨hj1, hj2⟩ := hj
        go_upto_if 41 with fail
        refine wp_cut (fun a' w' => ∃ L s10, a' = ⟨L.toArray, []⟩ ∧ Fm (.pointer (some ⟨b, 0, none⟩)) (.string t) (.slice p l.length c) (.int .i64 t.size) (.int .i64 d.k) s8 (.int .i64 d2.i) L ∧ L[10]? = some s10 ∧ At b w v t l w' d2) ?_ ?_
        · intro a3 wr3 hR
          obtain ⟨L, s10, rfl, hFm, h10, hAt⟩ := hR
          obtain ⟨u3, rfl⟩ := hFm.open
          clear hFm h10 HP HF HD
          obtain ⟨v3, ib3, hP3, hF3, hD3⟩ := hAt
          have c1 := hP3.c1
          have HP := Lib.hid hP3
          have HF := Lib.hid hF3
          have HD := Lib.hid hD3
          have hpct := HH.out.1
          have i3 := hD3.i
          clear hP3 hF3 hD3 HH hj1 hj2
          by_cases hend : t.size ≤ d2.i
          · have hfin : finD l pa d2 = some out := by unfold pctD at hpct; rwa [if_pos hend] at hpct
            have HX := Lib.hid hfin
            clear hpct hfin
            go_wp2_with fail
            change KF _ _
            exact hKF _ _ (Met.intro (hJF _ _ ⟨_, d2, _, _, rfl, ⟨rfl, rfl, rfl, rfl, rfl, by rw [hk2]; rfl, rfl, rfl⟩, ⟨v3, ib3, HP.out, HF.out, HD.out⟩, HX.out⟩))
          · have hdir : dirD t l pa (dpM t l pa g) (finD l pa) (flagD t t.size ⟨d2.s.setFl {}, d2.i + 1, d2.k, d2.af⟩) = some out := by unfold pctD at hpct; rwa [if_neg hend] at hpct
            have HX := Lib.hid hdir
            clear hpct hdir
            go_wp2_with (go_at_call 77; refine (clearflags_any HP.out).mono ?_; rintro e w' ⟨rfl, hP4, hF4⟩)
            go_step3
            go_wp2_with fail
            have hD4 : DOk t l ⟨d2.s.setFl {}, d2.i + 1, d2.k, d2.af⟩ := ⟨by show d2.i + 1 ≤ t.size; omega, HD.out.k, flOk_zero, HD.out.err⟩
            have hP4' : PP b w' (d2.s.setFl {}) v3 ib3 := hP4
            have hF4' := HF.out.trans hF4
            obtain ⟨d4, hd4⟩ : ∃ d4 : D, d4 = ⟨d2.s.setFl {}, d2.i + 1, d2.k, d2.af⟩ := ⟨_, rfl⟩
            have hs4 : d4.s = d2.s.setFl {} := by rw [hd4]
            have hi4 : d4.i = d2.i + 1 := by rw [hd4]
            have hk4 : d4.k = d.k := by rw [hd4, ← hk2]
            rw [← hd4] at hD4 HX
            rw [← hs4] at hP4'
            have HA4 := Lib.hid (show At b w v t l w' d4 from ⟨v3, ib3, hP4', hF4', hD4⟩)
            clear hP4 hF4 hP4' hF4' hD4 hd4 HP HF HD c1 hs4
            refine wp_cutB (fun a' w' => ∃ L d s8, a' = ⟨L.toArray, []⟩ ∧ Fm (.pointer (some ⟨b, 0, none⟩)) (.string t) (.slice p l.length c) (.int .i64 t.size) (.int .i64 d.k) s8 (.int .i64 d.i) L ∧ At b w v t l w' d ∧ Hid (verbD t l pa (dpM t l pa g) (finD l pa) (idx2D t l.length (precD t l (widD t l (idxD t l.length d)))) = some out)) ?_ ?_
            · intro a6 wr6 hR
              obtain ⟨L, d6, s8, rfl, hFm, ⟨v6, ib6, hP6, hF6, hD6⟩, HX6⟩ := hR
              obtain ⟨u6, rfl⟩ := hFm.open
              clear hFm HX HA4 hi4 hk4 hend i3 hk2
              have i6 := hD6.i
              have k6 := hD6.k
              have CI := argNumber_any hP6 t l.length i6 (by omega) ht (by omega)
              have hD7 := idxD_ok hD6
              obtain ⟨d7, hd7⟩ : ∃ d7, d7 = idxD t l.length d6 := ⟨_, rfl⟩
              rw [← hd7] at CI hD7 HX6
              have HCI := Lib.hid CI
              have HF6 := Lib.hid hF6
              have i7 := hD7.i
              have k7 := hD7.k
              clear CI hP6 hF6 hD6 hd7
              go_upto_region 42 with (go_at_call 79; refine (HCI.out).mono ?_; rintro e w' ⟨rfl, hP7, hF7⟩)
              have HA7 := Lib.hid (show At b w v t l w' d7 from ⟨v6, ib6, hP7, HF6.out.trans hF7, hD7⟩)
              clear hP7 hF7 hD7 HF6 HCI i6 k6
              refine wp_cut (fun a' w1 => ∃ L, a' = ⟨L.toArray, []⟩ ∧ Fm (.pointer (some ⟨b, 0, none⟩)) (.string t) (.slice p l.length c) (.int .i64 t.size) (.int .i64 d7.k) (.bool d7.af) (.int .i64 d7.i) L ∧ L[193]? = some (.bool (decide (d7.i < t.size ∧ bt t d7.i = 42))) ∧ w1 = w') ?_ ?_
              · intro a8 wr8 hR
                obtain ⟨L, rfl, hFm, h193, rfl⟩ := hR
                obtain ⟨u8, rfl⟩ := hFm.open
                have e193 : u8 193 = .bool (decide (d7.i < t.size ∧ bt t d7.i = 42)) := by simpa using h193
                rw [e193]
                clear hFm h193 e193
                go_upto_if 193 with fail
                refine wp_cut (fun a' w1 => ∃ L d, a' = ⟨L.toArray, []⟩ ∧ Fm (.pointer (some ⟨b, 0, none⟩)) (.string t) (.slice p l.length c) (.int .i64 t.size) (.int .i64 d.k) (.bool d.af) (.int .i64 d.i) L ∧ At b w v t l w1 d ∧ Hid (verbD t l pa (dpM t l pa g) (finD l pa) (idx2D t l.length (precD t l d)) = some out)) ?_ ?_
                · intro a9 wr9 hR
                  obtain ⟨L, d8, rfl, hFm, HA8, HX8⟩ := hR
                  obtain ⟨u9, rfl⟩ := hFm.open
                  clear hFm HX6 HA7 i7 k7
                  obtain ⟨_, _, _, _, hD8⟩ := id HA8
                  have i8 := hD8.i
                  have k8 := hD8.k
                  have HA8 := Lib.hid HA8
                  clear hD8
                  go_upto_region 55 with fail
                  refine wp_cut (fun a' w1 => ∃ L, a' = ⟨L.toArray, []⟩ ∧ Fm (.pointer (some ⟨b, 0, none⟩)) (.string t) (.slice p l.length c) (.int .i64 t.size) (.int .i64 d8.k) (.bool d8.af) (.int .i64 d8.i) L ∧ L[287]? = some (.bool (decide (d8.i + 1 < t.size ∧ bt t d8.i = 46))) ∧ w1 = wr9) ?_ ?_
                  · intro a10 wr10 hR
                    obtain ⟨L, rfl, hFm, h287, rfl⟩ := hR
                    obtain ⟨u10, rfl⟩ := hFm.open
                    have e287 : u10 287 = .bool (decide (d8.i + 1 < t.size ∧ bt t d8.i = 46)) := by simpa using h287
                    rw [e287]
                    clear hFm h287 e287
                    go_upto_if 287 with fail
                    refine wp_cut (fun a' w1 => ∃ L d, a' = ⟨L.toArray, []⟩ ∧ Fm (.pointer (some ⟨b, 0, none⟩)) (.string t) (.slice p l.length c) (.int .i64 t.size) (.int .i64 d.k) (.bool d.af) (.int .i64 d.i) L ∧ At b w v t l w1 d ∧ Hid (verbD t l pa (dpM t l pa g) (finD l pa) (idx2D t l.length d) = some out)) ?_ ?_
                    · intro a14 wr14 hR
                      obtain ⟨L, d11, rfl, hFm, HA11, HX11⟩ := hR
                      obtain ⟨u14, rfl⟩ := hFm.open
                      clear hFm HX8 HA8 i8 k8
                      obtain ⟨_, _, _, _, hD11⟩ := id HA11
                      have i11 := hD11.i
                      have k11 := hD11.k
                      have HA11 := Lib.hid HA11
                      clear hD11
                      go_upto_if 392 with fail
                      refine wp_cut (fun a' w1 => ∃ L d s8, a' = ⟨L.toArray, []⟩ ∧ Fm (.pointer (some ⟨b, 0, none⟩)) (.string t) (.slice p l.length c) (.int .i64 t.size) (.int .i64 d.k) s8 (.int .i64 d.i) L ∧ At b w v t l w1 d ∧ Hid (verbD t l pa (dpM t l pa g) (finD l pa) d = some out)) ?_ ?_
                      · intro a15 wr15 hR
                        obtain ⟨L, d12, s8, rfl, hFm, ⟨v12, ib12, hP12, hF12, hD12⟩, HX12⟩ := hR
                        obtain ⟨u15, rfl⟩ := hFm.open
                        clear hFm HX11 HA11 i11 k11
                        have i12 := hD12.i
                        have k12 := hD12.k
                        by_cases hend : t.size ≤ d12.i
                        · have hX := HX12.out
                          unfold verbD at hX
                          rw [if_pos hend] at hX
                          have hlen := finD_grows l pa _ _ hX
                          rw [put_out] at hlen
                          have CW := writeLit hP12 "%!(NOVERB)" #[37, 33, 40, 78, 79, 86, 69, 82, 66, 41] no_verb (hl.le (by omega))
                          have c1 := hP12.c1
                          have HCW := Lib.hid CW
                          have HX := Lib.hid hX
                          have HF := Lib.hid hF12
                          have HD := Lib.hid hD12
                          clear CW hX hlen HX12 hP12 hF12 hD12
                          go_wp2_with (go_at_call 76; refine (HCW.out).mono ?_; rintro e w' ⟨rfl, v', hP', hF'⟩)
                          change KF _ _
                          exact hKF _ _ (Met.intro (hJF _ _ ⟨_, d12.put (lit "%!(NOVERB)"), _, _, rfl, ⟨rfl, rfl, rfl, rfl, rfl, rfl, rfl, rfl⟩, ⟨v', ib12, hP', HF.out.trans hF', ⟨HD.out.i, HD.out.k, HD.out.fl, HD.out.err⟩⟩, HX.out⟩))
                        · have hlt : d12.i < t.size := by omega
                          have hX := HX12.out
                          unfold verbD at hX
                          rw [if_neg hend] at hX
                          by_cases h128 : 128 ≤ bt t d12.i
                          · rw [if_pos h128] at hX; cases hX
                          rw [if_neg h128] at hX
                          have hb0 := bt_nonneg t d12.i
                          have h127 : bt t d12.i ≤ 127 := by omega
                          obtain ⟨hsz, hbx⟩ := bt_extract t d12.i hlt
                          have CD := decode_ascii (t.extract d12.i t.size) hsz (by rw [hbx]; omega)
                          rw [hbx] at CD
                          obtain ⟨r, hr⟩ : ∃ r, r = bt t d12.i := ⟨_, rfl⟩
                          rw [← hr] at CD hX hb0 h127
                          have HCD := Lib.hid CD
                          have HF := Lib.hid hF12
                          have HD := Lib.hid hD12
                          have hext : (t.extract d12.i t.size).size = t.size - d12.i := by rw [ByteArray.size_extract]; omega
                          have hc3 := hP12.c82
                          clear CD HX12 hF12 hD12 hend h128 hsz hbx hr
                          simp only at hX
                          by_cases q37 : r = 37
                          · rw [if_pos q37] at hX
                            have hlen := dpM_grows t l pa g _ _ hX
                            rw [put_out] at hlen
                            have CW := writeByte_any hP12 37 (by decide) (by decide) (hl.le (by simp only [List.length_cons, List.length_nil] at hlen; omega)).room
                            have hAA : ∀ w' v', PP b w' (d12.s.put [37]) v' ib12 → Fr b wr15 v12 w' v' → At b w v t l w' ⟨d12.s.put [37], d12.i + 1, d12.k, d12.af⟩ := fun w' v' h1 h2 => ⟨v', ib12, h1, HF.out.trans h2, ⟨by show d12.i + 1 ≤ _; omega, HD.out.k, HD.out.fl, HD.out.err⟩⟩
                            have HCW := Lib.hid CW
                            have HN := Lib.hid hX
                            have HAA := Lib.hid hAA
                            subst q37
                            clear CW hX hlen hP12 hAA hb0 h127
                            go_wp2_with (first | (go_at_call 82; refine (HCD.out _).mono ?_; rintro e w' ⟨rfl, rfl⟩) | (go_at_call 83; refine (HCW.out).mono ?_; rintro e w' ⟨rfl, v', hP', hF'⟩; have hA := HAA.out _ _ hP' hF'; clear hP' hF'))
                            change K _ _
                            exact hK _ _ (Handed.intro g hg (hJ _ _ _ ⟨_, ⟨_, d12.i + 1, d12.k, d12.af⟩, _, rfl, ⟨rfl, rfl, rfl, rfl, rfl, by go_num, rfl, by go_num⟩, hA, HN.out⟩))
                          · rw [if_neg q37] at hX
                            by_cases hgood : d12.s.good = false
                            · rw [if_pos hgood] at hX
                              rw [hgood] at hc3
                              have hlen := dpM_grows t l pa g _ _ hX
                              rw [put_out] at hlen
                              have CW := badArgNum_any hP12 r (by omega) (by omega) (hl.le (by simp only at hlen; omega))
                              have hAA : ∀ w' v', PP b w' (d12.s.put (bangB r badIndexT)) v' ib12 → Fr b wr15 v12 w' v' → At b w v t l w' ⟨d12.s.put (bangB r badIndexT), d12.i + 1, d12.k, d12.af⟩ := fun w' v' h1 h2 => ⟨v', ib12, h1, HF.out.trans h2, ⟨by show d12.i + 1 ≤ _; omega, HD.out.k, HD.out.fl, HD.out.err⟩⟩
                              have HCW := Lib.hid CW
                              have HN := Lib.hid hX
                              have HAA := Lib.hid hAA
                              clear CW hX hlen hP12 hAA
                              go_wp2_with (first | (go_at_call 82; refine (HCD.out _).mono ?_; rintro e w' ⟨rfl, rfl⟩) | (go_at_call 84; refine (HCW.out).mono ?_; rintro e w' ⟨rfl, v', hP', hF'⟩; have hA := HAA.out _ _ hP' hF'; clear hP' hF'))
                              change K _ _
                              exact hK _ _ (Handed.intro g hg (hJ _ _ _ ⟨_, ⟨_, d12.i + 1, d12.k, d12.af⟩, _, rfl, ⟨rfl, rfl, rfl, rfl, rfl, by go_num, rfl, by go_num⟩, hA, HN.out⟩))
                            · rw [if_neg hgood] at hX
                              have hgood' : d12.s.good = true := by cases h : d12.s.good; exact absurd h hgood; rfl
                              rw [hgood'] at hc3
                              by_cases hk : l.length ≤ d12.k
                              · rw [if_pos hk] at hX
                                have hk' : ¬ (d12.k : Int) < l.length := by omega
                                have hlen := dpM_grows t l pa g _ _ hX
                                rw [put_out] at hlen
                                have CW := missingArg_any hP12 r (by omega) (by omega) (hl.le (by simp only at hlen; omega))
                                have hAA : ∀ w' v', PP b w' (d12.s.put (bangB r missingT)) v' ib12 → Fr b wr15 v12 w' v' → At b w v t l w' ⟨d12.s.put (bangB r missingT), d12.i + 1, d12.k, d12.af⟩ := fun w' v' h1 h2 => ⟨v', ib12, h1, HF.out.trans h2, ⟨by show d12.i + 1 ≤ _; omega, HD.out.k, HD.out.fl, HD.out.err⟩⟩
                                have HCW := Lib.hid CW
                                have HN := Lib.hid hX
                                have HAA := Lib.hid hAA
                                clear CW hX hlen hP12 hAA hgood hgood'
                                go_wp2_with (first | (go_at_call 82; refine (HCD.out _).mono ?_; rintro e w' ⟨rfl, rfl⟩) | (go_at_call 85; refine (HCW.out).mono ?_; rintro e w' ⟨rfl, v', hP', hF'⟩; have hA := HAA.out _ _ hP' hF'; clear hP' hF'))
                                change K _ _
                                exact hK _ _ (Handed.intro g hg (hJ _ _ _ ⟨_, ⟨_, d12.i + 1, d12.k, d12.af⟩, _, rfl, ⟨rfl, rfl, rfl, rfl, rfl, by go_num, rfl, by go_num⟩, hA, HN.out⟩))
                              · rw [if_neg hk] at hX
                                have hk' : d12.k < l.length := by omega
                                by_cases q119 : r = 119
                                · rw [if_pos q119] at hX; cases hX
                                · rw [if_neg q119] at hX
                                  obtain ⟨y, z, hy, hz, hnx⟩ := argD_some hX
                                  clear hX hk
                                  simp only at hy hz hnx
                                  have hyl : l[d12.k] = y := by
                                    have : l[d12.k]? = some l[d12.k] := by simp [hk']
                                    rw [this] at hy; cases hy; rfl
                                  obtain ⟨ka, ao, xv, rfl, hkb, hcell, hAx⟩ := (HA.out.step HF.out).at hk'
                                  rw [hyl] at hAx
                                  have hym : y ∈ l := by rw [← hyl]; exact List.getElem_mem _
                                  have hlen := dpM_grows t l pa g _ _ hnx
                                  simp only [PS.put, PS.setFl, List.length_append] at hlen
                                  have C : ∀ W, PP b W (d12.s.setFl (d12.s.fl.forVerb r)) v12 ib12 → Fr b wr15 v12 W v12 → Calls Tryz.prog 78 #[.pointer (some ⟨b, 0, none⟩), xv, .int .i32 r] W fun e w' => e = .returned (.tuple #[]) ∧ At b w v t l w' ⟨(d12.s.setFl (d12.s.fl.forVerb r)).put z, d12.i + 1, d12.k + 1, d12.af⟩ := by
                                    intro W h1 h2
                                    refine (HPA.out y hym W _ v12 ib12 xv r z h1 (HF.out.trans h2) HD.out.err (forVerb_ok HD.out.fl _) (hAx.step h2) hb0 h127 hz (hl.le (by show d12.s.out.length + _ + _ ≤ _; omega))).mono ?_
                                    rintro e w' ⟨rfl, v', ib', hP', hF'⟩
                                    exact ⟨rfl, v', ib', hP', (HF.out.trans h2).trans hF', ⟨by show d12.i + 1 ≤ _; omega, by show d12.k + 1 ≤ _; omega, forVerb_ok HD.out.fl _, HD.out.err⟩⟩
                                  have c5 := hP12.c5
                                  have c6 := hP12.c6
                                  have c9 := hP12.c9
                                  have c10 := hP12.c10
                                  have f5 := hP12.frz 5
                                  have f6 := hP12.frz 6
                                  have f9 := hP12.frz 9
                                  have f10 := hP12.frz 10
                                  have HP := Lib.hid hP12
                                  have HC := Lib.hid C
                                  have HN := Lib.hid hnx
                                  clear C hnx hlen hz hy hAx hym hyl hP12 hgood hgood'
                                  by_cases h118 : r = 118
                                  · subst h118
                                    have hp := (((HP.out.setSharpV d12.s.fl.sharp).setSharp false).setPlusV d12.s.fl.plus).setPlus false
                                    have hf := ((((Fr.refl b wr15 v12).setB 10 (.bool d12.s.fl.sharp)).setB 6 (.bool false)).setB 9 (.bool d12.s.fl.plus)).setB 5 (.bool false)
                                    have HPV := Lib.hid hp
                                    have HFV := Lib.hid hf
                                    have e118 : d12.s.fl.forVerb 118 = d12.s.fl.forV := rfl
                                    rw [e118] at HC HN
                                    clear hp hf q119 hb0 h127 e118 q37
                                    go_wp2_with (first | (go_at_call 82; refine (HCD.out _).mono ?_; rintro e w' ⟨rfl, rfl⟩) | (go_at_call 78; refine (HC.out _ HPV.out HFV.out).mono ?_; rintro e w' ⟨rfl, hA⟩))
                                    change K _ _
                                    exact hK _ _ (Handed.intro g hg (hJ _ _ _ ⟨_, ⟨_, d12.i + 1, d12.k + 1, d12.af⟩, _, rfl, ⟨rfl, rfl, rfl, rfl, rfl, by go_num, rfl, by go_num⟩, hA, HN.out⟩))
                                  · have e118 : d12.s.fl.forVerb r = d12.s.fl := by unfold Fl.forVerb; rw [if_neg h118]
                                    rw [e118] at HC HN
                                    clear e118
                                    go_wp2_with (first | (go_at_call 82; refine (HCD.out _).mono ?_; rintro e w' ⟨rfl, rfl⟩) | (go_at_call 78; refine (HC.out _ HP.out (Fr.refl _ _ _)).mono ?_; rintro e w' ⟨rfl, hA⟩))
                                    change K _ _
                                    exact hK _ _ (Handed.intro g hg (hJ _ _ _ ⟨_, ⟨_, d12.i + 1, d12.k + 1, d12.af⟩, _, rfl, ⟨rfl, rfl, rfl, rfl, rfl, by go_num, rfl, by go_num⟩, hA, HN.out⟩))
                      · intro J14 K14 hJ14 hK14
                        obtain ⟨af, haf⟩ : ∃ af, af = d11.af := ⟨_, rfl⟩
                        have hX := HX11.out
                        unfold idx2D at hX
                        rw [← haf] at hX ⊢
                        cases af
                        · obtain ⟨v11, ib11, hP11, hF11, hD11⟩ := HA11.out
                          have CI := argNumber_any hP11 t l.length i11 (by omega) ht (by omega)
                          have hD12 := idxD_ok hD11
                          have HX := Lib.hid hX
                          have HCI := Lib.hid CI
                          have HF := Lib.hid hF11
                          have HD := Lib.hid hD12
                          clear CI hP11 hF11 hD11 hX hD12
                          go_wp2_with (go_at_call 79; refine (HCI.out).mono ?_; rintro e w' ⟨rfl, hP', hF'⟩)
                          exact Met.intro (hJ14 _ _ ⟨_, idxD t l.length d11, _, rfl, ⟨rfl, rfl, rfl, rfl, rfl, rfl, rfl, rfl⟩, ⟨v11, ib11, hP', HF.out.trans hF', HD.out⟩, HX.out⟩)
                        · have HX := Lib.hid hX
                          clear hX
                          go_wp2_with fail
                          exact Met.intro (hJ14 _ _ ⟨_, d11, _, rfl, ⟨rfl, rfl, rfl, rfl, rfl, rfl, rfl, rfl⟩, HA11.out, HX.out⟩)
                    · intro J10 K10 hJ10 hK10
                      by_cases hpt : d8.i + 1 < t.size ∧ bt t d8.i = 46
                      · have e1 : decide (d8.i + 1 < t.size ∧ bt t d8.i = 46) = true := decide_eq_true hpt
                        have hpd : precD t l d8 = precD1 t l (idxD t l.length ⟨d8.s.bad d8.af, d8.i + 1, d8.k, d8.af⟩) := by unfold precD; rw [if_pos hpt]
                        have hXX := HX8.out
                        rw [hpd] at hXX
                        have e2 := hpt.1
                        rw [e1]
                        obtain ⟨v8, ib8, hP8, hF8, hD8⟩ := HA8.out
                        have hD8' : DOk t l ⟨d8.s.bad d8.af, d8.i + 1, d8.k, d8.af⟩ := ⟨by show d8.i + 1 ≤ _; omega, k8, by show FlOk (d8.s.bad d8.af).fl; rw [PS.bad_fl]; exact hD8.fl, by show (d8.s.bad d8.af).err = false; rw [PS.bad_err]; exact hD8.err⟩
                        have f82 := hP8.frz 82
                        have c82 := hP8.c82
                        have HAb : Hid (At b w v t l (if d8.af then wr10.setCell ⟨b, 82, none⟩ (.bool false) else wr10) ⟨d8.s.bad d8.af, d8.i + 1, d8.k, d8.af⟩) := by
                          cases haf : d8.af
                          · rw [haf] at hD8'; exact ⟨v8, ib8, hP8, hF8, hD8'⟩
                          · rw [haf] at hD8'; exact ⟨v8, ib8, hP8.setGood false, hF8.setB 82 (.bool false), hD8'⟩
                        obtain ⟨d9, hd9⟩ : ∃ d9 : D, d9 = ⟨d8.s.bad d8.af, d8.i + 1, d8.k, d8.af⟩ := ⟨_, rfl⟩
                        have hi9 : d9.i = d8.i + 1 := by rw [hd9]
                        have hk9 : d9.k = d8.k := by rw [hd9]
                        have ha9 : d9.af = d8.af := by rw [hd9]
                        rw [← hd9] at hXX HAb
                        have HXX := Lib.hid hXX
                        clear hXX hpd hd9 hD8' hP8 hF8 hD8 hpt e1
                        go_upto_if 290 with fail
                        refine wp_cut (fun a' w1 => ∃ L, a' = ⟨L.toArray, []⟩ ∧ Fm (.pointer (some ⟨b, 0, none⟩)) (.string t) (.slice p l.length c) (.int .i64 t.size) (.int .i64 d9.k) (.bool d9.af) (.int .i64 d9.i) L ∧ At b w v t l w1 d9) ?_ ?_
                        · intro a12 wr12 hR
                          obtain ⟨L, rfl, hFm, ⟨v9, ib9, hP9, hF9, hD9⟩⟩ := hR
                          obtain ⟨u12, rfl⟩ := hFm.open
                          clear hFm HAb hi9 hk9 ha9 HA8 HX8 f82 c82
                          have i9 := hD9.i
                          have k9 := hD9.k
                          have CI := argNumber_any hP9 t l.length i9 (by omega) ht (by omega)
                          have hD10 := idxD_ok hD9
                          obtain ⟨d10, hd10⟩ : ∃ d10, d10 = idxD t l.length d9 := ⟨_, rfl⟩
                          rw [← hd10] at CI hD10
                          have hXX := HXX.out
                          rw [← hd10] at hXX
                          have HX10 := Lib.hid hXX
                          have HCI := Lib.hid CI
                          have HF9 := Lib.hid hF9
                          have i10 := hD10.i
                          have k10 := hD10.k
                          clear CI hP9 hF9 hD9 hd10 HXX hXX
                          go_upto_region 60 with (go_at_call 79; refine (HCI.out).mono ?_; rintro e w' ⟨rfl, hP10, hF10⟩)
                          have HA10 := Lib.hid (show At b w v t l w' d10 from ⟨v9, ib9, hP10, HF9.out.trans hF10, hD10⟩)
                          clear hP10 hF10 hD10 HF9 HCI i9 k9
                          refine wp_cut (fun a' w1 => ∃ L, a' = ⟨L.toArray, []⟩ ∧ Fm (.pointer (some ⟨b, 0, none⟩)) (.string t) (.slice p l.length c) (.int .i64 t.size) (.int .i64 d10.k) (.bool d10.af) (.int .i64 d10.i) L ∧ L[313]? = some (.bool (decide (d10.i < t.size ∧ bt t d10.i = 42))) ∧ w1 = w') ?_ ?_
                          · intro a13 wr13 hR
                            obtain ⟨L, rfl, hFm, h313, rfl⟩ := hR
                            obtain ⟨u13, rfl⟩ := hFm.open
                            have e313 : u13 313 = .bool (decide (d10.i < t.size ∧ bt t d10.i = 42)) := by simpa using h313
                            rw [e313]
                            clear hFm h313 e313
                            go_upto_if 313 with fail
                            obtain ⟨v10, ib10, hP10, hF10, hD10⟩ := HA10.out
                            have c1 := hP10.c1
                            have f3 := hP10.frz 3
                            have f12 := hP10.frz 12
                            have c3 := hP10.c3
                            have c12 := hP10.c12
                            have hlen := verbD_out (dpM_grows t l pa g) (finD_grows l pa) HX10.out
                            rw [idx2D_out] at hlen
                            have hp1 := precD1_ok hD10
                            by_cases hst : d10.i < t.size ∧ bt t d10.i = 42
                            · have hwd : precD1 t l d10 = ⟨(if ((d10.s.fl.setPrec (intFrom l d10.k).1 (intFrom l d10.k).2.1).negPrec).precP then d10.s else d10.s.put (lit "%!(BADPREC)")).setFl (d10.s.fl.setPrec (intFrom l d10.k).1 (intFrom l d10.k).2.1).negPrec, d10.i + 1, (intFrom l d10.k).2.2, false⟩ := by unfold precD1; rw [if_pos hst]
                              have hXX := HX10.out
                              rw [hwd] at hXX hp1 hlen
                              have CI := intFromArg_any (HA.out.step hF10) d10.k k10 (by omega)
                              have hr := intFrom_le l d10.k k10
                              have hr2 := intFrom_zero l d10.k
                              have e1 : decide (d10.i < t.size ∧ bt t d10.i = 42) = true := decide_eq_true hst
                              have e2 := hst.1
                              obtain ⟨r, hr0⟩ : ∃ r, r = intFrom l d10.k := ⟨_, rfl⟩
                              rw [← hr0] at CI hr hr2 hp1 hXX hlen
                              clear hr0 hwd hst
                              obtain ⟨r1, r2, r3⟩ := r
                              simp only at CI hr hr2 hp1 hXX hlen
                              rw [e1]
                              have HCI := Lib.hid CI
                              have HXX := Lib.hid hXX
                              have HOK := Lib.hid hp1
                              have HLN := Lib.hid hlen
                              have HF := Lib.hid hF10
                              obtain ⟨hr01, hr02, hr03, hr04⟩ := hr
                              clear CI hXX hp1 hlen hF10 hD10 e1
                              cases r2 with
                              | false =>
                                have hz := hr2 rfl
                                subst hz
                                clear hr2 hr01 hr02
                                have HP0 := Lib.hid ((hP10.setPrec 0).setPrecP false)
                                have HF0 := Lib.hid (((Fr.refl b wr13 v10).setB 12 (.int .i64 0)).setB 3 (.bool false))
                                have CW := writeLit HP0.out "%!(BADPREC)" #[37, 33, 40, 66, 65, 68, 80, 82, 69, 67, 41] bad_prec (hl.le (by
                                  have h1 := HLN.out
                                  rw [if_neg (by exact Bool.false_ne_true)] at h1
                                  have h2 : d10.s.out.length + (lit "%!(BADPREC)").length ≤ out.length := by rw [← List.length_append]; exact h1
                                  show d10.s.out.length + _ ≤ _
                                  omega))
                                have HCW := Lib.hid CW
                                clear CW hP10
                                go_wp2_with (first | (go_at_call 80; refine (HCI.out).mono ?_; rintro e w' ⟨rfl, rfl⟩) | (go_at_call 76; refine (HCW.out).mono ?_; rintro e w' ⟨rfl, v', hP8, hF8⟩; have g1 := hP8.c1; have HP8 := Lib.hid hP8; have HF8 := Lib.hid hF8; clear hP8 hF8))
                                exact Met.intro (hJ10 _ _ ⟨_, ⟨_, d10.i + 1, r3, false⟩, rfl, ⟨rfl, rfl, rfl, rfl, rfl, rfl, rfl, by go_num⟩, ⟨v', ib10, HP8.out, (HF.out.trans HF0.out).trans HF8.out, HOK.out⟩, HXX.out⟩)
                              | true =>
                                clear hr2
                                by_cases hneg : r1 < 0
                                · have HP0 := Lib.hid ((((hP10.setPrec r1).setPrecP true).setPrec 0).setPrecP false)
                                  have HF0 := Lib.hid (((((Fr.refl b wr13 v10).setB 12 (.int .i64 r1)).setB 3 (.bool true)).setB 12 (.int .i64 0)).setB 3 (.bool false))
                                  have g3 := HP0.out.c3
                                  have g1 := HP0.out.c1
                                  have en : (d10.s.fl.setPrec r1 true).negPrec = d10.s.fl.setPrec 0 false := by unfold Fl.negPrec; rw [if_pos (by exact hneg)]; rfl
                                  have hLN := HLN.out
                                  rw [en] at HOK HXX hLN
                                  have CW := writeLit HP0.out "%!(BADPREC)" #[37, 33, 40, 66, 65, 68, 80, 82, 69, 67, 41] bad_prec (hl.le (by
                                    have h1 := hLN
                                    rw [if_neg (by exact Bool.false_ne_true)] at h1
                                    have h2 : d10.s.out.length + (lit "%!(BADPREC)").length ≤ out.length := by rw [← List.length_append]; exact h1
                                    show d10.s.out.length + _ ≤ _
                                    omega))
                                  have HCW := Lib.hid CW
                                  clear CW hP10 en hLN
                                  go_wp2_with (first | (go_at_call 80; refine (HCI.out).mono ?_; rintro e w' ⟨rfl, rfl⟩) | (go_at_call 76; refine (HCW.out).mono ?_; rintro e w' ⟨rfl, v', hP8, hF8⟩; have g1 := hP8.c1; have HP8 := Lib.hid hP8; have HF8 := Lib.hid hF8; clear hP8 hF8))
                                  exact Met.intro (hJ10 _ _ ⟨_, ⟨_, d10.i + 1, r3, false⟩, rfl, ⟨rfl, rfl, rfl, rfl, rfl, rfl, rfl, by go_num⟩, ⟨v', ib10, HP8.out, (HF.out.trans HF0.out).trans HF8.out, HOK.out⟩, HXX.out⟩)
                                · have HP0 := Lib.hid ((hP10.setPrec r1).setPrecP true)
                                  have HF0 := Lib.hid (((Fr.refl b wr13 v10).setB 12 (.int .i64 r1)).setB 3 (.bool true))
                                  have en : (d10.s.fl.setPrec r1 true).negPrec = d10.s.fl.setPrec r1 true := by unfold Fl.negPrec; rw [if_neg (by exact hneg)]
                                  rw [en] at HOK HXX
                                  clear hP10 en
                                  have hneg' : 0 ≤ r1 := by omega
                                  clear hneg
                                  go_wp2_with (go_at_call 80; refine (HCI.out).mono ?_; rintro e w' ⟨rfl, rfl⟩)
                                  exact Met.intro (hJ10 _ _ ⟨_, ⟨_, d10.i + 1, r3, false⟩, rfl, ⟨rfl, rfl, rfl, rfl, rfl, rfl, rfl, by go_num⟩, ⟨v10, ib10, HP0.out, HF.out.trans HF0.out, HOK.out⟩, HXX.out⟩)
                            · have e1 : decide (d10.i < t.size ∧ bt t d10.i = 42) = false := decide_eq_false hst
                              have hwd : precD1 t l d10 = ⟨d10.s.setFl (if (parsenumM t d10.i t.size).2.1 then d10.s.fl.setPrec (parsenumM t d10.i t.size).1 true else d10.s.fl.setPrec 0 true), (parsenumM t d10.i t.size).2.2, d10.k, d10.af⟩ := by unfold precD1; rw [if_neg hst]
                              have hXX := HX10.out
                              rw [hwd] at hXX hp1
                              have CI := parsenum_any t d10.i t.size wr13 (Nat.le_refl _) (Nat.le_trans ht (by decide))
                              obtain ⟨r, hr0⟩ : ∃ r, r = parsenumM t d10.i t.size := ⟨_, rfl⟩
                              rw [← hr0] at CI hp1 hXX
                              clear hr0 hwd hst hlen
                              obtain ⟨r1, r2, r3⟩ := r
                              simp only at hp1 hXX
                              rw [e1]
                              have HCI := Lib.hid CI
                              have HF := Lib.hid hF10
                              have HP0 := Lib.hid ((hP10.setPrec r1).setPrecP r2)
                              have HF0 := Lib.hid (((Fr.refl b wr13 v10).setB 12 (.int .i64 r1)).setB 3 (.bool r2))
                              have HXX := Lib.hid hXX
                              have HOK := Lib.hid hp1
                              clear CI hF10 hD10 e1 hXX hp1 hP10
                              cases r2
                              all_goals
                                go_wp2_with (go_at_call 81; refine (HCI.out).mono ?_; rintro e w' ⟨rfl, rfl⟩)
                                first
                                  | exact Met.intro (hJ10 _ _ ⟨_, ⟨_, r3, d10.k, d10.af⟩, rfl, ⟨rfl, rfl, rfl, rfl, rfl, rfl, rfl, rfl⟩, ⟨v10, ib10, HP0.out, HF.out.trans HF0.out, HOK.out⟩, HXX.out⟩)
                                  | exact Met.intro (hJ10 _ _ ⟨_, ⟨_, r3, d10.k, d10.af⟩, rfl, ⟨rfl, rfl, rfl, rfl, rfl, rfl, rfl, rfl⟩, ⟨v10, ib10, (HP0.out.setPrec 0).setPrecP true, ((HF.out.trans HF0.out).setB 12 (.int .i64 0)).setB 3 (.bool true), HOK.out⟩, HXX.out⟩)
                          · intro J12 K12 hJ12 hK12
                            by_cases h1 : d10.i < t.size
                            · have hb := bt_eq t d10.i h1
                              have hb0 := bt_nonneg t d10.i
                              have hb1 := bt_le t d10.i
                              by_cases h2 : bt t d10.i = 42
                              · go_wp2_with fail
                                exact Met.intro (hJ12 _ _ ⟨_, rfl, ⟨rfl, rfl, rfl, rfl, rfl, rfl, rfl, rfl⟩, by simp [h1, h2], rfl⟩)
                              · go_wp2_with fail
                                exact Met.intro (hJ12 _ _ ⟨_, rfl, ⟨rfl, rfl, rfl, rfl, rfl, rfl, rfl, rfl⟩, by simp [h1, h2], rfl⟩)
                            · go_wp2_with fail
                              exact Met.intro (hJ12 _ _ ⟨_, rfl, ⟨rfl, rfl, rfl, rfl, rfl, rfl, rfl, rfl⟩, by simp [h1], rfl⟩)
                        · intro J11 K11 hJ11 hK11
                          obtain ⟨af, haf⟩ : ∃ af, af = d8.af := ⟨_, rfl⟩
                          rw [← haf] at HAb ha9 ⊢
                          clear haf
                          cases af
                          all_goals
                            go_wp2_with fail
                            exact Met.intro (hJ11 _ _ ⟨_, rfl, ⟨rfl, rfl, rfl, rfl, rfl, by rw [hk9]; rfl, by rw [ha9]; rfl, by rw [hi9]; go_num⟩, HAb.out⟩)
                      · have e1 : decide (d8.i + 1 < t.size ∧ bt t d8.i = 46) = false := decide_eq_false hpt
                        have hpd : precD t l d8 = d8 := by unfold precD; rw [if_neg hpt]
                        have hXX := HX8.out
                        rw [hpd] at hXX
                        rw [e1]
                        have HXX := Lib.hid hXX
                        clear hXX hpd hpt e1
                        go_wp2_with fail
                        exact Met.intro (hJ10 _ _ ⟨_, d8, rfl, ⟨rfl, rfl, rfl, rfl, rfl, rfl, rfl, rfl⟩, HA8.out, HXX.out⟩)
                  · intro J9 K9 hJ9 hK9
                    by_cases h1 : d8.i + 1 < t.size
                    · have h1' : d8.i < t.size := by omega
                      have h1i : (d8.i : Int) + 1 < (t.size : Int) := by omega
                      have hb := bt_eq t d8.i h1'
                      have hb0 := bt_nonneg t d8.i
                      have hb1 := bt_le t d8.i
                      by_cases h2 : bt t d8.i = 46
                      · go_wp2_with fail
                        all_goals exact Met.intro (hJ9 _ _ ⟨_, rfl, ⟨rfl, rfl, rfl, rfl, rfl, rfl, rfl, rfl⟩, by simp [h1, h2], rfl⟩)
                      · go_wp2_with fail
                        all_goals exact Met.intro (hJ9 _ _ ⟨_, rfl, ⟨rfl, rfl, rfl, rfl, rfl, rfl, rfl, rfl⟩, by simp [h1, h2], rfl⟩)
                    · have h1i : ¬ (d8.i : Int) + 1 < (t.size : Int) := by omega
                      go_wp2_with fail
                      exact Met.intro (hJ9 _ _ ⟨_, rfl, ⟨rfl, rfl, rfl, rfl, rfl, rfl, rfl, rfl⟩, by simp [h1], rfl⟩)
                · intro J8 K8 hJ8 hK8
                  obtain ⟨v7, ib7, hP7, hF7, hD7⟩ := HA7.out
                  have c1 := hP7.c1
                  have f2 := hP7.frz 2
                  have f4 := hP7.frz 4
                  have f8 := hP7.frz 8
                  have f11 := hP7.frz 11
                  have f82 := hP7.frz 82
                  have c2 := hP7.c2
                  have c4 := hP7.c4
                  have c8 := hP7.c8
                  have c11 := hP7.c11
                  have c82 := hP7.c82
                  have hlen := verbD_out (dpM_grows t l pa g) (finD_grows l pa) HX6.out
                  rw [idx2D_out] at hlen
                  have hlen2 := Nat.le_trans (precD_out (t := t) (l := l) (widD t l d7)) hlen
                  clear hlen
                  by_cases hst : d7.i < t.size ∧ bt t d7.i = 42
                  · have hwd : widD t l d7 = ⟨(if (intFrom l d7.k).2.1 then d7.s else d7.s.put (lit "%!(BADWIDTH)")).setFl (d7.s.fl.setWid (intFrom l d7.k).1 (intFrom l d7.k).2.1).negWid, d7.i + 1, (intFrom l d7.k).2.2, false⟩ := by unfold widD; rw [if_pos hst]
                    have hwok := widD_ok hD7
                    rw [hwd] at hlen2 hwok
                    have hXX := HX6.out
                    rw [hwd] at hXX
                    have CI := intFromArg_any (HA.out.step hF7) d7.k k7 (by omega)
                    have hr := intFrom_le l d7.k k7
                    have hr2 := intFrom_zero l d7.k
                    have e1 : decide (d7.i < t.size ∧ bt t d7.i = 42) = true := decide_eq_true hst
                    have e2 := hst.1
                    obtain ⟨r, hr0⟩ : ∃ r, r = intFrom l d7.k := ⟨_, rfl⟩
                    rw [← hr0] at CI hr hr2 hwok hXX hlen2
                    clear hr0 hwd hst
                    obtain ⟨r1, r2, r3⟩ := r
                    simp only at CI hr hr2 hwok hXX hlen2
                    rw [e1]
                    have HCI := Lib.hid CI
                    have HXX := Lib.hid hXX
                    have HOK := Lib.hid hwok
                    have HLN := Lib.hid hlen2
                    have HF := Lib.hid hF7
                    obtain ⟨hr01, hr02, hr03, hr04⟩ := hr
                    clear CI hXX hwok hlen2 hF7 hD7 e1
                    cases r2 with
                    | false =>
                      have hz := hr2 rfl
                      subst hz
                      clear hr2 hr01 hr02
                      have HP0 := Lib.hid ((hP7.setWid 0).setWidP false)
                      have HF0 := Lib.hid (((Fr.refl b wr8 v7).setB 11 (.int .i64 0)).setB 2 (.bool false))
                      have CW := writeLit HP0.out "%!(BADWIDTH)" #[37, 33, 40, 66, 65, 68, 87, 73, 68, 84, 72, 41] bad_width (hl.le (by
                        have h1 := HLN.out
                        rw [if_neg (by decide)] at h1
                        have h2 : d7.s.out.length + (lit "%!(BADWIDTH)").length ≤ out.length := by rw [← List.length_append]; exact h1
                        show d7.s.out.length + _ ≤ _
                        omega))
                      have HCW := Lib.hid CW
                      clear CW hP7
                      go_wp2_with (first | (go_at_call 80; refine (HCI.out).mono ?_; rintro e w' ⟨rfl, rfl⟩) | (go_at_call 76; refine (HCW.out).mono ?_; rintro e w' ⟨rfl, v', hP8, hF8⟩; have g11 := hP8.c11; have g1 := hP8.c1; have HP8 := Lib.hid hP8; have HF8 := Lib.hid hF8; clear hP8 hF8))
                      exact Met.intro (hJ8 _ _ ⟨_, _, rfl, ⟨rfl, rfl, rfl, rfl, rfl, rfl, rfl, by go_num⟩, ⟨v', ib7, HP8.out, (HF.out.trans HF0.out).trans HF8.out, HOK.out⟩, HXX.out⟩)
                    | true =>
                      clear hr2
                      by_cases hneg : r1 < 0
                      · have HP0 := Lib.hid (((((hP7.setWid r1).setWidP true).setWid (-r1)).setMinus true).setZero false)
                        have HF0 := Lib.hid ((((((Fr.refl b wr8 v7).setB 11 (.int .i64 r1)).setB 2 (.bool true)).setB 11 (.int .i64 (-r1))).setB 4 (.bool true)).setB 8 (.bool false))
                        have en : (d7.s.fl.setWid r1 true).negWid = { d7.s.fl.setWid r1 true with wid := -r1, minus := true, zero := false } := by unfold Fl.negWid; rw [if_pos (by exact hneg)]; rfl
                        rw [en] at HOK HXX
                        clear hP7 en
                        go_wp2_with (go_at_call 80; refine (HCI.out).mono ?_; rintro e w' ⟨rfl, rfl⟩)
                        exact Met.intro (hJ8 _ _ ⟨_, _, rfl, ⟨rfl, rfl, rfl, rfl, rfl, rfl, rfl, by go_num⟩, ⟨v7, ib7, HP0.out, HF.out.trans HF0.out, HOK.out⟩, HXX.out⟩)
                      · have HP0 := Lib.hid ((hP7.setWid r1).setWidP true)
                        have HF0 := Lib.hid (((Fr.refl b wr8 v7).setB 11 (.int .i64 r1)).setB 2 (.bool true))
                        have en : (d7.s.fl.setWid r1 true).negWid = d7.s.fl.setWid r1 true := by unfold Fl.negWid; rw [if_neg (by exact hneg)]
                        rw [en] at HOK HXX
                        clear hP7 en
                        have hneg' : 0 ≤ r1 := by omega
                        clear hneg
                        go_wp2_with (go_at_call 80; refine (HCI.out).mono ?_; rintro e w' ⟨rfl, rfl⟩)
                        exact Met.intro (hJ8 _ _ ⟨_, _, rfl, ⟨rfl, rfl, rfl, rfl, rfl, rfl, rfl, by go_num⟩, ⟨v7, ib7, HP0.out, HF.out.trans HF0.out, HOK.out⟩, HXX.out⟩)
                  · have e1 : decide (d7.i < t.size ∧ bt t d7.i = 42) = false := decide_eq_false hst
                    have hwd : widD t l d7 = ⟨(d7.s.setFl (d7.s.fl.setWid (parsenumM t d7.i t.size).1 (parsenumM t d7.i t.size).2.1)).bad (d7.af && (parsenumM t d7.i t.size).2.1), (parsenumM t d7.i t.size).2.2, d7.k, d7.af⟩ := by unfold widD; rw [if_neg hst]
                    have hwok := widD_ok hD7
                    rw [hwd] at hwok
                    have hXX := HX6.out
                    rw [hwd] at hXX
                    have hr := parsenumM_le t d7.i t.size
                    have CI := parsenum_any t d7.i t.size wr8 (Nat.le_refl _) (Nat.le_trans ht (by decide))
                    obtain ⟨r, hr0⟩ : ∃ r, r = parsenumM t d7.i t.size := ⟨_, rfl⟩
                    rw [← hr0] at CI hr hwok hXX
                    clear hr0 hwd hst hlen2
                    obtain ⟨r1, r2, r3⟩ := r
                    simp only at hr hwok hXX
                    rw [e1]
                    have HCI := Lib.hid CI
                    have HF := Lib.hid hF7
                    have HP0 := Lib.hid ((hP7.setWid r1).setWidP r2)
                    have HF0 := Lib.hid (((Fr.refl b wr8 v7).setB 11 (.int .i64 r1)).setB 2 (.bool r2))
                    clear CI hF7 hD7 e1 hr
                    obtain ⟨af, haf⟩ : ∃ af, af = d7.af := ⟨_, rfl⟩
                    rw [← haf] at hXX hwok ⊢
                    have HXX := Lib.hid hXX
                    have HOK := Lib.hid hwok
                    clear hXX hwok haf hP7
                    cases af <;> cases r2
                    all_goals
                      go_wp2_with (go_at_call 81; refine (HCI.out).mono ?_; rintro e w' ⟨rfl, rfl⟩)
                      first
                        | exact Met.intro (hJ8 _ _ ⟨_, ⟨_, r3, d7.k, _⟩, rfl, ⟨rfl, rfl, rfl, rfl, rfl, rfl, rfl, rfl⟩, ⟨v7, ib7, HP0.out, HF.out.trans HF0.out, HOK.out⟩, HXX.out⟩)
                        | exact Met.intro (hJ8 _ _ ⟨_, ⟨_, r3, d7.k, _⟩, rfl, ⟨rfl, rfl, rfl, rfl, rfl, rfl, rfl, rfl⟩, ⟨v7, ib7, HP0.out.setGood false, (HF.out.trans HF0.out).setB 82 (.bool false), HOK.out⟩, HXX.out⟩)
              · intro J7 K7 hJ7 hK7
                by_cases h1 : d7.i < t.size
                · have hb := bt_eq t d7.i h1
                  have hb0 := bt_nonneg t d7.i
                  have hb1 := bt_le t d7.i
                  by_cases h2 : bt t d7.i = 42
                  · go_wp2_with fail
                    exact Met.intro (hJ7 _ _ ⟨_, rfl, ⟨rfl, rfl, rfl, rfl, rfl, rfl, rfl, rfl⟩, by simp [h1, h2], rfl⟩)
                  · go_wp2_with fail
                    exact Met.intro (hJ7 _ _ ⟨_, rfl, ⟨rfl, rfl, rfl, rfl, rfl, rfl, rfl, rfl⟩, by simp [h1, h2], rfl⟩)
                · go_wp2_with fail
                  exact Met.intro (hJ7 _ _ ⟨_, rfl, ⟨rfl, rfl, rfl, rfl, rfl, rfl, rfl, rfl⟩, by simp [h1], rfl⟩)
            · intro J4 K4 hJ4 hK4
              refine wp_loop_ghost_k (fun gk a' w' => ∃ L d s8, a' = ⟨L.toArray, []⟩ ∧ Fm (.pointer (some ⟨b, 0, none⟩)) (.string t) (.slice p l.length c) (.int .i64 t.size) (.int .i64 d.k) s8 (.int .i64 d.i) L ∧ At b w v t l w' d ∧ t.size ≤ d.i + gk ∧ Hid (dirD t l pa (dpM t l pa g) (finD l pa) (flagD t gk d) = some out)) t.size ?_ ?_
              · exact ⟨_, d4, s8, rfl, ⟨rfl, rfl, rfl, rfl, rfl, by rw [hk4]; rfl, rfl, by rw [hi4]; rfl⟩, HA4.out, by omega, HX⟩
              · intro gk5 a5 wr5 hI
                obtain ⟨L, d5, s58, rfl, hFm, ⟨v5, ib5, hP5, hF5, hD5⟩, hgk, HX5⟩ := hI
                obtain ⟨u5, rfl⟩ := hFm.open
                clear hFm HX HA4 hi4 hk4 hend i3 hk2
                intro J5 K5 hJ5 hK5
                have i5 := hD5.i
                have k5 := hD5.k
                have hcells := (fun j => hP5.frz j)
                have c4 := hP5.c4
                have c5 := hP5.c5
                have c6 := hP5.c6
                have c7 := hP5.c7
                have c8 := hP5.c8
                have f4 := hP5.frz 4
                have f5 := hP5.frz 5
                have f6 := hP5.frz 6
                have f7 := hP5.frz 7
                have f8 := hP5.frz 8
                have f9 := hP5.frz 9
                have f10 := hP5.frz 10
                have c9 := hP5.c9
                have c10 := hP5.c10
                have HP := Lib.hid hP5
                have HF := Lib.hid hF5
                have HD := Lib.hid hD5
                clear hP5 hF5 hD5 hcells
                by_cases hlt5 : d5.i < t.size
                · have hb := bt_eq t d5.i hlt5
                  have hb0 := bt_nonneg t d5.i
                  have hb1 := bt_le t d5.i
                  by_cases hfl : isFlag (bt t d5.i)
                  · have P : flagD t gk5 d5 = flagD t (gk5 - 1) ⟨d5.s.setFl (d5.s.fl.flag (bt t d5.i)), d5.i + 1, d5.k, d5.af⟩ := by
                      obtain ⟨g', rfl⟩ : ∃ g', gk5 = g' + 1 := ⟨gk5 - 1, by omega⟩
                      rw [flagD, if_pos ⟨hlt5, hfl⟩]
                      rfl
                    rw [P] at HX5
                    have HX6 := Lib.hid HX5
                    clear HX5 P
                    rcases hfl with hq | hq | hq | hq | hq <;> rw [hq] at hb HX6 <;> clear hq hb0 hb1
                    · go_wp2_with fail
                      refine Handed.intro (gk5 - 1) (by omega) (hJ5 _ _ _ ⟨_, ⟨d5.s.setFl (d5.s.fl.flag 35), d5.i + 1, d5.k, d5.af⟩, s58, rfl, ⟨rfl, rfl, rfl, rfl, rfl, rfl, rfl, by go_num⟩, ⟨v5, ib5, HP.out.setSharp true, HF.out.setB _ _, ⟨by show d5.i + 1 ≤ _; omega, HD.out.k, HD.out.fl, HD.out.err⟩⟩, by show _ ≤ d5.i + 1 + _; omega, HX6.out⟩)
                    · go_wp2_with fail
                      refine Handed.intro (gk5 - 1) (by omega) (hJ5 _ _ _ ⟨_, ⟨d5.s.setFl (d5.s.fl.flag 48), d5.i + 1, d5.k, d5.af⟩, s58, rfl, ⟨rfl, rfl, rfl, rfl, rfl, rfl, rfl, by go_num⟩, ⟨v5, ib5, HP.out.setZero true, HF.out.setB _ _, ⟨by show d5.i + 1 ≤ _; omega, HD.out.k, HD.out.fl, HD.out.err⟩⟩, by show _ ≤ d5.i + 1 + _; omega, HX6.out⟩)
                    · go_wp2_with fail
                      refine Handed.intro (gk5 - 1) (by omega) (hJ5 _ _ _ ⟨_, ⟨d5.s.setFl (d5.s.fl.flag 43), d5.i + 1, d5.k, d5.af⟩, s58, rfl, ⟨rfl, rfl, rfl, rfl, rfl, rfl, rfl, by go_num⟩, ⟨v5, ib5, HP.out.setPlus true, HF.out.setB _ _, ⟨by show d5.i + 1 ≤ _; omega, HD.out.k, HD.out.fl, HD.out.err⟩⟩, by show _ ≤ d5.i + 1 + _; omega, HX6.out⟩)
                    · go_wp2_with fail
                      refine Handed.intro (gk5 - 1) (by omega) (hJ5 _ _ _ ⟨_, ⟨d5.s.setFl (d5.s.fl.flag 45), d5.i + 1, d5.k, d5.af⟩, s58, rfl, ⟨rfl, rfl, rfl, rfl, rfl, rfl, rfl, by go_num⟩, ⟨v5, ib5, HP.out.setMinus true, HF.out.setB _ _, ⟨by show d5.i + 1 ≤ _; omega, HD.out.k, HD.out.fl, HD.out.err⟩⟩, by show _ ≤ d5.i + 1 + _; omega, HX6.out⟩)
                    · go_wp2_with fail
                      refine Handed.intro (gk5 - 1) (by omega) (hJ5 _ _ _ ⟨_, ⟨d5.s.setFl (d5.s.fl.flag 32), d5.i + 1, d5.k, d5.af⟩, s58, rfl, ⟨rfl, rfl, rfl, rfl, rfl, rfl, rfl, by go_num⟩, ⟨v5, ib5, HP.out.setSpace true, HF.out.setB _ _, ⟨by show d5.i + 1 ≤ _; omega, HD.out.k, HD.out.fl, HD.out.err⟩⟩, by show _ ≤ d5.i + 1 + _; omega, HX6.out⟩)
                  · have P : flagD t gk5 d5 = d5 := by cases gk5 <;> simp [flagD, hfl]
                    rw [P] at HX5
                    have h35 : ¬ bt t d5.i = 35 := fun h => hfl (.inl h)
                    have h48 : ¬ bt t d5.i = 48 := fun h => hfl (.inr (.inl h))
                    have h43 : ¬ bt t d5.i = 43 := fun h => hfl (.inr (.inr (.inl h)))
                    have h45 : ¬ bt t d5.i = 45 := fun h => hfl (.inr (.inr (.inr (.inl h))))
                    have h32 : ¬ bt t d5.i = 32 := fun h => hfl (.inr (.inr (.inr (.inr h))))
                    clear P hfl
                    by_cases fast : 97 ≤ bt t d5.i ∧ bt t d5.i ≤ 122 ∧ d5.k < l.length
                    · obtain ⟨q1, q2, q3⟩ := fast
                      have hX : argD l pa (dpM t l pa g) (bt t d5.i) { d5 with i := d5.i + 1 } = some out ∧ ¬ bt t d5.i = 119 := by
                        have := HX5
                        unfold dirD Hid at this
                        rw [if_pos ⟨hlt5, q1, q2, q3⟩] at this
                        split at this
                        · cases this
                        · rename_i hq; exact ⟨this, hq⟩
                      clear HX5
                      obtain ⟨hX, h119⟩ := hX
                      obtain ⟨y, z, hy, hz, hnx⟩ := argD_some hX
                      clear hX
                      have hyl : l[d5.k] = y := by
                        have : l[d5.k]? = some l[d5.k] := by simp [q3]
                        rw [this] at hy; cases hy; rfl
                      obtain ⟨ka, ao, xv, rfl, hkb, hcell, hAx⟩ := (HA.out.step HF.out).at q3
                      rw [hyl] at hAx
                      have hym : y ∈ l := by rw [← hyl]; exact List.getElem_mem _
                      have hlen := dpM_grows t l pa g _ _ hnx
                      simp only [PS.put, PS.setFl, List.length_append] at hlen
                      have C : ∀ W, PP b W (d5.s.setFl (d5.s.fl.forVerb (bt t d5.i))) v5 ib5 → Fr b wr5 v5 W v5 → Calls Tryz.prog 78 #[.pointer (some ⟨b, 0, none⟩), xv, .int .i32 (bt t d5.i)] W fun e w' => e = .returned (.tuple #[]) ∧ At b w v t l w' ⟨(d5.s.setFl (d5.s.fl.forVerb (bt t d5.i))).put z, d5.i + 1, d5.k + 1, d5.af⟩ := by
                        intro W h1 h2
                        refine (HPA.out y hym W _ v5 ib5 xv (bt t d5.i) z h1 (HF.out.trans h2) HD.out.err (forVerb_ok HD.out.fl _) (hAx.step h2) (by omega) (by omega) hz (hl.le (by show d5.s.out.length + _ + _ ≤ _; omega))).mono ?_
                        rintro e w' ⟨rfl, v', ib', hP', hF'⟩
                        exact ⟨rfl, v', ib', hP', (HF.out.trans h2).trans hF', ⟨by show d5.i + 1 ≤ _; omega, by show d5.k + 1 ≤ _; omega, forVerb_ok HD.out.fl _, HD.out.err⟩⟩
                      have HC := Lib.hid C
                      have HN := Lib.hid hnx
                      clear C hnx hlen hz hy hAx hym hyl
                      by_cases h118 : bt t d5.i = 118
                      · have hp := (((HP.out.setSharpV d5.s.fl.sharp).setSharp false).setPlusV d5.s.fl.plus).setPlus false
                        have hf := ((((Fr.refl b wr5 v5).setB 10 (.bool d5.s.fl.sharp)).setB 6 (.bool false)).setB 9 (.bool d5.s.fl.plus)).setB 5 (.bool false)
                        have HPV := Lib.hid hp
                        have HFV := Lib.hid hf
                        have e118 : d5.s.fl.forVerb 118 = d5.s.fl.forV := rfl
                        rw [h118] at HC HN hb
                        rw [e118] at HC HN
                        clear hp hf h119 hb0 hb1 q1 q2 h35 h48 h43 h45 h32 h118 e118
                        go_wp2_with (go_at_call 78; refine (HC.out _ HPV.out HFV.out).mono ?_; rintro e w' ⟨rfl, hA⟩)
                        change K _ _
                        exact hK _ _ (Handed.intro g hg (hJ _ _ _ ⟨_, ⟨_, d5.i + 1, d5.k + 1, d5.af⟩, _, rfl, ⟨rfl, rfl, rfl, rfl, rfl, by go_num, rfl, by go_num⟩, hA, HN.out⟩))
                      · have e118 : d5.s.fl.forVerb (bt t d5.i) = d5.s.fl := by unfold Fl.forVerb; rw [if_neg h118]
                        rw [e118] at HC HN
                        clear e118
                        go_wp2_with (go_at_call 78; refine (HC.out _ HP.out (Fr.refl _ _ _)).mono ?_; rintro e w' ⟨rfl, hA⟩)
                        change K _ _
                        exact hK _ _ (Handed.intro g hg (hJ _ _ _ ⟨_, ⟨_, d5.i + 1, d5.k + 1, d5.af⟩, _, rfl, ⟨rfl, rfl, rfl, rfl, rfl, by go_num, rfl, by go_num⟩, hA, HN.out⟩))
                    · by_cases q1 : 97 ≤ bt t d5.i
                      · by_cases q2 : bt t d5.i ≤ 122
                        · have q3 : ¬ d5.k < l.length := fun h => fast ⟨q1, q2, h⟩
                          have HX6 := Lib.hid (show verbD t l pa (dpM t l pa g) (finD l pa) (idx2D t l.length (precD t l (widD t l (idxD t l.length d5)))) = some out from by have := HX5; unfold dirD Hid at this; rwa [if_neg (fun h => fast h.2)] at this)
                          clear HX5 fast
                          go_wp2_with fail
                          exact Met.intro (hJ4 _ _ ⟨_, d5, _, rfl, ⟨rfl, rfl, rfl, rfl, rfl, rfl, rfl, rfl⟩, ⟨v5, ib5, HP.out, HF.out, HD.out⟩, HX6.out⟩)
                        · have q2' : 122 < bt t d5.i := by omega
                          have HX6 := Lib.hid (show verbD t l pa (dpM t l pa g) (finD l pa) (idx2D t l.length (precD t l (widD t l (idxD t l.length d5)))) = some out from by have := HX5; unfold dirD Hid at this; rwa [if_neg (fun h => fast h.2)] at this)
                          clear HX5 fast q2
                          go_wp2_with fail
                          exact Met.intro (hJ4 _ _ ⟨_, d5, _, rfl, ⟨rfl, rfl, rfl, rfl, rfl, rfl, rfl, rfl⟩, ⟨v5, ib5, HP.out, HF.out, HD.out⟩, HX6.out⟩)
                      · have q1' : bt t d5.i < 97 := by omega
                        have HX6 := Lib.hid (show verbD t l pa (dpM t l pa g) (finD l pa) (idx2D t l.length (precD t l (widD t l (idxD t l.length d5)))) = some out from by have := HX5; unfold dirD Hid at this; rwa [if_neg (fun h => fast h.2)] at this)
                        clear HX5 fast q1
                        go_wp2_with fail
                        exact Met.intro (hJ4 _ _ ⟨_, d5, _, rfl, ⟨rfl, rfl, rfl, rfl, rfl, rfl, rfl, rfl⟩, ⟨v5, ib5, HP.out, HF.out, HD.out⟩, HX6.out⟩)
                · have P : flagD t gk5 d5 = d5 := by cases gk5 <;> simp [flagD, hlt5]
                  rw [P] at HX5
                  have HX6 := Lib.hid (show verbD t l pa (dpM t l pa g) (finD l pa) (idx2D t l.length (precD t l (widD t l (idxD t l.length d5)))) = some out from by have := HX5; unfold dirD Hid at this; rwa [if_neg (fun h => hlt5 h.1)] at this)
                  clear HX5 P
                  go_wp2_with fail
                  exact Met.intro (hJ4 _ _ ⟨_, d5, _, rfl, ⟨rfl, rfl, rfl, rfl, rfl, rfl, rfl, rfl⟩, ⟨v5, ib5, HP.out, HF.out, HD.out⟩, HX6.out⟩)
        · intro J2 K2 hJ2 hK2
          have hPg := HP.out.setGood true
          have hFg := HF.out.setB 82 (.bool true)
          have hsg : d.s.out = ({ d.s with good := true } : PS).out := rfl
          by_cases hgt : d.i < d2.i
          · have C : ∀ W, PP b W { d.s with good := true } v1 ib1 → Fr b w v W v1 → Calls Tryz.prog 76 #[.pointer (some ⟨b, 0, none⟩), .string (t.extract d.i d2.i)] W fun e w' => e = .returned (.tuple #[]) ∧ At b w v t l w' d2 := by
              intro W h1 h2
              obtain ⟨q1, q2, q3, q4⟩ := HH.out
              have hsz : ((t.extract d.i d2.i).data.toList).length = (t.extract d.i d2.i).size := by rw [Array.length_toList]; rfl
              have hle : d.s.out.length + (t.extract d.i d2.i).size ≤ out.length := by
                rw [q4] at q2
                simp only [PS.put, List.length_append, hsz] at q2
                exact q2
              refine (writeString_any h1 _ (hl.le (by show d.s.out.length + _ ≤ _; omega)).room).mono ?_
              rintro e w' ⟨rfl, v', hP', hF'⟩
              exact ⟨rfl, v', ib1, by rw [q4]; exact hP', h2.trans hF', q3⟩
            have HC := Lib.hid C
            have HPg := Lib.hid hPg
            have HFg := Lib.hid hFg
            clear C hPg hFg
            go_upto_region 11 with fail
            go_region_with (go_at_call 76; refine (HC.out _ (by first | exact HPg.out | exact HPg.out.drew | exact HPg.out.drew.drew) (by first | exact HFg.out | exact HFg.out.drew | exact HFg.out.drew.drew)).mono ?_; rintro e w' ⟨rfl, hA⟩)
            all_goals
              go_wp2_with fail
              exact Met.intro (hJ2 _ _ ⟨_, _, rfl, ⟨rfl, rfl, rfl, rfl, rfl, rfl, rfl, rfl⟩, rfl, hA⟩)
          · have hq : d2.i = d.i := by omega
            have hA : At b w v t l (wr.setCell ⟨b, 82, none⟩ (.bool true)) d2 := by
              obtain ⟨q1, q2, q3, q4⟩ := HH.out
              refine ⟨v1, ib1, ?_, hFg, q3⟩
              rw [q4, hq]
              rw [ext_self]
              simpa [PS.put] using hPg
            have HA2 := Lib.hid hA
            clear hA hPg hFg
            go_wp2_with fail
            exact Met.intro (hJ2 _ _ ⟨_, _, rfl, ⟨rfl, rfl, rfl, rfl, rfl, rfl, rfl, by rw [hq]; rfl⟩, rfl, HA2.out⟩)
      · intro J2 K2 hJ2 hK2
        refine wp_loop_ghost_k (fun gk a' w' => ∃ L, ∃ i : Nat, a' = ⟨L.toArray, []⟩ ∧ Fm (.pointer (some ⟨b, 0, none⟩)) (.string t) (.slice p l.length c) (.int .i64 t.size) (.int .i64 d.k) s8 (.int .i64 i) L ∧ L[10]? = some (.int .i64 d.i) ∧ w' = wr.setCell ⟨b, 82, none⟩ (.bool true) ∧ i ≤ t.size ∧ t.size - i ≤ gk ∧ Hid (txtEnd t (t.size - d.i) d.i = txtEnd t gk i)) (t.size - d.i) ?_ ?_
        · exact ⟨_, d.i, rfl, ⟨rfl, rfl, rfl, rfl, rfl, rfl, rfl, rfl⟩, rfl, rfl, i1, Nat.le_refl _, rfl⟩
        · intro gk2 a2 wr2 hI
          obtain ⟨L, i, rfl, hFm, h10, rfl, hi1, hi2, HT⟩ := hI
          obtain ⟨u2, rfl⟩ := hFm.open
          have e10 : u2 10 = .int .i64 d.i := by simpa using h10
          rw [e10]
          clear hFm h10 e10
          intro J3 K3 hJ3 hK3
          by_cases hil : i < t.size
          · have hb := bt_eq t i hil
            have hb0 := bt_nonneg t i
            have hb1 := bt_le t i
            by_cases h37 : bt t i = 37
            · have P : txtEnd t gk2 i = i := by cases gk2 <;> simp [txtEnd, h37]
              rw [P] at HT
              rw [h37] at hb
              have HTT := Lib.hid HT
              clear HT P h37 hb0 hb1
              go_wp2_with fail
              refine Met.intro (hJ2 _ _ ⟨_, rfl, ⟨rfl, rfl, rfl, rfl, rfl, rfl, rfl, ?_⟩, rfl, rfl⟩)
              rw [HTT.out]; rfl
            · have P : txtEnd t gk2 i = txtEnd t (gk2 - 1) (i + 1) := by
                obtain ⟨g, rfl⟩ : ∃ g, gk2 = g + 1 := ⟨gk2 - 1, by omega⟩
                rw [txtEnd, if_pos ⟨hil, h37⟩]
                rfl
              rw [P] at HT
              have HTT := Lib.hid HT
              clear HT P
              go_wp2_with fail
              refine Handed.intro (gk2 - 1) (by omega) (hJ3 _ _ _ ⟨_, i + 1, rfl, ⟨rfl, rfl, rfl, rfl, rfl, rfl, rfl, by go_num⟩, rfl, rfl, by omega, by omega, HTT.out⟩)
          · have P : txtEnd t gk2 i = i := by cases gk2 <;> simp [txtEnd, hil]
            rw [P] at HT
            have HTT := Lib.hid HT
            clear HT P
            go_wp2_with fail
            refine Met.intro (hJ2 _ _ ⟨_, rfl, ⟨rfl, rfl, rfl, rfl, rfl, rfl, rfl, ?_⟩, rfl, rfl⟩)
            rw [HTT.out]; rfl
    · have hfin : finD l pa d = some out := by
        have := H.out
        cases gk <;> rw [dpM, if_neg hlt] at this <;> exact this
      have HX := Lib.hid hfin
      have hlt' : ¬ (d.i : Int) < t.size := by omega
      clear hfin
      go_wp2_with fail
      exact Met.intro (hJF _ _ ⟨_, d, _, _, rfl, ⟨rfl, rfl, rfl, rfl, rfl, rfl, rfl, rfl⟩, ⟨v1, ib1, HP.out, HF.out, HD.out⟩, HX.out⟩)

end Go.Proofs.YtcbliojofnigdaaGreatDoor
