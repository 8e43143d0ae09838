/- fmt.fmtInteger: every number, base, verb, width and precision. -/
import Derived.Test.YtcbliojofnigdaaGreatDoorScr
import Derived.Test.YtcbliojofnigdaaGreatDoorPfFin
import Derived.Test.YtcbliojofnigdaaGreatDoorIntM
import Derived.Deep.DeepCutAuto
import Derived.WalkMore
import Derived.Deep.RegionWith
namespace Go.Proofs.YtcbliojofnigdaaGreatDoor
open Go Go.Proofs Go.RowKit

set_option maxRecDepth 100000 in
set_option maxHeartbeats 8000000 in
theorem fmtInteger_any {b : Nat} {w : World} {s : PS} {v : Value} {ib : List Value} (h : PP b w s v ib) (hf : FlOk s.fl) (u : Int) (h0 : 0 ≤ u) (h1 : u ≤ 18446744073709551615) (base : Nat) (hb : base = 10 ∨ base = 16 ∨ base = 8 ∨ base = 2) (sg : Bool) (verb : Int) (hv : verb = 79 → base = 8) (up : Bool) (hl : Fits (s.out.length + 1000000000)) :
    Calls Tryz.prog 111 #[.pointer (some ⟨b, 1, none⟩), .int .u64 u, .int .i64 base, .bool sg, .int .i32 verb, .string (digS up)] w (WroteI b w s v (fmtIntM s.fl (absU sg u) (negU sg u) base verb up)) := by
  obtain ⟨dg, hdg⟩ : ∃ dg, dg = digS up := ⟨_, rfl⟩
  rw [← hdg]
  have HP := Lib.hid h
  have HF := Lib.hid hf
  have HL := Lib.hid hl
  have HB := Lib.hid hb
  have HV := Lib.hid hv
  have HDG := Lib.hid hdg
  obtain ⟨neg, hneg⟩ : ∃ neg, neg = negU sg u := ⟨_, rfl⟩
  obtain ⟨n, hn⟩ : ∃ n, n = absU sg u := ⟨_, rfl⟩
  rw [← hneg, ← hn]
  have HN := Lib.hid (And.intro hneg hn)
  have hn64 : Hid (n < 18446744073709551616) := by show _ < _; rw [hn]; exact absU_lt sg u h0 h1
  clear h hf hl hb hv hdg hneg hn
  go_enter Tryz.func111, Tryz.ntmps111
  go_upto_region 0 with fail
  refine wp_cut (fun a' w' => ∃ L, a' = ⟨L.toArray, []⟩ ∧ Fi (.pointer (some ⟨b, 1, none⟩)) (.int .u64 u) (.int .i64 base) (.bool sg) (.int .i32 verb) (.string dg) (.bool neg) undef undef undef L ∧ w = w') ?_ ?_
  · intro a1 w1 hR
    obtain ⟨L, rfl, hFm, rfl⟩ := hR
    obtain ⟨u1, rfl⟩ := hFm.open
    clear hFm
    go_upto_if 26 with fail
    refine wp_cut (fun a' w' => ∃ L, a' = ⟨L.toArray, []⟩ ∧ Fi (.pointer (some ⟨b, 1, none⟩)) (.int .u64 n) (.int .i64 base) (.bool sg) (.int .i32 verb) (.string dg) (.bool neg) undef undef undef L ∧ w = w') ?_ ?_
    · intro a2 w2 hR
      obtain ⟨L, rfl, hFm, rfl⟩ := hR
      obtain ⟨u2, rfl⟩ := hFm.open
      clear hFm
      clear h0 h1
      have c2 := HP.out.c2
      have c3 := HP.out.c3
      have c11 := HP.out.c11
      have c12 := HP.out.c12
      go_upto_region 4 with fail
      refine wp_cut (fun a' w' => ∃ L, a' = ⟨L.toArray, []⟩ ∧ Fi (.pointer (some ⟨b, 1, none⟩)) (.int .u64 n) (.int .i64 base) (.bool sg) (.int .i32 verb) (.string dg) (.bool neg) (.slice (some ⟨b, 13, none⟩) 68 68) undef undef L ∧ L[44]? = some (.bool (s.fl.widP || s.fl.precP)) ∧ w = w') ?_ ?_
      · intro a3 w3 hR
        obtain ⟨L, rfl, hFm, h44, rfl⟩ := hR
        obtain ⟨u3, rfl⟩ := hFm.open
        have e44 : u3 44 = .bool (s.fl.widP || s.fl.precP) := by simpa using h44
        rw [e44]
        clear hFm h44 e44
        obtain ⟨wp, hwp⟩ : ∃ wp, wp = (s.fl.widP || s.fl.precP) := ⟨_, rfl⟩
        rw [← hwp]
        have HWP := Lib.hid hwp
        clear hwp
        go_upto_if 44 with fail
        refine wp_cut (fun a' w' => ∃ L k o N, a' = ⟨L.toArray, []⟩ ∧ Fi (.pointer (some ⟨b, 1, none⟩)) (.int .u64 n) (.int .i64 base) (.bool sg) (.int .i32 verb) (.string dg) (.bool neg) (.slice (some ⟨k, o, none⟩) N N) undef undef L ∧ Scr b w.heap.size w' s v k o N N [] ∧ Fr b w v w' v ∧ 68 ≤ N ∧ N ≤ 300000000 ∧ Hid (wp = true → 3 + s.fl.wid + s.fl.prec ≤ (N : Int))) ?_ ?_
        · intro a4 w4 hR
          obtain ⟨L, k, o, N, rfl, hFm, hS, hFr, hN1, hN2, HN3⟩ := hR
          obtain ⟨u4, rfl⟩ := hFm.open
          clear hFm c2 c3 c11 c12
          obtain ⟨ib4, hP4⟩ := hS.pp
          have c3 := hP4.c3
          have c12 := hP4.c12
          have HS := Lib.hid hS
          have HFr := Lib.hid hFr
          have HP4 := Lib.hid hP4
          clear hS hFr hP4 HP
          go_upto_if 65 with fail
          refine wp_cut (fun a' w' => ∃ L, a' = ⟨L.toArray, []⟩ ∧ Fi (.pointer (some ⟨b, 1, none⟩)) (.int .u64 n) (.int .i64 base) (.bool sg) (.int .i32 verb) (.string dg) (.bool neg) (.slice (some ⟨k, o, none⟩) N N) (.int .i64 (intPrec s.fl neg)) undef L ∧ w4 = w' ∧ Hid (¬ (s.fl.precP = true ∧ s.fl.prec = 0 ∧ n = 0))) ?_ ?_
          · intro a5 w5 hR
            obtain ⟨L, rfl, hFm, rfl, HNZ⟩ := hR
            obtain ⟨u5, rfl⟩ := hFm.open
            clear hFm c3 c12
            go_upto_region 21 with fail
            refine wp_cut (fun a' w' => ∃ L, a' = ⟨L.toArray, []⟩ ∧ Fi (.pointer (some ⟨b, 1, none⟩)) (.int .u64 n) (.int .i64 base) (.bool sg) (.int .i32 verb) (.string dg) (.bool neg) (.slice (some ⟨k, o, none⟩) N N) (.int .i64 (intPrec s.fl neg)) (.int .i64 N) L ∧ L[139]? = some (.int .i64 base) ∧ w4 = w') ?_ ?_
            · intro a6 w6 hR
              obtain ⟨L, rfl, hFm, h139, rfl⟩ := hR
              obtain ⟨u6, rfl⟩ := hFm.open
              have e139 : u6 139 = .int .i64 base := by simpa using h139
              rw [e139]
              clear hFm h139 e139
              first
                | (rename_i hK0; refine hK0 _ _ ?_)
                | (rename_i hK0 _ ; refine hK0 _ _ ?_)
                | (rename_i hK0 _ _ ; refine hK0 _ _ ?_)
                | (rename_i hK0 _ _ _ ; refine hK0 _ _ ?_)
                | (rename_i hK0 _ _ _ _ ; refine hK0 _ _ ?_)
              refine wp_cut (fun a' w' => ∃ L, ∃ (i : Nat) (ys : Bytes) (q : Nat), a' = ⟨L.toArray, []⟩ ∧ Fi (.pointer (some ⟨b, 1, none⟩)) (.int .u64 q) (.int .i64 base) (.bool sg) (.int .i32 verb) (.string dg) (.bool neg) (.slice (some ⟨k, o, none⟩) N N) (.int .i64 (intPrec s.fl neg)) (.int .i64 i) L ∧ Scr b w.heap.size w' s v k o N i ys ∧ Fr b w v w' v ∧ q < base ∧ ys.length ≤ 63 ∧ Hid (digits base up 64 n = digC up q :: ys)) ?_ ?_
              · intro a7 w7 hR
                obtain ⟨L, i, ys, q, rfl, hFm, hS, hF7, hqb, hyl, HD⟩ := hR
                obtain ⟨u7, rfl⟩ := hFm.open
                clear hFm HS HFr
                first
                  | (refine hK0 _ _ ?_)
                  | (rename_i hK9; refine hK9 _ _ ?_)
                  | (rename_i hK9 _; refine hK9 _ _ ?_)
                  | (rename_i hK9 _ _; refine hK9 _ _ ?_)
                  | (rename_i hK9 _ _ _; refine hK9 _ _ ?_)
                have hlen := hS.len
                obtain ⟨j, rfl⟩ : ∃ j, i = j + 1 := ⟨i - 1, by omega⟩
                obtain ⟨u, hu⟩ := hS.free (show j < N by omega)
                have hf := hS.frz (o + j)
                have hq16 : q < 16 := by have := HB.out; omega
                have hdz : q < dg.size := by rw [HDG.out, digS_size]; omega
                have hdb := bt_eq dg q hdz
                have HQ := Lib.hid hq16
                have HS7 := Lib.hid hS
                have HF7 := Lib.hid hF7
                clear hS hF7 hq16 hqb
                go_wp2_with fail
                have hS1 : Scr b w.heap.size (w7.setCell ⟨k, o + j, none⟩ (.int .u8 (bt dg q))) s v k o N j (digC up q :: ys) := by rw [← digS_at up q HQ.out HDG.out]; exact HS7.out.store _
                have hF1 : Fr b w v (w7.setCell ⟨k, o + j, none⟩ (.int .u8 (bt dg q))) v := by rw [← digS_at up q HQ.out HDG.out]; exact HS7.out.fr HF7.out _
                have hpN := intPrec_le s.fl neg N HF.out.1 HF.out.2.2.1 (by rw [← HWP.out]; exact HN3.out) hN1
                have hdl : (digC up q :: ys).length ≤ 64 := by simp only [List.length_cons]; omega
                obtain ⟨ds, hds⟩ : ∃ ds, ds = digC up q :: ys := ⟨_, rfl⟩
                obtain ⟨p, hp⟩ : ∃ p, p = intPrec s.fl neg := ⟨_, rfl⟩
                rw [← hp] at hpN ⊢
                rw [← hds] at hS1 hdl
                have HSF := Lib.hid (And.intro hS1 hF1)
                have HDS := Lib.hid (And.intro (hds.trans HD.out.symm) hp)
                clear hS1 hF1 hds hp HS7 HF7 hu hf HD HQ hdz hdb
                have hdlH := Lib.hid hdl
                refine wp_cutB (fun a' w' => ∃ L, ∃ (i : Nat), a' = ⟨L.toArray, []⟩ ∧ Fi (.pointer (some ⟨b, 1, none⟩)) (.int .u64 q) (.int .i64 base) (.bool sg) (.int .i32 verb) (.string dg) (.bool neg) (.slice (some ⟨k, o, none⟩) N N) (.int .i64 p) (.int .i64 i) L ∧ Scr b w.heap.size w' s v k o N i (intZeros p ds) ∧ Fr b w v w' v ∧ (intZeros p ds).length + 3 ≤ N) ?_ ?_
                · intro a8 w8 hR
                  clear HSF hlen hdl
                  obtain ⟨L, i, rfl, hFm, hS, hF8, hxl⟩ := hR
                  obtain ⟨u8', rfl⟩ := hFm.open
                  clear hFm
                  obtain ⟨x, hx⟩ : ∃ x, x = intZeros p ds := ⟨_, rfl⟩
                  rw [← hx] at hS hxl
                  have HX := Lib.hid hx
                  clear hx
                  obtain ⟨ib8, hP8⟩ := hS.pp
                  have c6 := hP8.c6
                  have HS := Lib.hid hS
                  have HF8 := Lib.hid hF8
                  have HP8 := Lib.hid hP8
                  clear hS hF8 hP8
                  go_upto_if 231 with fail
                  obtain ⟨y, hy⟩ : ∃ y, y = (if s.fl.sharp = true then intSharp base up x else x) := ⟨_, rfl⟩
                  refine wp_cut (fun a' w' => ∃ L, ∃ (i : Nat), a' = ⟨L.toArray, []⟩ ∧ Fi (.pointer (some ⟨b, 1, none⟩)) (.int .u64 q) (.int .i64 base) (.bool sg) (.int .i32 verb) (.string dg) (.bool neg) (.slice (some ⟨k, o, none⟩) N N) (.int .i64 p) (.int .i64 i) L ∧ Scr b w.heap.size w' s v k o N i y ∧ Fr b w v w' v ∧ y.length + (if verb = 79 then 3 else 1) ≤ N) ?_ ?_
                  · intro a9 w9 hR
                    clear HS HF8 HP8 c6
                    obtain ⟨L, i, rfl, hFm, hS, hF9, hyl⟩ := hR
                    obtain ⟨u9, rfl⟩ := hFm.open
                    clear hFm
                    have HY := Lib.hid hy
                    clear hy
                    have HS := Lib.hid hS
                    have HF9 := Lib.hid hF9
                    clear hS hF9
                    go_upto_if 272 with fail
                    obtain ⟨z, hz⟩ : ∃ z, z = intO verb y := ⟨_, rfl⟩
                    refine wp_cut (fun a' w' => ∃ L, ∃ (i : Nat), a' = ⟨L.toArray, []⟩ ∧ Fi (.pointer (some ⟨b, 1, none⟩)) (.int .u64 q) (.int .i64 base) (.bool sg) (.int .i32 verb) (.string dg) (.bool neg) (.slice (some ⟨k, o, none⟩) N N) (.int .i64 p) (.int .i64 i) L ∧ Scr b w.heap.size w' s v k o N i z ∧ Fr b w v w' v ∧ z.length + 1 ≤ N) ?_ ?_
                    · intro a10 w10 hR
                      clear HS HF9
                      obtain ⟨L, i, rfl, hFm, hS, hF10, hzl⟩ := hR
                      obtain ⟨u10, rfl⟩ := hFm.open
                      clear hFm
                      have HZ := Lib.hid hz
                      clear hz
                      obtain ⟨ib10, hP10⟩ := hS.pp
                      have c5 := hP10.c5
                      have c7 := hP10.c7
                      have HS := Lib.hid hS
                      have HF10 := Lib.hid hF10
                      clear hS hF10 hP10
                      go_upto_if 283 with fail
                      obtain ⟨t, ht⟩ : ∃ t, t = intSign s.fl neg z := ⟨_, rfl⟩
                      refine wp_cut (fun a' w' => ∃ L, ∃ (i : Nat), a' = ⟨L.toArray, []⟩ ∧ Fi (.pointer (some ⟨b, 1, none⟩)) (.int .u64 q) (.int .i64 base) (.bool sg) (.int .i32 verb) (.string dg) (.bool neg) (.slice (some ⟨k, o, none⟩) N N) (.int .i64 p) (.int .i64 i) L ∧ Scr b w.heap.size w' s v k o N i t ∧ Fr b w v w' v) ?_ ?_
                      · intro a11 w11 hR
                        clear HS HF10 c5 c7 hzl
                        obtain ⟨L, i, rfl, hFm, hS, hF11⟩ := hR
                        obtain ⟨u11, rfl⟩ := hFm.open
                        clear hFm
                        have HT := Lib.hid ht
                        clear ht
                        first
                          | (rename_i hK9; refine hK9 _ _ ?_)
                          | (rename_i hK9 _; refine hK9 _ _ ?_)
                          | (rename_i hK9 _ _; refine hK9 _ _ ?_)
                          | (refine hK0 _ _ ?_)
                        have htb : t = intBody s.fl n neg base verb up := by
                          rw [HT.out, HZ.out, HY.out, HX.out, HDS.out.1, HDS.out.2]
                          rfl
                        have htn : 0 < t.length := by rw [htb]; exact List.length_pos_iff.2 (intBody_ne _ _ _ _ _ _)
                        have hlen := hS.len
                        have hiN : i < N := by omega
                        obtain ⟨ib11, hP11⟩ := hS.pp
                        have c8 := hP11.c8
                        have f8 := hP11.frz 8
                        have hS2 := hS.flag (s' := { s with fl := { s.fl with zero := false } }) (j := 8) (.bool false) (by decide) (fun ib h => h.setZero false)
                        obtain ⟨ib12, hP12⟩ := hS2.pp
                        have hfl := HF.out
                        have CP := pad_any hP12 _ t (hS2.held (by unfold maxLen; omega)) hfl (HL.out.le (by have := hfl.2.1; have := hfl.1; show s.out.length + t.length + s.fl.wid.toNat ≤ _; omega))
                        have HCP := Lib.hid CP
                        have HTB := Lib.hid htb
                        have HF11 := Lib.hid hF11
                        clear hS hS2 hP11 hP12 CP hfl htb htn hF11 hlen
                        go_wp2_with (go_at_call 122; refine (HCP.out).mono ?_; rintro e w' ⟨rfl, v', hP', hF'⟩; have g8 := hP'.frz 8; have c8b := hP'.c8)
                        go_end0
                        have e : fmtIntM s.fl n neg base verb up = padM s.fl.noZero t := by unfold fmtIntM; rw [if_neg HNZ.out, HTB.out]
                        rw [e]
                        exact ⟨rfl, v', ib12, hP'.setZero s.fl.zero, ((HF11.out.setB 8 _).trans hF').setB 8 _⟩
                      · intro J11 K11 hJ11 hK11
                        have hlen := HS.out.len
                        obtain ⟨j, rfl⟩ : ∃ j, i = j + 1 := ⟨i - 1, by omega⟩
                        obtain ⟨v1, hu1⟩ := HS.out.free (show j < N by omega)
                        have hf1 := HS.out.frz (o + j)
                        cases neg
                        · cases hpl : s.fl.plus
                          · rw [hpl] at c5
                            cases hsp : s.fl.space
                            · rw [hsp] at c7
                              have htz : t = z := by rw [ht]; unfold intSign; rw [hpl, hsp]; rfl
                              subst htz
                              clear ht hpl hsp
                              go_wp2_with fail
                              exact Met.intro (hJ11 _ _ ⟨_, j + 1, rfl, ⟨rfl, rfl, rfl, rfl, rfl, rfl, rfl, rfl, rfl, rfl, rfl⟩, HS.out, HF10.out⟩)
                            · rw [hsp] at c7
                              have htz : t = 32 :: z := by rw [ht]; unfold intSign; rw [hpl, hsp]; rfl
                              subst htz
                              clear ht hpl hsp
                              go_wp2_with fail
                              exact Met.intro (hJ11 _ _ ⟨_, j, rfl, ⟨rfl, rfl, rfl, rfl, rfl, rfl, rfl, rfl, rfl, rfl, rfl⟩, HS.out.store 32, HS.out.fr HF10.out 32⟩)
                          · rw [hpl] at c5
                            have htz : t = 43 :: z := by rw [ht]; unfold intSign; rw [hpl]; rfl
                            subst htz
                            clear ht hpl
                            go_wp2_with fail
                            exact Met.intro (hJ11 _ _ ⟨_, j, rfl, ⟨rfl, rfl, rfl, rfl, rfl, rfl, rfl, rfl, rfl, rfl, rfl⟩, HS.out.store 43, HS.out.fr HF10.out 43⟩)
                        · have htz : t = 45 :: z := ht
                          subst htz
                          clear ht
                          go_wp2_with fail
                          exact Met.intro (hJ11 _ _ ⟨_, j, rfl, ⟨rfl, rfl, rfl, rfl, rfl, rfl, rfl, rfl, rfl, rfl, rfl⟩, HS.out.store 45, HS.out.fr HF10.out 45⟩)
                    · intro J10 K10 hJ10 hK10
                      have hlen := HS.out.len
                      by_cases hv79 : verb = 79
                      · rw [if_pos hv79] at hyl
                        have hzy : z = 48 :: 111 :: y := by rw [hz]; unfold intO; rw [if_pos hv79]
                        obtain ⟨j, rfl⟩ : ∃ j, i = j + 1 + 1 := ⟨i - 2, by omega⟩
                        obtain ⟨v1, hu1⟩ := HS.out.free (show j + 1 < N by omega)
                        have hf1 := HS.out.frz (o + (j + 1))
                        have hS2 : Scr b w.heap.size (w9.setCell ⟨k, o + (j + 1), none⟩ (.int .u8 111)) s v k o N (j + 1) (111 :: y) := HS.out.store 111
                        have hF2 : Fr b w v (w9.setCell ⟨k, o + (j + 1), none⟩ (.int .u8 111)) v := HS.out.fr HF9.out 111
                        obtain ⟨v2, hu2⟩ := hS2.free (show j < N by omega)
                        have hf2 := hS2.frz (o + j)
                        have HS2 := Lib.hid hS2
                        have HF2 := Lib.hid hF2
                        subst hzy
                        have hl2 : (48 :: 111 :: y).length + 1 ≤ N := by simp only [List.length_cons]; omega
                        have HL2 := Lib.hid hl2
                        clear hS2 hF2 hz hyl hl2
                        subst hv79
                        go_wp2_with fail
                        exact Met.intro (hJ10 _ _ ⟨_, j, rfl, ⟨rfl, rfl, rfl, rfl, rfl, rfl, rfl, rfl, rfl, rfl, rfl⟩, HS2.out.store 48, HS2.out.fr HF2.out 48, HL2.out⟩)
                      · rw [if_neg hv79] at hyl
                        have hzy : z = y := by rw [hz]; unfold intO; rw [if_neg hv79]
                        subst hzy
                        have HYL := Lib.hid hyl
                        clear hz hyl
                        go_wp2_with fail
                        exact Met.intro (hJ10 _ _ ⟨_, i, rfl, ⟨rfl, rfl, rfl, rfl, rfl, rfl, rfl, rfl, rfl, rfl, rfl⟩, HS.out, HF9.out, HYL.out⟩)
                  · intro J9 K9 hJ9 hK9
                    have hlen := HS.out.len
                    cases hsh : s.fl.sharp
                    · rw [hsh] at c6 hy
                      have hyx : y = x := hy
                      subst hyx
                      have hyl : y.length + (if verb = 79 then 3 else 1) ≤ N := by split <;> omega
                      clear hy hsh
                      have HYL := Lib.hid hyl
                      clear hyl
                      go_wp2_with fail
                      exact Met.intro (hJ9 _ _ ⟨_, i, rfl, ⟨rfl, rfl, rfl, rfl, rfl, rfl, rfl, rfl, rfl, rfl, rfl⟩, HS.out, HF8.out, HYL.out⟩)
                    · rw [hsh] at c6 hy
                      clear hsh
                      rcases HB.out with hb | hb | hb | hb
                      · subst hb
                        have hyx : y = x := hy
                        subst hyx
                        have hyl : y.length + (if verb = 79 then 3 else 1) ≤ N := by split <;> omega
                        have HYL := Lib.hid hyl
                        clear hyl
                        go_wp2_with fail
                        exact Met.intro (hJ9 _ _ ⟨_, i, rfl, ⟨rfl, rfl, rfl, rfl, rfl, rfl, rfl, rfl, rfl, rfl, rfl⟩, HS.out, HF8.out, HYL.out⟩)
                      · subst hb
                        have hyx : y = 48 :: (if up then 88 else 120) :: x := hy
                        clear hy
                        have hv79 : ¬ verb = 79 := fun h => absurd (HV.out h) (by decide)
                        have hyl : y.length + (if verb = 79 then 3 else 1) ≤ N := by rw [if_neg hv79, hyx]; simp only [List.length_cons]; omega
                        have HYL := Lib.hid (And.intro hyl hyx)
                        obtain ⟨j, rfl⟩ : ∃ j, i = j + 1 + 1 := ⟨i - 2, by omega⟩
                        obtain ⟨v1, hu1⟩ := HS.out.free (show j + 1 < N by omega)
                        have hf1 := HS.out.frz (o + (j + 1))
                        have hS2 := HS.out.store ((if up then 88 else 120))
                        have hF2 := HS.out.fr HF8.out ((if up then 88 else 120))
                        rw [digS_16 up, ← HDG.out] at hS2 hF2
                        have hdz : 16 < dg.size := by rw [HDG.out, digS_size]; omega
                        have hdb := bt_eq dg 16 hdz
                        obtain ⟨v2, hu2⟩ := hS2.free (show j < N by omega)
                        have hf2 := hS2.frz (o + j)
                        have HS2 := Lib.hid hS2
                        have HF2 := Lib.hid hF2
                        clear hS2 hF2 hyl hyx hv79
                        go_wp2_with fail
                        refine Met.intro (hJ9 _ _ ⟨_, j, rfl, ⟨rfl, rfl, rfl, rfl, rfl, rfl, rfl, rfl, rfl, rfl, rfl⟩, ?_, HS2.out.fr HF2.out 48, HYL.out.1⟩)
                        rw [HYL.out.2]
                        exact HS2.out.store 48
                      · subst hb
                        by_cases hh : x.head? = some 48
                        · have hyx : y = x := by
                            rw [hy]
                            show (if x.head? = some 48 then x else 48 :: x) = x
                            rw [if_pos hh]
                          subst hyx
                          have hyl : y.length + (if verb = 79 then 3 else 1) ≤ N := by split <;> omega
                          have hxc : 0 < y.length := by
                            cases hq : y with
                            | nil => rw [hq] at hh; cases hh
                            | cons x0 r => simp
                          have hcell := HS.out.at hxc
                          rw [Nat.add_zero] at hcell
                          have hiN : i < N := by omega
                          have h48 : u8 y[0] = .int .u8 48 := by
                            rw [List.head?_eq_getElem?, List.getElem?_eq_getElem hxc] at hh
                            rw [Option.some.inj hh]
                            rfl
                          rw [h48] at hcell
                          have HYL := Lib.hid hyl
                          clear hyl hy hh hxc h48
                          go_wp2_with fail
                          exact Met.intro (hJ9 _ _ ⟨_, i, rfl, ⟨rfl, rfl, rfl, rfl, rfl, rfl, rfl, rfl, rfl, rfl, rfl⟩, HS.out, HF8.out, HYL.out⟩)
                        · have hyx : y = 48 :: x := by
                            rw [hy]
                            show (if x.head? = some 48 then x else 48 :: x) = _
                            rw [if_neg hh]
                          have hx1 : x = ds := by
                            have hq : (intZeros p ds).head? ≠ some 48 := by rw [← HX.out]; exact hh
                            rw [HX.out]; exact intZeros_head p ds hq
                          have hd22 : ds.length ≤ 22 := by
                            rw [HDS.out.1]
                            exact digits_len 8 up (by decide) 21 64 n (Nat.lt_of_lt_of_le hn64.out (by decide))
                          have hyl : y.length + (if verb = 79 then 3 else 1) ≤ N := by
                            rw [hyx, hx1]
                            simp only [List.length_cons]
                            split <;> omega
                          have hxc : 0 < x.length := by rw [hx1, HDS.out.1]; exact List.length_pos_iff.2 (digits_ne 8 up 64 n (by decide))
                          have hcell := HS.out.at hxc
                          rw [Nat.add_zero] at hcell
                          obtain ⟨xv, hxv, hxn⟩ : ∃ xv : Int, u8 x[0] = .int .u8 xv ∧ ¬ xv = 48 := by
                            refine ⟨_, rfl, fun h => hh ?_⟩
                            rw [List.head?_eq_getElem?, List.getElem?_eq_getElem hxc]
                            congr 1
                            exact UInt8.toNat_inj.1 (Int.ofNat.inj h)
                          rw [hxv] at hcell
                          have HYL := Lib.hid (And.intro hyl hyx)
                          obtain ⟨j, rfl⟩ : ∃ j, i = j + 1 := ⟨i - 1, by omega⟩
                          obtain ⟨v1, hu1⟩ := HS.out.free (show j < N by omega)
                          have hf1 := HS.out.frz (o + j)
                          have hiN : j + 1 < N := by omega
                          clear hyl hyx hy hh hxc hxv hx1 hd22
                          go_wp2_with fail
                          refine Met.intro (hJ9 _ _ ⟨_, j, rfl, ⟨rfl, rfl, rfl, rfl, rfl, rfl, rfl, rfl, rfl, rfl, rfl⟩, ?_, HS.out.fr HF8.out 48, HYL.out.1⟩)
                          rw [HYL.out.2]
                          exact HS.out.store 48
                      · subst hb
                        have hyx : y = 48 :: 98 :: x := hy
                        clear hy
                        have hv79 : ¬ verb = 79 := fun h => absurd (HV.out h) (by decide)
                        have hyl : y.length + (if verb = 79 then 3 else 1) ≤ N := by rw [if_neg hv79, hyx]; simp only [List.length_cons]; omega
                        have HYL := Lib.hid (And.intro hyl hyx)
                        obtain ⟨j, rfl⟩ : ∃ j, i = j + 1 + 1 := ⟨i - 2, by omega⟩
                        obtain ⟨v1, hu1⟩ := HS.out.free (show j + 1 < N by omega)
                        have hf1 := HS.out.frz (o + (j + 1))
                        have hS2 : Scr b w.heap.size (w8.setCell ⟨k, o + (j + 1), none⟩ (.int .u8 98)) s v k o N (j + 1) (98 :: x) := HS.out.store 98
                        have hF2 : Fr b w v (w8.setCell ⟨k, o + (j + 1), none⟩ (.int .u8 98)) v := HS.out.fr HF8.out 98
                        obtain ⟨v2, hu2⟩ := hS2.free (show j < N by omega)
                        have hf2 := hS2.frz (o + j)
                        have HS2 := Lib.hid hS2
                        have HF2 := Lib.hid hF2
                        clear hS2 hF2 hyl hyx hv79
                        go_wp2_with fail
                        refine Met.intro (hJ9 _ _ ⟨_, j, rfl, ⟨rfl, rfl, rfl, rfl, rfl, rfl, rfl, rfl, rfl, rfl, rfl⟩, ?_, HS2.out.fr HF2.out 48, HYL.out.1⟩)
                        rw [HYL.out.2]
                        exact HS2.out.store 48
                · intro J8 K8 hJ8 hK8
                  refine wp_loop_ghost_k (fun gk a' w' => ∃ L, ∃ (i : Nat) (zs : Bytes), a' = ⟨L.toArray, []⟩ ∧ Fi (.pointer (some ⟨b, 1, none⟩)) (.int .u64 q) (.int .i64 base) (.bool sg) (.int .i32 verb) (.string dg) (.bool neg) (.slice (some ⟨k, o, none⟩) N N) (.int .i64 p) (.int .i64 i) L ∧ Scr b w.heap.size w' s v k o N i zs ∧ Fr b w v w' v ∧ zs.length + 3 ≤ N ∧ (p - zs.length).toNat ≤ gk ∧ Hid (intZeros p ds = intZeros p zs)) (p - ds.length).toNat ?_ ?_
                  · exact ⟨_, j, ds, rfl, ⟨rfl, rfl, rfl, rfl, rfl, rfl, rfl, rfl, rfl, rfl, rfl⟩, HSF.out.1, HSF.out.2, by omega, Nat.le_refl _, rfl⟩
                  · intro gk a9 w9 hI
                    clear HSF hlen
                    obtain ⟨L, i, zs, rfl, hFm, hS, hF9, hzl, hg, HZ⟩ := hI
                    obtain ⟨u9, rfl⟩ := hFm.open
                    clear hFm
                    intro J9 K9 hJ9 hK9
                    have hlen := hS.len
                    by_cases hlt : (zs.length : Int) < p
                    · obtain ⟨j, rfl⟩ : ∃ j, i = j + 1 := ⟨i - 1, by omega⟩
                      obtain ⟨u, hu⟩ := hS.free (show j < N by omega)
                      have hf := hS.frz (o + j)
                      have h1 : (N : Int) - ((j : Int) + 1) < p := by omega
                      have HZ2 := Lib.hid (HZ.out.trans (intZeros_step p zs hlt))
                      have HS9 := Lib.hid hS
                      have HF9 := Lib.hid hF9
                      clear hS hF9 HZ
                      go_wp2_with fail
                      exact Handed.intro (gk - 1) (by omega) (hJ9 _ _ _ ⟨_, j, 48 :: zs, rfl, ⟨rfl, rfl, rfl, rfl, rfl, rfl, rfl, rfl, rfl, rfl, rfl⟩, HS9.out.store 48, HS9.out.fr HF9.out 48, by simp only [List.length_cons]; omega, by simp only [List.length_cons]; omega, HZ2.out⟩)
                    · have h0 : 0 < i := by omega
                      have h1 : ¬ (N : Int) - (i : Int) < p := by omega
                      have hz : intZeros p ds = zs := HZ.out.trans (intZeros_stop p zs (by omega))
                      have HS9 := Lib.hid (hz ▸ hS)
                      have HF9 := Lib.hid hF9
                      have HZ9 := Lib.hid hz
                      clear hS hF9 HZ hz
                      go_wp2_with fail
                      exact Met.intro (hJ8 _ _ ⟨_, i, rfl, ⟨rfl, rfl, rfl, rfl, rfl, rfl, rfl, rfl, rfl, rfl, rfl⟩, HS9.out, HF9.out, by rw [HZ9.out]; exact hzl⟩)
              · intro J7 K7 hJ7 hK7
                rcases HB.out with hb | hb | hb | hb
                · subst hb
                  go_wp2_with fail
                  refine wp_loop_ghost_k (fun gk a' w' => ∃ L, ∃ (i : Nat) (ys : Bytes) (q : Nat), a' = ⟨L.toArray, []⟩ ∧ Fi (.pointer (some ⟨b, 1, none⟩)) (.int .u64 q) (.int .i64 10) (.bool sg) (.int .i32 verb) (.string dg) (.bool neg) (.slice (some ⟨k, o, none⟩) N N) (.int .i64 (intPrec s.fl neg)) (.int .i64 i) L ∧ Scr b w.heap.size w' s v k o N i ys ∧ Fr b w v w' v ∧ q < 10 ^ (gk + 1) ∧ gk + ys.length = 63 ∧ q ≤ n ∧ Hid (digits 10 up 64 n = digits 10 up (gk + 1) q ++ ys)) 63 ?_ ?_
                  · exact ⟨_, N, [], n, rfl, ⟨rfl, rfl, rfl, rfl, rfl, rfl, rfl, rfl, rfl, rfl, rfl⟩, HS.out, HFr.out, Nat.lt_of_lt_of_le hn64.out (by decide), rfl, Nat.le_refl _, by show _ = _; simp⟩
                  · intro gk a8 w8 hI
                    obtain ⟨L, i, ys, q, rfl, hFm, hS, hF8, hq, hg, hqn, HD⟩ := hI
                    obtain ⟨u8', rfl⟩ := hFm.open
                    clear hFm
                    intro J8 K8 hJ8 hK8
                    have hlen := hS.len
                    by_cases hlt : q < 10
                    · have HS8 := Lib.hid hS
                      have HF8 := Lib.hid hF8
                      clear hS hF8
                      have hd : digits 10 up 64 n = digC up q :: ys := by
                        rw [HD.out, digits, if_pos (by omega), Nat.mod_eq_of_lt hlt]; rfl
                      have HD2 := Lib.hid hd
                      clear hd hq
                      go_wp2_with fail
                      exact Met.intro (hJ7 _ _ ⟨_, i, ys, q, rfl, ⟨rfl, rfl, rfl, rfl, rfl, rfl, rfl, rfl, rfl, rfl, rfl⟩, HS8.out, HF8.out, hlt, by omega, HD2.out⟩)
                    · obtain ⟨j, rfl⟩ : ∃ j, i = j + 1 := ⟨i - 1, by omega⟩
                      obtain ⟨u, hu⟩ := hS.free (show j < N by omega)
                      have hf := hS.frz (o + j)
                      have hgk : 1 ≤ gk := by
                        cases gk with
                        | zero => simp at hq; omega
                        | succ gk => omega
                      have hq' : q / 10 < 10 ^ (gk - 1 + 1) := by
                        rw [Nat.pow_succ, Nat.mul_comm] at hq
                        rw [show gk - 1 + 1 = gk by omega]
                        exact Nat.div_lt_of_lt_mul hq
                      have hd : digits 10 up 64 n = digits 10 up (gk - 1 + 1) (q / 10) ++ (digC up (q % 10) :: ys) := by
                        rw [HD.out, digits, if_neg (by omega), show gk - 1 + 1 = gk by omega, List.append_assoc]; rfl
                      have hq64 : q < 18446744073709551616 := Nat.lt_of_le_of_lt hqn hn64.out
                      have HS8 := Lib.hid hS
                      have HF8 := Lib.hid hF8
                      have HQ := Lib.hid (And.intro hq' (And.intro hd hq64))
                      clear hS hF8 hq hq' hd hq64 HD
                      go_wp2_with fail
                      refine Handed.intro (gk - 1) (by omega) (hJ8 _ _ _ ⟨_, j, digC up (q % 10) :: ys, q / 10, rfl, ⟨rfl, rfl, congrArg some (congrArg (Value.int .u64) (dec_next q HQ.out.2.2)), rfl, rfl, rfl, rfl, rfl, rfl, rfl, rfl⟩, ?_, ?_, HQ.out.1, by simp only [List.length_cons]; omega, by omega, HQ.out.2.1⟩)
                      · rw [dec_byte up q]; exact HS8.out.store _
                      · rw [dec_byte up q]; exact HS8.out.fr HF8.out _
                · subst hb
                  go_wp2_with fail
                  refine wp_loop_ghost_k (fun gk a' w' => ∃ L, ∃ (i : Nat) (ys : Bytes) (q : Nat), a' = ⟨L.toArray, []⟩ ∧ Fi (.pointer (some ⟨b, 1, none⟩)) (.int .u64 q) (.int .i64 16) (.bool sg) (.int .i32 verb) (.string dg) (.bool neg) (.slice (some ⟨k, o, none⟩) N N) (.int .i64 (intPrec s.fl neg)) (.int .i64 i) L ∧ Scr b w.heap.size w' s v k o N i ys ∧ Fr b w v w' v ∧ q < 16 ^ (gk + 1) ∧ gk + ys.length = 63 ∧ q ≤ n ∧ Hid (digits 16 up 64 n = digits 16 up (gk + 1) q ++ ys)) 63 ?_ ?_
                  · exact ⟨_, N, [], n, rfl, ⟨rfl, rfl, rfl, rfl, rfl, rfl, rfl, rfl, rfl, rfl, rfl⟩, HS.out, HFr.out, Nat.lt_of_lt_of_le hn64.out (by decide), rfl, Nat.le_refl _, by show _ = _; simp⟩
                  · intro gk a8 w8 hI
                    obtain ⟨L, i, ys, q, rfl, hFm, hS, hF8, hq, hg, hqn, HD⟩ := hI
                    obtain ⟨u8', rfl⟩ := hFm.open
                    clear hFm
                    intro J8 K8 hJ8 hK8
                    have hlen := hS.len
                    by_cases hlt : q < 16
                    · have HS8 := Lib.hid hS
                      have HF8 := Lib.hid hF8
                      clear hS hF8
                      have hd : digits 16 up 64 n = digC up q :: ys := by
                        rw [HD.out, digits, if_pos (by omega), Nat.mod_eq_of_lt hlt]; rfl
                      have HD2 := Lib.hid hd
                      clear hd hq
                      go_wp2_with fail
                      exact Met.intro (hJ7 _ _ ⟨_, i, ys, q, rfl, ⟨rfl, rfl, rfl, rfl, rfl, rfl, rfl, rfl, rfl, rfl, rfl⟩, HS8.out, HF8.out, hlt, by omega, HD2.out⟩)
                    · obtain ⟨j, rfl⟩ : ∃ j, i = j + 1 := ⟨i - 1, by omega⟩
                      obtain ⟨u, hu⟩ := hS.free (show j < N by omega)
                      have hf := hS.frz (o + j)
                      have hgk : 1 ≤ gk := by
                        cases gk with
                        | zero => simp at hq; omega
                        | succ gk => omega
                      have hq' : q / 16 < 16 ^ (gk - 1 + 1) := by
                        rw [Nat.pow_succ, Nat.mul_comm] at hq
                        rw [show gk - 1 + 1 = gk by omega]
                        exact Nat.div_lt_of_lt_mul hq
                      have hd : digits 16 up 64 n = digits 16 up (gk - 1 + 1) (q / 16) ++ (digC up (q % 16) :: ys) := by
                        rw [HD.out, digits, if_neg (by omega), show gk - 1 + 1 = gk by omega, List.append_assoc]; rfl
                      have hq64 : q < 18446744073709551616 := Nat.lt_of_le_of_lt hqn hn64.out
                      have HS8 := Lib.hid hS
                      have HF8 := Lib.hid hF8
                      have HQ := Lib.hid (And.intro hq' (And.intro hd hq64))
                      clear hS hF8 hq hq' hd hq64 HD
                      obtain ⟨d, hd⟩ : ∃ d, d = q % 16 := ⟨_, rfl⟩
                      have hd16 : d < 16 := by omega
                      have hdd : (q : Int) % 16 = (d : Int) := by omega
                      have hdz : d < dg.size := by rw [HDG.out, digS_size]; omega
                      have hand : bits .and .u64 (q : Int) 15 = (d : Int) := (and_u64 4 (by decide) q HQ.out.2.2).trans hdd
                      clear hdd
                      have hdb := bt_eq dg d hdz
                      have HD16 := Lib.hid (And.intro hd hd16)
                      clear hd hd16
                      go_wp2_with fail
                      refine Handed.intro (gk - 1) (by omega) (hJ8 _ _ _ ⟨_, j, digC up (q % 16) :: ys, q / 16, rfl, ⟨rfl, rfl, rfl, rfl, rfl, rfl, rfl, rfl, rfl, rfl, rfl⟩, ?_, ?_, HQ.out.1, by simp only [List.length_cons]; omega, by omega, HQ.out.2.1⟩)
                      · rw [← digS_at up d HD16.out.2 HDG.out, HD16.out.1]; exact HS8.out.store _
                      · rw [← digS_at up d HD16.out.2 HDG.out, HD16.out.1]; exact HS8.out.fr HF8.out _
                · subst hb
                  go_wp2_with fail
                  refine wp_loop_ghost_k (fun gk a' w' => ∃ L, ∃ (i : Nat) (ys : Bytes) (q : Nat), a' = ⟨L.toArray, []⟩ ∧ Fi (.pointer (some ⟨b, 1, none⟩)) (.int .u64 q) (.int .i64 8) (.bool sg) (.int .i32 verb) (.string dg) (.bool neg) (.slice (some ⟨k, o, none⟩) N N) (.int .i64 (intPrec s.fl neg)) (.int .i64 i) L ∧ Scr b w.heap.size w' s v k o N i ys ∧ Fr b w v w' v ∧ q < 8 ^ (gk + 1) ∧ gk + ys.length = 63 ∧ q ≤ n ∧ Hid (digits 8 up 64 n = digits 8 up (gk + 1) q ++ ys)) 63 ?_ ?_
                  · exact ⟨_, N, [], n, rfl, ⟨rfl, rfl, rfl, rfl, rfl, rfl, rfl, rfl, rfl, rfl, rfl⟩, HS.out, HFr.out, Nat.lt_of_lt_of_le hn64.out (by decide), rfl, Nat.le_refl _, by show _ = _; simp⟩
                  · intro gk a8 w8 hI
                    obtain ⟨L, i, ys, q, rfl, hFm, hS, hF8, hq, hg, hqn, HD⟩ := hI
                    obtain ⟨u8', rfl⟩ := hFm.open
                    clear hFm
                    intro J8 K8 hJ8 hK8
                    have hlen := hS.len
                    by_cases hlt : q < 8
                    · have HS8 := Lib.hid hS
                      have HF8 := Lib.hid hF8
                      clear hS hF8
                      have hd : digits 8 up 64 n = digC up q :: ys := by
                        rw [HD.out, digits, if_pos (by omega), Nat.mod_eq_of_lt hlt]; rfl
                      have HD2 := Lib.hid hd
                      clear hd hq
                      go_wp2_with fail
                      exact Met.intro (hJ7 _ _ ⟨_, i, ys, q, rfl, ⟨rfl, rfl, rfl, rfl, rfl, rfl, rfl, rfl, rfl, rfl, rfl⟩, HS8.out, HF8.out, hlt, by omega, HD2.out⟩)
                    · obtain ⟨j, rfl⟩ : ∃ j, i = j + 1 := ⟨i - 1, by omega⟩
                      obtain ⟨u, hu⟩ := hS.free (show j < N by omega)
                      have hf := hS.frz (o + j)
                      have hgk : 1 ≤ gk := by
                        cases gk with
                        | zero => simp at hq; omega
                        | succ gk => omega
                      have hq' : q / 8 < 8 ^ (gk - 1 + 1) := by
                        rw [Nat.pow_succ, Nat.mul_comm] at hq
                        rw [show gk - 1 + 1 = gk by omega]
                        exact Nat.div_lt_of_lt_mul hq
                      have hd : digits 8 up 64 n = digits 8 up (gk - 1 + 1) (q / 8) ++ (digC up (q % 8) :: ys) := by
                        rw [HD.out, digits, if_neg (by omega), show gk - 1 + 1 = gk by omega, List.append_assoc]; rfl
                      have hq64 : q < 18446744073709551616 := Nat.lt_of_le_of_lt hqn hn64.out
                      have HS8 := Lib.hid hS
                      have HF8 := Lib.hid hF8
                      have HQ := Lib.hid (And.intro hq' (And.intro hd hq64))
                      clear hS hF8 hq hq' hd hq64 HD
                      have hand : bits .and .u64 (q : Int) 7 = (q : Int) % 8 := and_u64 3 (by decide) q HQ.out.2.2
                      go_wp2_with fail
                      refine Handed.intro (gk - 1) (by omega) (hJ8 _ _ _ ⟨_, j, digC up (q % 8) :: ys, q / 8, rfl, ⟨rfl, rfl, rfl, rfl, rfl, rfl, rfl, rfl, rfl, rfl, rfl⟩, ?_, ?_, HQ.out.1, by simp only [List.length_cons]; omega, by omega, HQ.out.2.1⟩)
                      · rw [← u8_dig8 up q]; exact HS8.out.store _
                      · rw [← u8_dig8 up q]; exact HS8.out.fr HF8.out _
                · subst hb
                  go_wp2_with fail
                  refine wp_loop_ghost_k (fun gk a' w' => ∃ L, ∃ (i : Nat) (ys : Bytes) (q : Nat), a' = ⟨L.toArray, []⟩ ∧ Fi (.pointer (some ⟨b, 1, none⟩)) (.int .u64 q) (.int .i64 2) (.bool sg) (.int .i32 verb) (.string dg) (.bool neg) (.slice (some ⟨k, o, none⟩) N N) (.int .i64 (intPrec s.fl neg)) (.int .i64 i) L ∧ Scr b w.heap.size w' s v k o N i ys ∧ Fr b w v w' v ∧ q < 2 ^ (gk + 1) ∧ gk + ys.length = 63 ∧ q ≤ n ∧ Hid (digits 2 up 64 n = digits 2 up (gk + 1) q ++ ys)) 63 ?_ ?_
                  · exact ⟨_, N, [], n, rfl, ⟨rfl, rfl, rfl, rfl, rfl, rfl, rfl, rfl, rfl, rfl, rfl⟩, HS.out, HFr.out, Nat.lt_of_lt_of_le hn64.out (by decide), rfl, Nat.le_refl _, by show _ = _; simp⟩
                  · intro gk a8 w8 hI
                    obtain ⟨L, i, ys, q, rfl, hFm, hS, hF8, hq, hg, hqn, HD⟩ := hI
                    obtain ⟨u8', rfl⟩ := hFm.open
                    clear hFm
                    intro J8 K8 hJ8 hK8
                    have hlen := hS.len
                    by_cases hlt : q < 2
                    · have HS8 := Lib.hid hS
                      have HF8 := Lib.hid hF8
                      clear hS hF8
                      have hd : digits 2 up 64 n = digC up q :: ys := by
                        rw [HD.out, digits, if_pos (by omega), Nat.mod_eq_of_lt hlt]; rfl
                      have HD2 := Lib.hid hd
                      clear hd hq
                      go_wp2_with fail
                      exact Met.intro (hJ7 _ _ ⟨_, i, ys, q, rfl, ⟨rfl, rfl, rfl, rfl, rfl, rfl, rfl, rfl, rfl, rfl, rfl⟩, HS8.out, HF8.out, hlt, by omega, HD2.out⟩)
                    · obtain ⟨j, rfl⟩ : ∃ j, i = j + 1 := ⟨i - 1, by omega⟩
                      obtain ⟨u, hu⟩ := hS.free (show j < N by omega)
                      have hf := hS.frz (o + j)
                      have hgk : 1 ≤ gk := by
                        cases gk with
                        | zero => simp at hq; omega
                        | succ gk => omega
                      have hq' : q / 2 < 2 ^ (gk - 1 + 1) := by
                        rw [Nat.pow_succ, Nat.mul_comm] at hq
                        rw [show gk - 1 + 1 = gk by omega]
                        exact Nat.div_lt_of_lt_mul hq
                      have hd : digits 2 up 64 n = digits 2 up (gk - 1 + 1) (q / 2) ++ (digC up (q % 2) :: ys) := by
                        rw [HD.out, digits, if_neg (by omega), show gk - 1 + 1 = gk by omega, List.append_assoc]; rfl
                      have hq64 : q < 18446744073709551616 := Nat.lt_of_le_of_lt hqn hn64.out
                      have HS8 := Lib.hid hS
                      have HF8 := Lib.hid hF8
                      have HQ := Lib.hid (And.intro hq' (And.intro hd hq64))
                      clear hS hF8 hq hq' hd hq64 HD
                      have hand : bits .and .u64 (q : Int) 1 = (q : Int) % 2 := and_u64 1 (by decide) q HQ.out.2.2
                      go_wp2_with fail
                      refine Handed.intro (gk - 1) (by omega) (hJ8 _ _ _ ⟨_, j, digC up (q % 2) :: ys, q / 2, rfl, ⟨rfl, rfl, rfl, rfl, rfl, rfl, rfl, rfl, rfl, rfl, rfl⟩, ?_, ?_, HQ.out.1, by simp only [List.length_cons]; omega, by omega, HQ.out.2.1⟩)
                      · rw [← u8_dig2 up q]; exact HS8.out.store _
                      · rw [← u8_dig2 up q]; exact HS8.out.fr HF8.out _
            · intro J K hJ hK
              go_wp2_with fail
              exact Met.intro (hJ _ _ ⟨_, rfl, ⟨rfl, rfl, rfl, rfl, rfl, rfl, rfl, rfl, rfl, rfl, rfl⟩, rfl, rfl⟩)
          · intro J K hJ hK
            cases hp : s.fl.precP
            · rw [hp] at c3
              have c2 := HP4.out.c2
              have c4 := HP4.out.c4
              have c5 := HP4.out.c5
              have c7 := HP4.out.c7
              have c8 := HP4.out.c8
              have c11 := HP4.out.c11
              have hP0 : s.fl.zero = false ∨ s.fl.minus = true ∨ s.fl.widP = false → intPrec s.fl neg = 0 := by
                intro h
                unfold intPrec
                rw [hp]
                rcases h with h | h | h <;> simp [h]
              have hNZ : ¬ (s.fl.precP = true ∧ s.fl.prec = 0 ∧ n = 0) := fun hh => by rw [hp] at hh; cases hh.1
              cases hz : s.fl.zero
              · rw [hz] at c8
                have e := hP0 (.inl hz)
                rw [e] at hJ
                clear hP0
                go_wp2_with fail
                exact Met.intro (hJ _ _ ⟨_, rfl, ⟨rfl, rfl, rfl, rfl, rfl, rfl, rfl, rfl, rfl, rfl, rfl⟩, rfl, hNZ⟩)
              · cases hm : s.fl.minus
                · cases hwq : s.fl.widP
                  · rw [hz] at c8
                    rw [hm] at c4
                    rw [hwq] at c2
                    have e := hP0 (.inr (.inr hwq))
                    rw [e] at hJ
                    clear hP0
                    go_wp2_with fail
                    exact Met.intro (hJ _ _ ⟨_, rfl, ⟨rfl, rfl, rfl, rfl, rfl, rfl, rfl, rfl, rfl, rfl, rfl⟩, rfl, hNZ⟩)
                  · rw [hz] at c8
                    rw [hm] at c4
                    rw [hwq] at c2
                    have e : intPrec s.fl neg = s.fl.wid - (if neg || s.fl.plus || s.fl.space then 1 else 0) := by
                      unfold intPrec
                      rw [hp, hz, hm, hwq]
                      rfl
                    have hfl := HF.out
                    have w0 := hfl.1
                    have w1 := hfl.2.1
                    rw [e] at hJ
                    clear hP0 hfl e
                    cases neg
                    · cases hpl : s.fl.plus
                      · rw [hpl] at c5 hJ
                        cases hsp : s.fl.space
                        · rw [hsp] at c7 hJ
                          go_wp2_with fail
                          exact Met.intro (hJ _ _ ⟨_, rfl, ⟨rfl, rfl, rfl, rfl, rfl, rfl, rfl, rfl, rfl, by first | rfl | go_num | simp, rfl⟩, rfl, hNZ⟩)
                        · rw [hsp] at c7 hJ
                          go_wp2_with fail
                          exact Met.intro (hJ _ _ ⟨_, rfl, ⟨rfl, rfl, rfl, rfl, rfl, rfl, rfl, rfl, rfl, by first | rfl | go_num | simp, rfl⟩, rfl, hNZ⟩)
                      · rw [hpl] at c5 hJ
                        go_wp2_with fail
                        exact Met.intro (hJ _ _ ⟨_, rfl, ⟨rfl, rfl, rfl, rfl, rfl, rfl, rfl, rfl, rfl, by first | rfl | go_num | simp, rfl⟩, rfl, hNZ⟩)
                    · go_wp2_with fail
                      exact Met.intro (hJ _ _ ⟨_, rfl, ⟨rfl, rfl, rfl, rfl, rfl, rfl, rfl, rfl, rfl, by first | rfl | go_num | simp, rfl⟩, rfl, hNZ⟩)
                · rw [hz] at c8
                  rw [hm] at c4
                  have e := hP0 (.inr (.inl hm))
                  rw [e] at hJ
                  clear hP0
                  go_wp2_with fail
                  exact Met.intro (hJ _ _ ⟨_, rfl, ⟨rfl, rfl, rfl, rfl, rfl, rfl, rfl, rfl, rfl, rfl, rfl⟩, rfl, hNZ⟩)
            · rw [hp] at c3
              by_cases hz : s.fl.prec = 0 ∧ n = 0
              · obtain ⟨z1, z2⟩ := hz
                subst z2
                rw [z1] at c12
                have c8 := HP4.out.c8
                have f8 := HP4.out.frz 8
                have c11 := HP4.out.c11
                have hPz := HP4.out.setZero false
                have hFl := HF.out
                have CW := writePadding_any hPz s.fl.wid (HL.out.le (by have := hFl.2.1; have := hFl.1; show s.out.length + _ ≤ _; omega)).room (by have := hFl.2.1; omega) (by have := HL.out; unfold Fits at this; show s.out.length ≤ _; omega)
                have HCW := Lib.hid CW
                clear hPz CW hFl
                go_wp2_with (go_at_call 106; refine (HCW.out).mono ?_; rintro e w' ⟨rfl, v', hP', hF'⟩; have g8 := hP'.frz 8; have c8b := hP'.c8)
                try rw [Exit.noGoto_ret]
                refine bodyPost_ret (results_none rfl _ _ _) rfl ?_
                have e : fmtIntM s.fl 0 neg base verb up = padding s.fl.noZero s.fl.wid := by unfold fmtIntM; rw [if_pos ⟨hp, z1, rfl⟩]
                rw [e]
                exact ⟨rfl, v', ib4, hP'.setZero s.fl.zero, (HFr.out.trans (((Fr.refl _ _ _).setB 8 _).trans hF')).setB 8 _⟩
              · have eP : intPrec s.fl neg = s.fl.prec := by unfold intPrec; rw [hp]; rfl
                rw [eP] at hJ
                by_cases z1 : s.fl.prec = 0
                · have z2 : ¬ (n : Int) = 0 := fun h => hz ⟨z1, by omega⟩
                  rw [z1] at c12 hJ
                  go_wp2_with fail
                  exact Met.intro (hJ _ _ ⟨_, rfl, ⟨rfl, rfl, rfl, rfl, rfl, rfl, rfl, rfl, rfl, rfl, rfl⟩, rfl, fun hh => hz ⟨z1, hh.2.2⟩⟩)
                · go_wp2_with fail
                  exact Met.intro (hJ _ _ ⟨_, rfl, ⟨rfl, rfl, rfl, rfl, rfl, rfl, rfl, rfl, rfl, rfl, rfl⟩, rfl, fun hh => z1 hh.2.1⟩)
        · intro J K hJ hK
          cases wp
          · go_wp2_with fail
            exact Met.intro (hJ _ _ ⟨_, b, 13, 68, rfl, ⟨rfl, rfl, rfl, rfl, rfl, rfl, rfl, rfl, rfl, rfl, rfl⟩, Scr.start HP.out, Fr.refl _ _ _, by decide, by decide, fun h => by cases h⟩)
          · have hf := HF.out
            obtain ⟨f1, f2, f3, f4⟩ := hf
            have d2 : ∀ q, (w.drewN q).cell? ⟨b, 11, none⟩ = some (.int .i64 s.fl.wid) := fun _ => c11
            have d3 : w.drew.cell? ⟨b, 11, none⟩ = some (.int .i64 s.fl.wid) := c11
            have d4 : w.drew.cell? ⟨b, 12, none⟩ = some (.int .i64 s.fl.prec) := c12
            go_wp2_with fail
            go_region_with fail
            all_goals
              by_cases hw : 68 < 3 + s.fl.wid + s.fl.prec
              · obtain ⟨N, hN⟩ : ∃ N : Nat, 3 + s.fl.wid + s.fl.prec = (N : Int) := ⟨(3 + s.fl.wid + s.fl.prec).toNat, by omega⟩
                have hNr : Room N := by unfold Room; omega
                go_wp2_with (at_make; refine wpList_mk rfl _ _ 26 rfl 5 Tryz.underlying26 byte5 .i64 .i64 _ _ N rfl rfl (by omega) (by omega) hNr ?_)
                intro w5 hB hO hs
                have hP5 := HP.out.drew.only hO (fun _ _ _ he => by cases he)
                have hblt := HP.out.lt
                have hpl := fun o1 c1 (he : place v = some (w.heap.size, o1, c1)) => Nat.lt_irrefl _ (HP.out.buf.place_lt he)
                have hS := Scr.startNew (base := w.heap.size) hP5 hB (by show w.heap.size ≠ b; omega) (Nat.le_refl _) (fun o1 c1 he => hpl o1 c1 he)
                have hFr : Fr b w v w5 v := ((Fr.refl b w v).drew).only hO (fun _ _ _ he => by cases he)
                have HSF := Lib.hid (And.intro hS hFr)
                clear hS hFr hpl hP5 hB hO hs
                go_wp2_with fail
                exact Met.intro (hJ _ _ ⟨_, _, _, N, rfl, ⟨rfl, rfl, rfl, rfl, rfl, rfl, rfl, rfl, rfl, rfl, rfl⟩, HSF.out.1, HSF.out.2, by omega, by omega, fun _ => by omega⟩)
              · go_wp2_with fail
                exact Met.intro (hJ _ _ ⟨_, b, 13, 68, rfl, ⟨rfl, rfl, rfl, rfl, rfl, rfl, rfl, rfl, rfl, rfl, rfl⟩, Scr.start HP.out.drew, (Fr.refl _ _ _).drew, by decide, by decide, fun _ => by omega⟩)
      · intro J K hJ hK
        cases hw : s.fl.widP
        · rw [hw] at c2
          cases hp : s.fl.precP
          · rw [hp] at c3
            rw [hw, hp] at hJ
            go_wp2_with fail
            exact Met.intro (hJ _ _ ⟨_, rfl, ⟨rfl, rfl, rfl, rfl, rfl, rfl, rfl, rfl, rfl, rfl, rfl⟩, rfl, rfl⟩)
          · rw [hp] at c3
            rw [hw, hp] at hJ
            go_wp2_with fail
            exact Met.intro (hJ _ _ ⟨_, rfl, ⟨rfl, rfl, rfl, rfl, rfl, rfl, rfl, rfl, rfl, rfl, rfl⟩, rfl, rfl⟩)
        · rw [hw] at c2
          rw [hw] at hJ
          go_wp2_with fail
          exact Met.intro (hJ _ _ ⟨_, rfl, ⟨rfl, rfl, rfl, rfl, rfl, rfl, rfl, rfl, rfl, rfl, rfl⟩, rfl, rfl⟩)
    · intro J K hJ hK
      cases neg
      · have hnu : (u : Int) = (n : Int) := by
          have h1 := HN.out.1
          have h2 := HN.out.2
          unfold absU at h2
          rw [← h1] at h2
          simp only [Bool.false_eq_true, if_false] at h2
          omega
        go_wp2_with fail
        exact Met.intro (hJ _ _ ⟨_, rfl, ⟨rfl, by rw [hnu]; rfl, by rw [← hnu]; rfl, rfl, rfl, rfl, rfl, rfl, rfl, rfl, rfl⟩, rfl⟩)
      · have hnu : 18446744073709551616 - u = (n : Int) ∧ 9223372036854775808 ≤ u := by
          have h1 := HN.out.1
          have h2 := HN.out.2
          unfold absU at h2
          rw [← h1] at h2
          simp only [if_true] at h2
          unfold negU at h1
          have h3 : (sg && decide (9223372036854775808 ≤ u)) = true := h1.symm
          simp only [Bool.and_eq_true, decide_eq_true_eq] at h3
          omega
        obtain ⟨hn1, hn2⟩ := hnu
        go_wp2_with fail
        refine Met.intro (hJ _ _ ⟨_, rfl, ⟨rfl, rfl, ?_, rfl, rfl, rfl, rfl, rfl, rfl, rfl, rfl⟩, rfl⟩)
        show some (Value.int .u64 (IntKind.u64.wrap (-u))) = some (Value.int .u64 n)
        rw [show IntKind.u64.wrap (-u) = (n : Int) from by rw [IntKind.wrap_u64]; omega]
  · intro J K hJ hK
    cases sg
    · have hg : neg = false := HN.out.1
      subst hg
      go_wp2_with fail
      exact Met.intro (hJ _ _ ⟨_, rfl, ⟨rfl, rfl, rfl, rfl, rfl, rfl, rfl, rfl, rfl, rfl, rfl⟩, rfl⟩)
    · by_cases hu : 9223372036854775808 ≤ u
      · have hg : neg = true := by rw [HN.out.1]; unfold negU; rw [decide_eq_true hu]; rfl
        subst hg
        have hw : wrap64 u = u - 18446744073709551616 := by unfold wrap64; omega
        have hw2 : u - 18446744073709551616 < 0 := by omega
        go_wp2_with fail
        exact Met.intro (hJ _ _ ⟨_, rfl, ⟨rfl, rfl, rfl, rfl, rfl, rfl, rfl, rfl, rfl, rfl, rfl⟩, rfl⟩)
      · have hg : neg = false := by rw [HN.out.1]; unfold negU; rw [decide_eq_false hu]; rfl
        subst hg
        have hw : wrap64 u = u := by unfold wrap64; omega
        have hw2 : ¬ u < 0 := by omega
        go_wp2_with fail
        exact Met.intro (hJ _ _ ⟨_, rfl, ⟨rfl, rfl, rfl, rfl, rfl, rfl, rfl, rfl, rfl, rfl, rfl⟩, rfl⟩)

end Go.Proofs.YtcbliojofnigdaaGreatDoor
