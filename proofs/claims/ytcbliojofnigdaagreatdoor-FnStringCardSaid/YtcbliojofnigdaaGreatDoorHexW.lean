/- fmt.fmtSbx: a string or bytes in base 16 (printed by tools/gen_hexw.py). -/
import Derived.Test.YtcbliojofnigdaaGreatDoorHexF
import Derived.Test.YtcbliojofnigdaaGreatDoorHexM
import Derived.Test.YtcbliojofnigdaaGreatDoorPfFin
import Derived.Test.YtcbliojofnigdaaGreatDoorPadB
import Derived.Lib.LazyBuf
import Derived.Deep.DeepCutAuto
import Derived.WalkMore
import Derived.LoopTactic
import Derived.Deep.RegionLaw
set_option linter.unusedVariables false
set_option linter.unusedSimpArgs false
namespace Go.Proofs.YtcbliojofnigdaaGreatDoor
open Go Go.Proofs Go.RowKit

theorem B_bt (up : Bool) {dg : ByteArray} (d : Nat) (h : d < 16) (he : dg = digS up) : B (bt dg d) = digC up d := by
  have e := digS_at up d h he
  unfold u8 at e
  injection e with _ e
  rw [← e]
  unfold B
  simp
theorem PP.stillc {b : Nat} {w w' : World} {s : PS} {v v' : Value} {ib : List Value} {ys : Bytes} (h : PP b w s v ib) (k : App w v w' v' ys) {j : Nat} {x : Value} (hc : w.cell? ⟨b, j, none⟩ = some x) : w'.cell? ⟨b, j, none⟩ = some x := by
  rw [World.cell?_of_block (a := ⟨b, j, none⟩) (h.still k)]; exact hc
theorem B_x (up : Bool) : B (bt (digS up) 16) = (if up then 88 else 120) := by cases up <;> rfl
/-- an append at a step of a region that draws its order -/
theorem step_app_lit {P : Program} {ops : Array Oper} {o : Oper} {a : Act} {K : Act → World → Prop} {Q : Exit → Act → World → Prop} {E : Prop} {w : World} (hgd : o.guard = none) (s x : Operand) (t : TypeId)
    (ho : o.op = .call { callee := .builtin .append, args := #[s, x], argTypes := #[t, t] })
    (e : TypeId) (hby : (P.info? e).map (fun i => (i.zero, i.size, i.bytes)) = some (some (.int .u8 0), 1, 1)) (ht : P.underlying t = some (.slice e))
    (v : Value) (xs : Bytes) (hs : a.eval s = v) (cs : List Int) (n : Nat) (hx : a.eval x = .slice (some ⟨w.heap.size, 0, none⟩) n n) (hn : cs.length = n) (W0 : World) (V0 : Value) (hb : App W0 V0 w v xs) (e' : TypeId) (vs : List Value) (hvs : vs = cs.map (Value.int .u8))
    (hc : ∀ c ∈ cs, 0 ≤ c ∧ c ≤ 255) (hlen : Room (xs.length + n))
    (h : ∀ v' w', App W0 V0 w' v' (xs ++ cs.map B) → K (a.put o.dst v') w') :
    if Region.wanted o (yielded ops a.tmps) = true then Oper.wp P o a (w.alloc (.cells vs.toArray e')).drew K Q else E := by
  have hw : Region.wanted o (yielded ops a.tmps) = true := by simp [Region.wanted, hgd]
  rw [if_pos hw]
  subst hvs
  obtain ⟨i, hi, hz0, hz1, hz2⟩ := info_parts hby
  have hA := (hb.alloc (.cells (cs.map (Value.int .u8)).toArray e')).drew
  obtain ⟨v', w', hr, happ⟩ := run_append_buf (P := P) (w.alloc (.cells (cs.map (Value.int .u8)).toArray e')).drew t t o.type e i ht hi hz0 hz1 hz2 v xs hA.buf _ (cs.map B) (Src.lit (w := w.drew) ht cs hc e' n hn) (by rw [List.length_map, hn]; exact hlen)
  have hx' : a.eval x = .slice (some ⟨w.drew.heap.size, 0, none⟩) n n := hx
  unfold Oper.wp execOp
  simp only [ho, resolve, invoke, builtin, Sem.run_bind, Sem.run_pure, Result.andThen_ok, List.map_toArray, List.map_cons, List.map_nil, hs, hx', hr]
  exact h _ _ (hA.trans happ)
/-- the filling up of a text that is no UTF-8 but ASCII -/
def lpB (f : Fl) (n : Nat) : Bytes := if f.widP = true ∧ (n : Int) < f.wid ∧ f.minus = false then padding f (f.wid - n) else []
def rpB (f : Fl) (n : Nat) : Bytes := if f.widP = true ∧ (n : Int) < f.wid ∧ f.minus = true then padding f (f.wid - n) else []
theorem padM_lr (f : Fl) (t : Bytes) (ht : ∀ x ∈ t, x.toNat < 128) : padM f t = lpB f t.length ++ (t ++ rpB f t.length) := by
  have hr := runes_asciiL ht
  unfold padM lpB rpB
  rw [hr]
  by_cases h : f.widP = false ∨ f.wid = 0
  · rw [if_pos h, if_neg, if_neg]
    · simp
    · rintro ⟨h1, h2, _⟩
      rcases h with h | h
      · rw [h] at h1; cases h1
      · omega
    · rintro ⟨h1, h2, _⟩
      rcases h with h | h
      · rw [h] at h1; cases h1
      · omega
  · rw [if_neg h]
    have hw : f.widP = true := by
      cases hh : f.widP
      · exact absurd (.inl hh) h
      · rfl
    by_cases hl : (t.length : Int) < f.wid
    · cases hm : f.minus <;> simp [hw, hl]
    · have hp : padding f (f.wid - t.length) = [] := by
        unfold padding
        have : (f.wid - (t.length : Int)).toNat = 0 := by omega
        rw [this]; rfl
      rw [hp]
      cases hm : f.minus <;> simp [hl]
set_option maxRecDepth 100000 in
theorem and15_u8 (m : Nat) (h : m < 256) : bits .and .u8 (m : Int) 15 = ((m % 16 : Nat) : Int) := by
  have key : ∀ x : Fin 256, bits .and .u8 ((x.val : Nat) : Int) 15 = ((x.val % 16 : Nat) : Int) := by decide
  exact key ⟨m, h⟩
theorem eql_nil26 (a : Option Addr) (l c : Nat) (W : World) : (binOp .eql 26 (.slice a l c) (.slice none 0 0)).run Tryz.prog W = .ok (.bool a.isNone) W := run_eql_slice_nil W 26 5 a l c Tryz.underlying26
theorem neq_nil26 (a : Option Addr) (l c : Nat) (W : World) : (binOp .neq 26 (.slice a l c) (.slice none 0 0)).run Tryz.prog W = .ok (.bool (!a.isNone)) W := run_neq_slice_nil W 26 5 a l c Tryz.underlying26
theorem lpB_len (f : Fl) (n : Nat) : (lpB f n).length ≤ f.wid.toNat := by
  unfold lpB; split
  · rw [padding_length]; omega
  · simp

set_option maxRecDepth 100000 in
set_option maxHeartbeats 8000000 in
theorem fmtSbx_str {b : Nat} {w : World} {s : PS} {v : Value} {ib : List Value} (h : PP b w s v ib) (t : ByteArray) (T : Bytes) (hTt : T = t.data.toList) (up : Bool) (hf : FlOk s.fl) (hl : Fits (s.out.length + 5 * T.length + s.fl.wid.toNat + s.fl.wid.toNat)) :
    Calls Tryz.prog 132 #[.pointer (some ⟨b, 1, none⟩), .string t, .slice none 0 0, .string (digS up)] w (Wrote b w s v ib (hexM s.fl up T)) := by
  obtain ⟨f0, f1, f2, f3⟩ := hf
  have hl' : s.out.length + 5 * T.length + s.fl.wid.toNat + s.fl.wid.toNat ≤ 35184372088832 := hl
  obtain ⟨dg, hdg⟩ : ∃ dg, dg = digS up := ⟨_, rfl⟩
  obtain ⟨n, hn⟩ : ∃ n, n = T.length := ⟨_, rfl⟩
  obtain ⟨N, hN⟩ : ∃ N, N = hexN s.fl n := ⟨_, rfl⟩
  obtain ⟨pc, hpc⟩ : ∃ pc : Bool, pc = decide (s.fl.precP = true ∧ s.fl.prec < n) := ⟨_, rfl⟩
  obtain ⟨Y, hY⟩ : ∃ Y, Y = hexB s.fl up (T.take N) := ⟨_, rfl⟩
  obtain ⟨W, hW⟩ : ∃ W, W = Y.length := ⟨_, rfl⟩
  have hNn : N ≤ n := by rw [hN]; unfold hexN; split <;> omega
  have hNp : (pc = true → (s.fl.prec = (N : Int))) ∧ (pc = false → n = N) := by
    rw [hN, hpc]
    unfold hexN
    by_cases hq : s.fl.precP = true ∧ s.fl.prec < n
    · rw [if_pos hq]; simp [hq]; omega
    · rw [if_neg hq]; simp [hq]
  have hWl : W ≤ 5 * n := by
    rw [hW, hY]
    have := hexB_le s.fl up (T.take N)
    rw [List.length_take] at this
    omega
  have hM : hexM s.fl up T = lpB s.fl W ++ (Y ++ rpB s.fl W) := by
    unfold hexM
    rw [← hn, ← hN, ← hY, hW]
    exact padM_lr s.fl Y (by rw [hY]; exact hexB_ascii s.fl up _)
  rw [hM, ← hdg]
  have hnb : n ≤ 35184372088832 := by omega
  have hts : t.size = n := by rw [size_list, ← hTt, hn]
  have C106 : ∀ (W1 : World) (o1 : Bytes) (v1 : Value) (d : Int), o1.length ≤ s.out.length + 5 * n + s.fl.wid.toNat → d ≤ s.fl.wid → PP b W1 { s with out := o1 } v1 ib → Calls Tryz.prog 106 #[.pointer (some ⟨b, 1, none⟩), .int .i64 d] W1 (Wrote b W1 { s with out := o1 } v1 ib (padding s.fl d)) := by
    intro W1 o1 v1 d h1 h2 hP
    exact writePadding_any hP d (show _ ≤ _ by show o1.length + d.toNat ≤ _; omega) (by omega) (by show o1.length ≤ _; omega)
  have hlp := lpB_len s.fl W
  have HP := Lib.hid h
  have HDG := Lib.hid hdg
  have HC := Lib.hid C106
  have HY := Lib.hid (And.intro hY (And.intro hW hn))
  have HNP := Lib.hid hNp
  have HPC := Lib.hid hpc
  have HT := Lib.hid hTt
  have c1 := h.c1
  have c2 := h.c2
  have c3 := h.c3
  have c4 := h.c4
  have c6 := h.c6
  have c7 := h.c7
  have c11 := h.c11
  have c12 := h.c12
  have hblt := h.lt
  have e26 := fun W => eql_nil26 (none) (0) (0) W
  have n26 := fun W => neq_nil26 (none) (0) (0) W
  have HL := Lib.hid hl'
  clear h hdg C106 hY hW hn hN hNp hpc hM hl hl' hTt
  go_enter Tryz.func132, Tryz.ntmps132
  go_upto_region 3 with fail
  refine wp_cut (fun a' w' => ∃ L, a' = ⟨L.toArray, []⟩ ∧ Fh (.pointer (some ⟨b, 1, none⟩)) (.string t) (.slice none 0 0) (.string dg) (.int .i64 n) (undef) (undef) L ∧ L[31]? = some (.bool pc) ∧ w = w') ?_ ?_
  · intro a1 w1 hR
    obtain ⟨L, rfl, hF, h31, rfl⟩ := hR
    obtain ⟨u1, rfl⟩ := hF.open
    have e31 : u1 31 = .bool pc := by simpa using h31
    rw [e31]
    clear hF h31 e31
    go_upto_if 31 with fail
    refine wp_cut (fun a' w' => ∃ L, a' = ⟨L.toArray, []⟩ ∧ Fh (.pointer (some ⟨b, 1, none⟩)) (.string t) (.slice none 0 0) (.string dg) (.int .i64 N) (undef) (undef) L ∧ w = w') ?_ ?_
    · intro a2 w2 hR
      obtain ⟨L, rfl, hF, rfl⟩ := hR
      obtain ⟨u2, rfl⟩ := hF.open
      clear hF c3 c12
      by_cases hN0 : N = 0
      · subst hN0
        have hY0 : Y = [] := by rw [HY.out.1]; rfl
        have hW0 : W = 0 := by rw [HY.out.2.1, hY0]; rfl
        subst hY0 hW0
        have hE : lpB s.fl 0 ++ ([] ++ rpB s.fl 0) = if s.fl.widP then padding s.fl s.fl.wid else [] := by
          unfold lpB rpB padding
          by_cases hw : 0 < s.fl.wid
          · cases s.fl.widP <;> cases s.fl.minus <;> simp [hw]
          · have : s.fl.wid.toNat = 0 := by omega
            cases s.fl.widP <;> cases s.fl.minus <;> simp [hw, this]
        have HE := Lib.hid hE
        clear hE hWl hNn HNP HPC HY
        cases hwp : s.fl.widP
        · rw [hwp] at c2
          have h0 : lpB s.fl 0 ++ ([] ++ rpB s.fl 0) = [] := by rw [HE.out, hwp]; rfl
          have H0 := Lib.hid h0
          clear h0 HE
          go_wp2_with fail
          go_end0
          rw [H0.out]
          refine ⟨rfl, v, ?_, Fr.refl _ _ _⟩
          have := HP.out
          simpa using this
        · rw [hwp] at c2
          have h0 : lpB s.fl 0 ++ ([] ++ rpB s.fl 0) = padding s.fl s.fl.wid := by rw [HE.out, hwp]; rfl
          have H0 := Lib.hid h0
          clear h0 HE
          have C := HC.out w s.out v s.fl.wid (by omega) (Int.le_refl _) HP.out
          have HCC := Lib.hid C
          clear C HC
          go_wp2_with (go_at_call 106; refine (HCC.out).mono ?_; rintro e w3 ⟨rfl, hq⟩; have HQ := Lib.hid hq; clear hq)
          go_end0
          rw [H0.out]
          exact ⟨rfl, HQ.out⟩
      · have hNpos : 0 < N := Nat.pos_of_ne_zero hN0
        have hTl : (T.take N).length = N := by rw [List.length_take, ← HY.out.2.2]; omega
        have hTne : T.take N ≠ [] := by intro h; rw [h] at hTl; simp at hTl; omega
        have hWe := hexB_len s.fl up (T.take N) hTne
        rw [← HY.out.1, ← HY.out.2.1, hTl] at hWe
        have HWE := Lib.hid hWe
        clear hWe hN0
        go_upto_if 39 with fail
        refine wp_cut (fun a' w' => ∃ L, a' = ⟨L.toArray, []⟩ ∧ Fh (.pointer (some ⟨b, 1, none⟩)) (.string t) (.slice none 0 0) (.string dg) (.int .i64 N) (.int .i64 W) (undef) L ∧ w = w') ?_ ?_
        · intro a3 w3 hR
          obtain ⟨L, rfl, hF, rfl⟩ := hR
          obtain ⟨u3, rfl⟩ := hF.open
          clear hF
          go_upto_region 15 with fail
          obtain ⟨pl, hpl⟩ : ∃ pl : Bool, pl = decide (s.fl.widP = true ∧ (W : Int) < s.fl.wid ∧ s.fl.minus = false) := ⟨_, rfl⟩
          have HPL := Lib.hid hpl
          clear hpl
          refine wp_cut (fun a' w' => ∃ L, a' = ⟨L.toArray, []⟩ ∧ Fh (.pointer (some ⟨b, 1, none⟩)) (.string t) (.slice none 0 0) (.string dg) (.int .i64 N) (.int .i64 W) (undef) L ∧ L[94]? = some (.bool pl) ∧ w = w') ?_ ?_
          · intro a4 w4 hR
            obtain ⟨L, rfl, hF, h94, rfl⟩ := hR
            obtain ⟨u4, rfl⟩ := hF.open
            have e94 : u4 94 = .bool pl := by simpa using h94
            rw [e94]
            clear hF h94 e94
            go_upto_if 94 with fail
            refine wp_cut (fun a' w' => ∃ L v1, a' = ⟨L.toArray, []⟩ ∧ Fh (.pointer (some ⟨b, 1, none⟩)) (.string t) (.slice none 0 0) (.string dg) (.int .i64 N) (.int .i64 W) (undef) L ∧ PP b w' { s with out := s.out ++ lpB s.fl W } v1 ib ∧ Fr b w v w' v1) ?_ ?_
            · intro a5 w5 hR
              obtain ⟨L, v1, rfl, hF, hP1, hF1⟩ := hR
              obtain ⟨u5, rfl⟩ := hF.open
              clear hF HPL
              have d0 := hP1.c0
              have d1 := hP1.c1
              have d6 := hP1.c6
              simp only at d6
              have hb1 := hP1.lt
              have HP1 := Lib.hid hP1
              have HF1 := Lib.hid hF1
              obtain ⟨va, vn, vc, rfl⟩ := hP1.buf.slice
              clear hP1 hF1 c1 c2 c4 c6 c7 c11 hblt
              have hdz : 16 < dg.size := by rw [HDG.out, digS_size]; omega
              have hdb := bt_eq dg 16 hdz
              have hcs : ∀ c ∈ [48, bt dg 16], 0 ≤ c ∧ c ≤ 255 := by
                intro c hc
                have h0 := bt_nonneg dg 16
                have h1 := bt_le dg 16
                simp at hc
                rcases hc with rfl | rfl
                · omega
                · exact ⟨h0, h1⟩
              have HCS := Lib.hid hcs
              have hroom : Room ((s.out ++ lpB s.fl W).length + 2) := by unfold Room; rw [List.length_append]; have := HL.out; omega
              have HR1 := Lib.hid hroom
              clear hcs hroom
              go_upto_if 113 with fail
              refine wp_cut (fun a' w' => ∃ L V, a' = ⟨L.toArray, []⟩ ∧ Fh (.pointer (some ⟨b, 1, none⟩)) (.string t) (.slice none 0 0) (.string dg) (.int .i64 N) (.int .i64 W) (V) L ∧ App w5 (.slice va vn vc) w' V (s.out ++ lpB s.fl W ++ (if s.fl.sharp then hexX up else []))) ?_ ?_
              · intro a6 w6 hR
                obtain ⟨L, V, rfl, hF, hA⟩ := hR
                obtain ⟨u6, rfl⟩ := hF.open
                clear hF
                have hA0 : App w5 (.slice va vn vc) w6 V (s.out ++ lpB s.fl W ++ ((if s.fl.sharp then hexX up else []) ++ hexes up (hexZ s.fl up) (T.take 0))) := by simpa [hexes] using hA
                have HA0 := Lib.hid hA0
                clear hA hA0 d0 d1 d6
                go_wp2_with fail
                go_loopw [10, 11, 12] (fun V _ i W6 => ∃ j : Nat, i = .int .i64 j ∧ j ≤ N ∧ App w5 (.slice va vn vc) W6 V (s.out ++ lpB s.fl W ++ ((if s.fl.sharp then hexX up else []) ++ hexes up (hexZ s.fl up) (T.take j)))) (fun _ _ i _ => N - (intOf i).toNat)
                case atStart => exact ⟨0, rfl, Nat.zero_le _, HA0.out⟩
                case round =>
                  obtain ⟨j, rfl, hj, hA⟩ := hrel
                  have hst : ∀ i, wr.cell? ⟨b, i, none⟩ = w5.cell? ⟨b, i, none⟩ := fun i => World.cell?_of_block (a := ⟨b, i, none⟩) (HP1.out.still hA)
                  have g1 := (hst 1).trans HP1.out.c1
                  have g6 : wr.cell? ⟨b, 6, none⟩ = some (.bool s.fl.sharp) := (hst 6).trans HP1.out.c6
                  have g7 : wr.cell? ⟨b, 7, none⟩ = some (.bool s.fl.space) := (hst 7).trans HP1.out.c7
                  have HA := Lib.hid hA
                  clear hst
                  by_cases hlt : j < N
                  · have hjn : j < T.length := by rw [← HY.out.2.2]; omega
                    obtain ⟨m, hm⟩ : ∃ m : Nat, m = (T[j]).toNat := ⟨_, rfl⟩
                    have hm9 : m < 256 := by rw [hm]; exact (T[j]).toNat_lt
                    have htj : j < t.size := by omega
                    have hbt : ((t[j]'htj).toNat : Int) = (m : Int) := by
                      rw [hm]
                      have : T[j] = t[j]'htj := by simp only [HT.out]; rfl
                      rw [this]
                    have HM := Lib.hid hm
                    clear hm
                    obtain ⟨d1, hd1⟩ : ∃ d1 : Nat, d1 = m / 16 := ⟨_, rfl⟩
                    obtain ⟨d2, hd2⟩ : ∃ d2 : Nat, d2 = m % 16 := ⟨_, rfl⟩
                    have hq1 : d1 < 16 := by omega
                    have hq2 : d2 < 16 := by omega
                    have hdiv : (m : Int) / 16 = (d1 : Int) := by omega
                    have hand : bits .and .u8 (m : Int) 15 = (d2 : Int) := by rw [hd2]; exact and15_u8 m hm9
                    have HDD := Lib.hid (And.intro hd1 hd2)
                    have hdsz : dg.size = 17 := by rw [HDG.out, digS_size]
                    have hz1 : d1 < dg.size := by omega
                    have hz2 : d2 < dg.size := by omega
                    clear hd1 hd2
                    have hi1 : (d1 : Int) < 17 := by omega
                    have hi2 : (d2 : Int) < 17 := by omega
                    have hi3 : (0 : Int) ≤ d1 := by omega
                    have hi4 : (0 : Int) ≤ d2 := by omega
                    have hda := bt_eq dg d1 hz1
                    have hdb2 := bt_eq dg d2 hz2
                    have hc2 : ∀ c ∈ [bt dg d1, bt dg d2], 0 ≤ c ∧ c ≤ 255 := by
                      intro c hc
                      simp at hc
                      rcases hc with rfl | rfl
                      · exact ⟨bt_nonneg dg d1, bt_le dg d1⟩
                      · exact ⟨bt_nonneg dg d2, bt_le dg d2⟩
                    have HC2 := Lib.hid hc2
                    have hrm : ∀ z : Bytes, z.length ≤ 3 → Room ((s.out ++ lpB s.fl W ++ ((if s.fl.sharp then hexX up else []) ++ hexes up (hexZ s.fl up) (T.take j)) ++ z).length + 2) := by
                      intro z hz
                      have h1 := hexes_len up (hexZ s.fl up) T j (by omega)
                      have h2 : (hexZ s.fl up).length ≤ 3 := by unfold hexZ; cases s.fl.space <;> cases s.fl.sharp <;> cases up <;> decide
                      have h3 : (2 + (hexZ s.fl up).length) * j ≤ 5 * j := Nat.mul_le_mul_right _ (by omega)
                      have h4 : (if s.fl.sharp then hexX up else []).length ≤ 2 := by split <;> simp [hexX]
                      have h5 := HL.out
                      unfold Room
                      simp only [List.length_append]
                      omega
                    have HRM := Lib.hid hrm
                    clear hc2 hrm hA
                    have hfin : ∀ zz : Bytes, zz = (if j = 0 then [] else hexZ s.fl up) → s.out ++ lpB s.fl W ++ ((if s.fl.sharp then hexX up else []) ++ hexes up (hexZ s.fl up) (T.take j)) ++ zz ++ ([bt dg d1, bt dg d2] : List Int).map B = s.out ++ lpB s.fl W ++ ((if s.fl.sharp then hexX up else []) ++ hexes up (hexZ s.fl up) (T.take (j + 1))) := by
                      rintro zz rfl
                      have e2 : ([bt dg d1, bt dg d2] : List Int).map B = hex2 up T[j] := by
                        show [B (bt dg d1), B (bt dg d2)] = _
                        rw [B_bt up d1 hq1 HDG.out, B_bt up d2 hq2 HDG.out, HDD.out.1, HDD.out.2, HM.out]
                        rfl
                      rw [e2, hexes_take up (hexZ s.fl up) T j hjn]
                      simp only [List.append_assoc]
                    have HFIN := Lib.hid hfin
                    clear hfin
                    by_cases hsep : s.fl.space = true ∧ 0 < j
                    · obtain ⟨hsp, hj0⟩ := hsep
                      have hj1 : (0 : Int) < j := by omega
                      have hx16 : s.fl.sharp = true → ([48, bt dg 16] : List Int).map B = hexX up := by
                        intro _
                        rw [HDG.out]
                        show [B 48, B (bt (digS up) 16)] = _
                        rw [B_x]
                        rfl
                      rw [hsp] at g7
                      have hr1 := HRM.out [] (by decide)
                      have hr2 := HRM.out [32] (by decide)
                      have hr3 : Room ((s.out ++ lpB s.fl W ++ ((if s.fl.sharp then hexX up else []) ++ hexes up (hexZ s.fl up) (T.take j)) ++ ([32] : List Int).map B ++ ([48, bt dg 16] : List Int).map B).length + 2) := by
                        have := HRM.out ([32, 48, 48]) (by decide)
                        refine this.le ?_
                        simp only [List.length_append, List.length_map, List.length_cons, List.length_nil]
                        omega
                      rw [List.append_nil] at hr1
                      have HR1 := Lib.hid (Room.le hr1 (Nat.le_succ _))
                      have HR2 := Lib.hid hr2
                      have HR3 := Lib.hid hr3
                      have hc32 : ∀ c ∈ ([32] : List Int), 0 ≤ c ∧ c ≤ 255 := by decide
                      have HC32 := Lib.hid hc32
                      skip
                      clear hr1 hr2 hr3 hc32 HRM HY HDG
                      cases hsh : s.fl.sharp
                      · rw [hsh] at g6
                        have hfi := HFIN.out [32] (by rw [if_neg (show ¬ j = 0 by omega)]; unfold hexZ; rw [hsp, hsh]; rfl)
                        clear HFIN hx16
                        have hs6 : w5.cell? ⟨b, 6, none⟩ = some (.bool false) := by have := HP1.out.c6; rw [show ({ s with out := s.out ++ lpB s.fl W } : PS).fl.sharp = false from hsh] at this; exact this
                        have HS6 := Lib.hid hs6
                        clear hs6
                        have HFI := Lib.hid hfi
                        clear hfi
                        go_wp2_with (at_builtin; refine wpList_app_lit rfl (.tmp 133) (.tmp 134) 119 rfl 5 byte5 Tryz.underlying119 _ _ rfl [32] 1 rfl rfl w5 (.slice va vn vc) HA.out 5 _ rfl HC32.out HR1.out ?_; intro V6 w6 hA6; have k1 := HP1.out.stillc hA6 HP1.out.c1; have k6 := HP1.out.stillc hA6 HS6.out; skip; have HA6 := Lib.hid hA6; clear hA6)
                        go_region_law ((refine step_app_lit rfl (.tmp 155) (.tmp 164) 119 rfl 5 byte5 Tryz.underlying119 _ _ (by rfl) [bt dg d1, bt dg d2] 2 (by rfl) rfl w5 (.slice va vn vc) HA6.out 5 _ rfl HC2.out HR2.out ?_; intro V7 w7 hA7))
                        all_goals
                          have HA7 := Lib.hid hA7
                          clear hA7
                          go_wp2_with fail
                          go_roundw
                          case rel => exact ⟨j + 1, by go_num, by omega, by have h7 := HA7.out; have e7 := HFI.out; rw [hsh] at h7 e7; rw [← e7]; exact h7⟩
                          case measure => simp [intOf]; omega
                      · rw [hsh] at g6
                        have hfi := HFIN.out (32 :: hexX up) (by rw [if_neg (show ¬ j = 0 by omega)]; unfold hexZ; rw [hsp, hsh]; rfl)
                        have hfi2 : ∀ X : Bytes, X ++ [32] ++ ([48, bt dg 16] : List Int).map B = X ++ (32 :: hexX up) := by intro X; rw [List.append_assoc, hx16 hsh]; rfl
                        have HFI := Lib.hid (And.intro hfi hfi2)
                        clear hfi hfi2 hx16 HFIN
                        have hs6 : w5.cell? ⟨b, 6, none⟩ = some (.bool true) := by have := HP1.out.c6; rw [show ({ s with out := s.out ++ lpB s.fl W } : PS).fl.sharp = true from hsh] at this; exact this
                        have HS6 := Lib.hid hs6
                        clear hs6
                        go_wp2_with (first
                          | (at_builtin; refine wpList_app_lit rfl (.tmp 133) (.tmp 134) 119 rfl 5 byte5 Tryz.underlying119 _ _ rfl [32] 1 rfl rfl w5 (.slice va vn vc) HA.out 5 _ rfl HC32.out HR1.out ?_; intro V6 w6 hA6; have k1 := HP1.out.stillc hA6 HP1.out.c1; have k6 := HP1.out.stillc hA6 HS6.out; skip; have HA6 := Lib.hid hA6; clear hA6)
                          | (at_builtin; refine wpList_app_lit rfl (.tmp 141) (.tmp 144) 119 rfl 5 byte5 Tryz.underlying119 _ _ rfl [48, bt dg 16] 2 rfl rfl w5 (.slice va vn vc) HA6.out 5 _ rfl HCS.out HR2.out ?_; intro V8 w8 hA8; skip; have HA8 := Lib.hid hA8; clear hA8))
                        go_region_law ((refine step_app_lit rfl (.tmp 155) (.tmp 164) 119 rfl 5 byte5 Tryz.underlying119 _ _ (by rfl) [bt dg d1, bt dg d2] 2 (by rfl) rfl w5 (.slice va vn vc) HA8.out 5 _ rfl HC2.out HR3.out ?_; intro V7 w7 hA7))
                        all_goals
                          have HA7 := Lib.hid hA7
                          clear hA7
                          go_wp2_with fail
                          go_roundw
                          case rel => exact ⟨j + 1, by go_num, by omega, by have h7 := HA7.out; rw [HFI.out.2, HFI.out.1] at h7; rw [hsh] at h7; exact h7⟩
                          case measure => simp [intOf]; omega
                    · have hzz : (if j = 0 then [] else hexZ s.fl up) = [] := by
                        by_cases h0 : j = 0
                        · rw [if_pos h0]
                        · rw [if_neg h0]
                          unfold hexZ
                          cases hsp : s.fl.space
                          · rfl
                          · exact absurd ⟨hsp, by omega⟩ hsep
                      have hfi := HFIN.out [] hzz.symm
                      rw [List.append_nil] at hfi
                      have HFI := Lib.hid hfi
                      have hrm0 := HRM.out [] (by decide)
                      rw [List.append_nil] at hrm0
                      have HR0 := Lib.hid hrm0
                      clear hrm0 hfi hzz HRM HFIN HY HDG
                      have hj0 : s.fl.space = false ∨ (s.fl.space = true ∧ j = 0) := by
                        cases hsp : s.fl.space
                        · exact .inl rfl
                        · exact .inr ⟨rfl, by by_cases h0 : j = 0; exact h0; exact absurd ⟨hsp, by omega⟩ hsep⟩
                      clear hsep
                      rcases hj0 with hsp | ⟨hsp, hj0⟩
                      · rw [hsp] at g7
                        go_wp2_with fail
                        go_region_law ((refine step_app_lit rfl (.tmp 155) (.tmp 164) 119 rfl 5 byte5 Tryz.underlying119 _ _ (by rfl) [bt dg d1, bt dg d2] 2 (by rfl) rfl w5 (.slice va vn vc) HA.out 5 _ rfl HC2.out HR0.out ?_; intro V7 w7 hA7))
                        all_goals
                          have HA7 := Lib.hid hA7
                          clear hA7
                          go_wp2_with fail
                          go_roundw
                          case rel => exact ⟨j + 1, by go_num, by omega, by rw [← HFI.out]; exact HA7.out⟩
                          case measure => simp [intOf]; omega
                      · subst hj0
                        rw [hsp] at g7
                        skip
                        go_wp2_with fail
                        go_region_law ((refine step_app_lit rfl (.tmp 155) (.tmp 164) 119 rfl 5 byte5 Tryz.underlying119 _ _ (by rfl) [bt dg d1, bt dg d2] 2 (by rfl) rfl w5 (.slice va vn vc) HA.out 5 _ rfl HC2.out HR0.out ?_; intro V7 w7 hA7))
                        all_goals
                          have HA7 := Lib.hid hA7
                          clear hA7
                          go_wp2_with fail
                          go_roundw
                          case rel => exact ⟨1, rfl, by omega, by rw [← HFI.out]; exact HA7.out⟩
                          case measure => simp [intOf]; omega
                  · obtain rfl : j = N := by omega
                    have hYe : (if s.fl.sharp then hexX up else []) ++ hexes up (hexZ s.fl up) (T.take j) = Y := by rw [HY.out.1]; unfold hexB; rw [if_neg hTne]
                    rw [hYe] at hA
                    have hR := HP1.out.text hA
                    have k0 := HP1.out.still0 hA
                    have kf := HP1.out.stillf hA 0
                    have k1 := HP1.out.stillc hA HP1.out.c1
                    have n2 : wr.cell? ⟨b, 2, none⟩ = some (.bool s.fl.widP) := HP1.out.stillc hA HP1.out.c2
                    have n4 : wr.cell? ⟨b, 4, none⟩ = some (.bool s.fl.minus) := HP1.out.stillc hA HP1.out.c4
                    have n11 : wr.cell? ⟨b, 11, none⟩ = some (.int .i64 s.fl.wid) := HP1.out.stillc hA HP1.out.c11
                    obtain ⟨xa, xn, xc, rfl⟩ := hA.slice
                    have hPr : PP b (wr.setCell ⟨b, 0, none⟩ (.slice xa xn xc)) { s with out := s.out ++ lpB s.fl W ++ Y } (.slice xa xn xc) ib := hR.1
                    have hFr := HF1.out.trans hR.2
                    have m2 : (wr.setCell ⟨b, 0, none⟩ (.slice xa xn xc)).cell? ⟨b, 2, none⟩ = some (.bool s.fl.widP) := hPr.c2
                    have m4 : (wr.setCell ⟨b, 0, none⟩ (.slice xa xn xc)).cell? ⟨b, 4, none⟩ = some (.bool s.fl.minus) := hPr.c4
                    have m11 : (wr.setCell ⟨b, 0, none⟩ (.slice xa xn xc)).cell? ⟨b, 11, none⟩ = some (.int .i64 s.fl.wid) := hPr.c11
                    have HPR := Lib.hid (And.intro hPr hFr)
                    clear hA hR hPr hFr HA g1 g6 g7 HA0 hYe
                    by_cases hpad : s.fl.widP = true ∧ (W : Int) < s.fl.wid ∧ s.fl.minus = true
                    · obtain ⟨hp1, hp2, hp3⟩ := hpad
                      have e : rpB s.fl W = padding s.fl (s.fl.wid - W) := by unfold rpB; rw [if_pos ⟨hp1, hp2, hp3⟩]
                      have hwr : IntKind.i64.wrap (s.fl.wid - (W : Int)) = s.fl.wid - W := IntWalk.i64_in _ (by have := HL.out; omega)
                      have C := HC.out _ _ _ (s.fl.wid - W) (by rw [List.length_append, List.length_append, ← HY.out.2.1]; have := HL.out; omega) (by omega) HPR.out.1
                      have HCC := Lib.hid C
                      have HE := Lib.hid e
                      rw [hp1] at n2 m2
                      rw [hp3] at n4 m4
                      clear C HC e
                      go_wp2_with (go_at_call 106; refine (HCC.out).mono ?_; rintro e w9 ⟨rfl, v9, hP9, hF9⟩; have HQ := Lib.hid (And.intro hP9 hF9); clear hP9 hF9)
                      go_end0
                      refine ⟨rfl, v9, ?_, HPR.out.2.trans HQ.out.2⟩
                      rw [HE.out]
                      have := HQ.out.1
                      simpa only [List.append_assoc] using this
                    · have e : rpB s.fl W = [] := by unfold rpB; rw [if_neg hpad]
                      have hfin : PP b (wr.setCell ⟨b, 0, none⟩ (.slice xa xn xc)) { s with out := s.out ++ (lpB s.fl W ++ (Y ++ rpB s.fl W)) } (.slice xa xn xc) ib := by
                        rw [e, List.append_nil]
                        have := HPR.out.1
                        simpa only [List.append_assoc] using this
                      have HFN := Lib.hid hfin
                      clear hfin e HC
                      cases hwp : s.fl.widP
                      · rw [hwp] at n2 m2
                        go_wp2_with fail
                        go_end0
                        exact ⟨rfl, _, HFN.out, HPR.out.2⟩
                      · rw [hwp] at n2 m2
                        by_cases hlt3 : (W : Int) < s.fl.wid
                        · have hm : s.fl.minus = false := by
                            cases hm : s.fl.minus
                            · rfl
                            · exact absurd ⟨hwp, hlt3, hm⟩ hpad
                          rw [hm] at n4 m4
                          go_wp2_with fail
                          go_end0
                          exact ⟨rfl, _, HFN.out, HPR.out.2⟩
                        · go_wp2_with fail
                          go_end0
                          exact ⟨rfl, _, HFN.out, HPR.out.2⟩
              · intro J K hJ hK
                cases hsh : s.fl.sharp
                · rw [hsh] at d6 hJ
                  go_wp2_with fail
                  exact Met.intro (hJ _ _ ⟨_, _, rfl, ⟨rfl, rfl, rfl, rfl, rfl, rfl, rfl, rfl⟩, by simpa using App.refl HP1.out.buf⟩)
                · rw [hsh] at d6 hJ
                  go_wp2_with (at_builtin; refine wpList_app_lit rfl (.tmp 114) (.tmp 117) 119 rfl 5 byte5 Tryz.underlying119 _ _ rfl [48, bt dg 16] 2 rfl rfl w5 (.slice va vn vc) (App.refl HP1.out.buf) 5 _ rfl HCS.out HR1.out ?_; intro V w7 hA)
                  have hx : ([48, bt dg 16] : List Int).map B = hexX up := by
                    rw [HDG.out]
                    show [B 48, B (bt (digS up) 16)] = _
                    rw [B_x]
                    rfl
                  rw [hx] at hA
                  have HA := Lib.hid hA
                  clear hA hx
                  go_wp2_with fail
                  exact Met.intro (hJ _ _ ⟨_, _, rfl, ⟨rfl, rfl, rfl, rfl, rfl, rfl, rfl, rfl⟩, HA.out⟩)
            · intro J K hJ hK
              cases pl
              · have e : lpB s.fl W = [] := by
                  have := HPL.out.symm
                  simp only [decide_eq_false_iff_not] at this
                  unfold lpB; rw [if_neg this]
                go_wp2_with fail
                exact Met.intro (hJ _ _ ⟨_, v, rfl, ⟨rfl, rfl, rfl, rfl, rfl, rfl, rfl, rfl⟩, by rw [e]; simpa using HP.out, Fr.refl _ _ _⟩)
              · have hh := HPL.out.symm
                simp only [decide_eq_true_eq] at hh
                have e : lpB s.fl W = padding s.fl (s.fl.wid - W) := by unfold lpB; rw [if_pos hh]
                rw [e] at hJ
                have hwr : IntKind.i64.wrap (s.fl.wid - (W : Int)) = s.fl.wid - W := IntWalk.i64_in _ (by have := HL.out; omega)
                have C := HC.out w s.out v (s.fl.wid - W) (by omega) (by omega) HP.out
                have HCC := Lib.hid C
                clear C HC e hh
                go_wp2_with (go_at_call 106; refine (HCC.out).mono ?_; rintro e w3 ⟨rfl, v3, hP3, hF3⟩; have HQ := Lib.hid (And.intro hP3 hF3); clear hP3 hF3)
                exact Met.intro (hJ _ _ ⟨_, v3, rfl, ⟨rfl, rfl, rfl, rfl, rfl, rfl, rfl, rfl⟩, HQ.out.1, HQ.out.2⟩)
          · intro J K hJ hK
            cases hwp : s.fl.widP
            · have hq : pl = false := by rw [HPL.out, hwp]; simp
              subst hq
              rw [hwp] at c2
              go_wp2_with fail
              exact Met.intro (hJ _ _ ⟨_, rfl, ⟨rfl, rfl, rfl, rfl, rfl, rfl, rfl, rfl⟩, rfl, rfl⟩)
            · rw [hwp] at c2
              by_cases hlt : (W : Int) < s.fl.wid
              · cases hm : s.fl.minus
                · have hq : pl = true := by rw [HPL.out, hwp, hm]; simp [hlt]
                  subst hq
                  rw [hm] at c4
                  go_wp2_with fail
                  exact Met.intro (hJ _ _ ⟨_, rfl, ⟨rfl, rfl, rfl, rfl, rfl, rfl, rfl, rfl⟩, by simp [hlt], rfl⟩)
                · have hq : pl = false := by rw [HPL.out, hwp, hm]; simp [hlt]
                  subst hq
                  rw [hm] at c4
                  go_wp2_with fail
                  exact Met.intro (hJ _ _ ⟨_, rfl, ⟨rfl, rfl, rfl, rfl, rfl, rfl, rfl, rfl⟩, by simp [hlt], rfl⟩)
              · have hq : pl = false := by rw [HPL.out, hwp]; simp [hlt]
                subst hq
                go_wp2_with fail
                exact Met.intro (hJ _ _ ⟨_, rfl, ⟨rfl, rfl, rfl, rfl, rfl, rfl, rfl, rfl⟩, by simp [hlt], rfl⟩)
        · intro J K hJ hK
          have hN1 : (0 : Int) < N := by omega
          have hN2 : (1 : Int) ≤ N := by omega
          have hN3 : (N : Int) ≤ 35184372088832 := by omega
          cases hsp : s.fl.space
          · cases hsh : s.fl.sharp
            · have hw : (W : Int) = 2 * N := by have := HWE.out; rw [hsp, hsh] at this; simp at this; omega
              rw [hw] at hJ
              rw [hsp] at c7
              rw [hsh] at c6
              go_wp2_with fail
              exact Met.intro (hJ _ _ ⟨_, rfl, ⟨rfl, rfl, rfl, rfl, rfl, rfl, rfl, rfl⟩, rfl⟩)
            · have hw : (W : Int) = 2 * N + 2 := by have := HWE.out; rw [hsp, hsh] at this; simp at this; omega
              rw [hw] at hJ
              rw [hsp] at c7
              rw [hsh] at c6
              go_wp2_with fail
              exact Met.intro (hJ _ _ ⟨_, rfl, ⟨rfl, rfl, rfl, rfl, rfl, rfl, rfl, rfl⟩, rfl⟩)
          · cases hsh : s.fl.sharp
            · have hw : (W : Int) = 2 * N + (N - 1) := by have := HWE.out; rw [hsp, hsh] at this; simp at this; omega
              rw [hw] at hJ
              rw [hsp] at c7
              rw [hsh] at c6
              go_wp2_with fail
              exact Met.intro (hJ _ _ ⟨_, rfl, ⟨rfl, rfl, rfl, rfl, rfl, rfl, rfl, rfl⟩, rfl⟩)
            · have hw : (W : Int) = 2 * N * 2 + (N - 1) := by have := HWE.out; rw [hsp, hsh] at this; simp at this; omega
              rw [hw] at hJ
              rw [hsp] at c7
              rw [hsh] at c6
              go_wp2_with fail
              exact Met.intro (hJ _ _ ⟨_, rfl, ⟨rfl, rfl, rfl, rfl, rfl, rfl, rfl, rfl⟩, rfl⟩)
    · intro J K hJ hK
      cases pc
      · have hnN := HNP.out.2 rfl
        go_wp2_with fail
        exact Met.intro (hJ _ _ ⟨_, rfl, by rw [← hnN]; exact ⟨rfl, rfl, rfl, rfl, rfl, rfl, rfl, rfl⟩, rfl⟩)
      · have hpN := HNP.out.1 rfl
        rw [hpN] at c12
        go_wp2_with fail
        exact Met.intro (hJ _ _ ⟨_, rfl, ⟨rfl, rfl, rfl, rfl, rfl, rfl, rfl, rfl⟩, rfl⟩)
  · intro J K hJ hK
    cases hpp : s.fl.precP
    · have hq : pc = false := by rw [HPC.out, hpp]; simp
      subst hq
      rw [hpp] at c3
      go_wp2_with fail
      exact Met.intro (hJ _ _ ⟨_, rfl, ⟨rfl, rfl, rfl, rfl, rfl, rfl, rfl, rfl⟩, rfl, rfl⟩)
    · rw [hpp] at c3
      by_cases hlt : s.fl.prec < n
      · have hq : pc = true := by rw [HPC.out, hpp]; simp [hlt]
        subst hq
        go_wp2_with fail
        exact Met.intro (hJ _ _ ⟨_, rfl, ⟨rfl, rfl, rfl, rfl, rfl, rfl, rfl, rfl⟩, by simp [hlt], rfl⟩)
      · have hq : pc = false := by rw [HPC.out, hpp]; simp [hlt]
        subst hq
        go_wp2_with fail
        exact Met.intro (hJ _ _ ⟨_, rfl, ⟨rfl, rfl, rfl, rfl, rfl, rfl, rfl, rfl⟩, by simp [hlt], rfl⟩)

set_option maxRecDepth 100000 in
set_option maxHeartbeats 8000000 in
theorem fmtSbx_sl {b : Nat} {w : World} {s : PS} {v : Value} {ib : List Value} (h : PP b w s v ib) (k o c : Nat) (T : Bytes) (hx : Out b w v (.slice (some ⟨k, o, none⟩) T.length c) T) (up : Bool) (hf : FlOk s.fl) (hl : Fits (s.out.length + 5 * T.length + s.fl.wid.toNat + s.fl.wid.toNat)) :
    Calls Tryz.prog 132 #[.pointer (some ⟨b, 1, none⟩), .string ⟨#[]⟩, .slice (some ⟨k, o, none⟩) T.length c, .string (digS up)] w (Wrote b w s v ib (hexM s.fl up T)) := by
  obtain ⟨f0, f1, f2, f3⟩ := hf
  have hl' : s.out.length + 5 * T.length + s.fl.wid.toNat + s.fl.wid.toNat ≤ 35184372088832 := hl
  obtain ⟨dg, hdg⟩ : ∃ dg, dg = digS up := ⟨_, rfl⟩
  obtain ⟨n, hn⟩ : ∃ n, n = T.length := ⟨_, rfl⟩
  obtain ⟨N, hN⟩ : ∃ N, N = hexN s.fl n := ⟨_, rfl⟩
  obtain ⟨pc, hpc⟩ : ∃ pc : Bool, pc = decide (s.fl.precP = true ∧ s.fl.prec < n) := ⟨_, rfl⟩
  obtain ⟨Y, hY⟩ : ∃ Y, Y = hexB s.fl up (T.take N) := ⟨_, rfl⟩
  obtain ⟨W, hW⟩ : ∃ W, W = Y.length := ⟨_, rfl⟩
  have hNn : N ≤ n := by rw [hN]; unfold hexN; split <;> omega
  have hNp : (pc = true → (s.fl.prec = (N : Int))) ∧ (pc = false → n = N) := by
    rw [hN, hpc]
    unfold hexN
    by_cases hq : s.fl.precP = true ∧ s.fl.prec < n
    · rw [if_pos hq]; simp [hq]; omega
    · rw [if_neg hq]; simp [hq]
  have hWl : W ≤ 5 * n := by
    rw [hW, hY]
    have := hexB_le s.fl up (T.take N)
    rw [List.length_take] at this
    omega
  have hM : hexM s.fl up T = lpB s.fl W ++ (Y ++ rpB s.fl W) := by
    unfold hexM
    rw [← hn, ← hN, ← hY, hW]
    exact padM_lr s.fl Y (by rw [hY]; exact hexB_ascii s.fl up _)
  rw [hM, ← hdg]
  rw [← hn]
  have hnb : n ≤ 35184372088832 := by omega
  rw [← hn] at hx
  have hcn := hx.1.slice
  have C106 : ∀ (W1 : World) (o1 : Bytes) (v1 : Value) (d : Int), o1.length ≤ s.out.length + 5 * n + s.fl.wid.toNat → d ≤ s.fl.wid → PP b W1 { s with out := o1 } v1 ib → Calls Tryz.prog 106 #[.pointer (some ⟨b, 1, none⟩), .int .i64 d] W1 (Wrote b W1 { s with out := o1 } v1 ib (padding s.fl d)) := by
    intro W1 o1 v1 d h1 h2 hP
    exact writePadding_any hP d (show _ ≤ _ by show o1.length + d.toNat ≤ _; omega) (by omega) (by show o1.length ≤ _; omega)
  have hlp := lpB_len s.fl W
  have HP := Lib.hid h
  have HDG := Lib.hid hdg
  have HC := Lib.hid C106
  have HY := Lib.hid (And.intro hY (And.intro hW hn))
  have HNP := Lib.hid hNp
  have HPC := Lib.hid hpc
  have HX := Lib.hid hx
  have c1 := h.c1
  have c2 := h.c2
  have c3 := h.c3
  have c4 := h.c4
  have c6 := h.c6
  have c7 := h.c7
  have c11 := h.c11
  have c12 := h.c12
  have hblt := h.lt
  have e26 := fun W => eql_nil26 (some ⟨k, o, none⟩) (n) (c) W
  have n26 := fun W => neq_nil26 (some ⟨k, o, none⟩) (n) (c) W
  have HL := Lib.hid hl'
  clear h hdg C106 hY hW hn hN hNp hpc hM hl hl' hx
  go_enter Tryz.func132, Tryz.ntmps132
  go_upto_region 3 with fail
  refine wp_cut (fun a' w' => ∃ L, a' = ⟨L.toArray, []⟩ ∧ Fh (.pointer (some ⟨b, 1, none⟩)) (.string ⟨#[]⟩) (.slice (some ⟨k, o, none⟩) n c) (.string dg) (.int .i64 n) (undef) (undef) L ∧ L[31]? = some (.bool pc) ∧ w = w') ?_ ?_
  · intro a1 w1 hR
    obtain ⟨L, rfl, hF, h31, rfl⟩ := hR
    obtain ⟨u1, rfl⟩ := hF.open
    have e31 : u1 31 = .bool pc := by simpa using h31
    rw [e31]
    clear hF h31 e31
    go_upto_if 31 with fail
    refine wp_cut (fun a' w' => ∃ L, a' = ⟨L.toArray, []⟩ ∧ Fh (.pointer (some ⟨b, 1, none⟩)) (.string ⟨#[]⟩) (.slice (some ⟨k, o, none⟩) n c) (.string dg) (.int .i64 N) (undef) (undef) L ∧ w = w') ?_ ?_
    · intro a2 w2 hR
      obtain ⟨L, rfl, hF, rfl⟩ := hR
      obtain ⟨u2, rfl⟩ := hF.open
      clear hF c3 c12
      by_cases hN0 : N = 0
      · subst hN0
        have hY0 : Y = [] := by rw [HY.out.1]; rfl
        have hW0 : W = 0 := by rw [HY.out.2.1, hY0]; rfl
        subst hY0 hW0
        have hE : lpB s.fl 0 ++ ([] ++ rpB s.fl 0) = if s.fl.widP then padding s.fl s.fl.wid else [] := by
          unfold lpB rpB padding
          by_cases hw : 0 < s.fl.wid
          · cases s.fl.widP <;> cases s.fl.minus <;> simp [hw]
          · have : s.fl.wid.toNat = 0 := by omega
            cases s.fl.widP <;> cases s.fl.minus <;> simp [hw, this]
        have HE := Lib.hid hE
        clear hE hWl hNn HNP HPC HY
        cases hwp : s.fl.widP
        · rw [hwp] at c2
          have h0 : lpB s.fl 0 ++ ([] ++ rpB s.fl 0) = [] := by rw [HE.out, hwp]; rfl
          have H0 := Lib.hid h0
          clear h0 HE
          go_wp2_with fail
          go_end0
          rw [H0.out]
          refine ⟨rfl, v, ?_, Fr.refl _ _ _⟩
          have := HP.out
          simpa using this
        · rw [hwp] at c2
          have h0 : lpB s.fl 0 ++ ([] ++ rpB s.fl 0) = padding s.fl s.fl.wid := by rw [HE.out, hwp]; rfl
          have H0 := Lib.hid h0
          clear h0 HE
          have C := HC.out w s.out v s.fl.wid (by omega) (Int.le_refl _) HP.out
          have HCC := Lib.hid C
          clear C HC
          go_wp2_with (go_at_call 106; refine (HCC.out).mono ?_; rintro e w3 ⟨rfl, hq⟩; have HQ := Lib.hid hq; clear hq)
          go_end0
          rw [H0.out]
          exact ⟨rfl, HQ.out⟩
      · have hNpos : 0 < N := Nat.pos_of_ne_zero hN0
        have hTl : (T.take N).length = N := by rw [List.length_take, ← HY.out.2.2]; omega
        have hTne : T.take N ≠ [] := by intro h; rw [h] at hTl; simp at hTl; omega
        have hWe := hexB_len s.fl up (T.take N) hTne
        rw [← HY.out.1, ← HY.out.2.1, hTl] at hWe
        have HWE := Lib.hid hWe
        clear hWe hN0
        go_upto_if 39 with fail
        refine wp_cut (fun a' w' => ∃ L, a' = ⟨L.toArray, []⟩ ∧ Fh (.pointer (some ⟨b, 1, none⟩)) (.string ⟨#[]⟩) (.slice (some ⟨k, o, none⟩) n c) (.string dg) (.int .i64 N) (.int .i64 W) (undef) L ∧ w = w') ?_ ?_
        · intro a3 w3 hR
          obtain ⟨L, rfl, hF, rfl⟩ := hR
          obtain ⟨u3, rfl⟩ := hF.open
          clear hF
          go_upto_region 15 with fail
          obtain ⟨pl, hpl⟩ : ∃ pl : Bool, pl = decide (s.fl.widP = true ∧ (W : Int) < s.fl.wid ∧ s.fl.minus = false) := ⟨_, rfl⟩
          have HPL := Lib.hid hpl
          clear hpl
          refine wp_cut (fun a' w' => ∃ L, a' = ⟨L.toArray, []⟩ ∧ Fh (.pointer (some ⟨b, 1, none⟩)) (.string ⟨#[]⟩) (.slice (some ⟨k, o, none⟩) n c) (.string dg) (.int .i64 N) (.int .i64 W) (undef) L ∧ L[94]? = some (.bool pl) ∧ w = w') ?_ ?_
          · intro a4 w4 hR
            obtain ⟨L, rfl, hF, h94, rfl⟩ := hR
            obtain ⟨u4, rfl⟩ := hF.open
            have e94 : u4 94 = .bool pl := by simpa using h94
            rw [e94]
            clear hF h94 e94
            go_upto_if 94 with fail
            refine wp_cut (fun a' w' => ∃ L v1, a' = ⟨L.toArray, []⟩ ∧ Fh (.pointer (some ⟨b, 1, none⟩)) (.string ⟨#[]⟩) (.slice (some ⟨k, o, none⟩) n c) (.string dg) (.int .i64 N) (.int .i64 W) (undef) L ∧ PP b w' { s with out := s.out ++ lpB s.fl W } v1 ib ∧ Fr b w v w' v1) ?_ ?_
            · intro a5 w5 hR
              obtain ⟨L, v1, rfl, hF, hP1, hF1⟩ := hR
              obtain ⟨u5, rfl⟩ := hF.open
              clear hF HPL
              have d0 := hP1.c0
              have d1 := hP1.c1
              have d6 := hP1.c6
              simp only at d6
              have hb1 := hP1.lt
              have HP1 := Lib.hid hP1
              have HF1 := Lib.hid hF1
              obtain ⟨va, vn, vc, rfl⟩ := hP1.buf.slice
              clear hP1 hF1 c1 c2 c4 c6 c7 c11 hblt
              have hdz : 16 < dg.size := by rw [HDG.out, digS_size]; omega
              have hdb := bt_eq dg 16 hdz
              have hcs : ∀ c ∈ [48, bt dg 16], 0 ≤ c ∧ c ≤ 255 := by
                intro c hc
                have h0 := bt_nonneg dg 16
                have h1 := bt_le dg 16
                simp at hc
                rcases hc with rfl | rfl
                · omega
                · exact ⟨h0, h1⟩
              have HCS := Lib.hid hcs
              have hroom : Room ((s.out ++ lpB s.fl W).length + 2) := by unfold Room; rw [List.length_append]; have := HL.out; omega
              have HR1 := Lib.hid hroom
              clear hcs hroom
              go_upto_if 113 with fail
              refine wp_cut (fun a' w' => ∃ L V, a' = ⟨L.toArray, []⟩ ∧ Fh (.pointer (some ⟨b, 1, none⟩)) (.string ⟨#[]⟩) (.slice (some ⟨k, o, none⟩) n c) (.string dg) (.int .i64 N) (.int .i64 W) (V) L ∧ App w5 (.slice va vn vc) w' V (s.out ++ lpB s.fl W ++ (if s.fl.sharp then hexX up else []))) ?_ ?_
              · intro a6 w6 hR
                obtain ⟨L, V, rfl, hF, hA⟩ := hR
                obtain ⟨u6, rfl⟩ := hF.open
                clear hF
                have hA0 : App w5 (.slice va vn vc) w6 V (s.out ++ lpB s.fl W ++ ((if s.fl.sharp then hexX up else []) ++ hexes up (hexZ s.fl up) (T.take 0))) := by simpa [hexes] using hA
                have HA0 := Lib.hid hA0
                clear hA hA0 d0 d1 d6
                go_wp2_with fail
                go_loopw [10, 11, 12] (fun V _ i W6 => ∃ j : Nat, i = .int .i64 j ∧ j ≤ N ∧ App w5 (.slice va vn vc) W6 V (s.out ++ lpB s.fl W ++ ((if s.fl.sharp then hexX up else []) ++ hexes up (hexZ s.fl up) (T.take j)))) (fun _ _ i _ => N - (intOf i).toNat)
                case atStart => exact ⟨0, rfl, Nat.zero_le _, HA0.out⟩
                case round =>
                  obtain ⟨j, rfl, hj, hA⟩ := hrel
                  have hst : ∀ i, wr.cell? ⟨b, i, none⟩ = w5.cell? ⟨b, i, none⟩ := fun i => World.cell?_of_block (a := ⟨b, i, none⟩) (HP1.out.still hA)
                  have g1 := (hst 1).trans HP1.out.c1
                  have g6 : wr.cell? ⟨b, 6, none⟩ = some (.bool s.fl.sharp) := (hst 6).trans HP1.out.c6
                  have g7 : wr.cell? ⟨b, 7, none⟩ = some (.bool s.fl.space) := (hst 7).trans HP1.out.c7
                  have HA := Lib.hid hA
                  clear hst
                  by_cases hlt : j < N
                  · have hjn : j < T.length := by rw [← HY.out.2.2]; omega
                    obtain ⟨m, hm⟩ : ∃ m : Nat, m = (T[j]).toNat := ⟨_, rfl⟩
                    have hm9 : m < 256 := by rw [hm]; exact (T[j]).toNat_lt
                    have hcell : wr.cell? ⟨k, o + j, none⟩ = some (.int .u8 m) := by
                      rw [((HX.out.step HF1.out).step ((Fr.refl _ _ _).app hA)).1.cell (by omega), hm]
                      rfl
                    have HM := Lib.hid hm
                    clear hm
                    obtain ⟨d1, hd1⟩ : ∃ d1 : Nat, d1 = m / 16 := ⟨_, rfl⟩
                    obtain ⟨d2, hd2⟩ : ∃ d2 : Nat, d2 = m % 16 := ⟨_, rfl⟩
                    have hq1 : d1 < 16 := by omega
                    have hq2 : d2 < 16 := by omega
                    have hdiv : (m : Int) / 16 = (d1 : Int) := by omega
                    have hand : bits .and .u8 (m : Int) 15 = (d2 : Int) := by rw [hd2]; exact and15_u8 m hm9
                    have HDD := Lib.hid (And.intro hd1 hd2)
                    have hdsz : dg.size = 17 := by rw [HDG.out, digS_size]
                    have hz1 : d1 < dg.size := by omega
                    have hz2 : d2 < dg.size := by omega
                    clear hd1 hd2
                    have hi1 : (d1 : Int) < 17 := by omega
                    have hi2 : (d2 : Int) < 17 := by omega
                    have hi3 : (0 : Int) ≤ d1 := by omega
                    have hi4 : (0 : Int) ≤ d2 := by omega
                    have hda := bt_eq dg d1 hz1
                    have hdb2 := bt_eq dg d2 hz2
                    have hc2 : ∀ c ∈ [bt dg d1, bt dg d2], 0 ≤ c ∧ c ≤ 255 := by
                      intro c hc
                      simp at hc
                      rcases hc with rfl | rfl
                      · exact ⟨bt_nonneg dg d1, bt_le dg d1⟩
                      · exact ⟨bt_nonneg dg d2, bt_le dg d2⟩
                    have HC2 := Lib.hid hc2
                    have hrm : ∀ z : Bytes, z.length ≤ 3 → Room ((s.out ++ lpB s.fl W ++ ((if s.fl.sharp then hexX up else []) ++ hexes up (hexZ s.fl up) (T.take j)) ++ z).length + 2) := by
                      intro z hz
                      have h1 := hexes_len up (hexZ s.fl up) T j (by omega)
                      have h2 : (hexZ s.fl up).length ≤ 3 := by unfold hexZ; cases s.fl.space <;> cases s.fl.sharp <;> cases up <;> decide
                      have h3 : (2 + (hexZ s.fl up).length) * j ≤ 5 * j := Nat.mul_le_mul_right _ (by omega)
                      have h4 : (if s.fl.sharp then hexX up else []).length ≤ 2 := by split <;> simp [hexX]
                      have h5 := HL.out
                      unfold Room
                      simp only [List.length_append]
                      omega
                    have HRM := Lib.hid hrm
                    clear hc2 hrm hA
                    have hfin : ∀ zz : Bytes, zz = (if j = 0 then [] else hexZ s.fl up) → s.out ++ lpB s.fl W ++ ((if s.fl.sharp then hexX up else []) ++ hexes up (hexZ s.fl up) (T.take j)) ++ zz ++ ([bt dg d1, bt dg d2] : List Int).map B = s.out ++ lpB s.fl W ++ ((if s.fl.sharp then hexX up else []) ++ hexes up (hexZ s.fl up) (T.take (j + 1))) := by
                      rintro zz rfl
                      have e2 : ([bt dg d1, bt dg d2] : List Int).map B = hex2 up T[j] := by
                        show [B (bt dg d1), B (bt dg d2)] = _
                        rw [B_bt up d1 hq1 HDG.out, B_bt up d2 hq2 HDG.out, HDD.out.1, HDD.out.2, HM.out]
                        rfl
                      rw [e2, hexes_take up (hexZ s.fl up) T j hjn]
                      simp only [List.append_assoc]
                    have HFIN := Lib.hid hfin
                    clear hfin
                    by_cases hsep : s.fl.space = true ∧ 0 < j
                    · obtain ⟨hsp, hj0⟩ := hsep
                      have hj1 : (0 : Int) < j := by omega
                      have hx16 : s.fl.sharp = true → ([48, bt dg 16] : List Int).map B = hexX up := by
                        intro _
                        rw [HDG.out]
                        show [B 48, B (bt (digS up) 16)] = _
                        rw [B_x]
                        rfl
                      rw [hsp] at g7
                      have hr1 := HRM.out [] (by decide)
                      have hr2 := HRM.out [32] (by decide)
                      have hr3 : Room ((s.out ++ lpB s.fl W ++ ((if s.fl.sharp then hexX up else []) ++ hexes up (hexZ s.fl up) (T.take j)) ++ ([32] : List Int).map B ++ ([48, bt dg 16] : List Int).map B).length + 2) := by
                        have := HRM.out ([32, 48, 48]) (by decide)
                        refine this.le ?_
                        simp only [List.length_append, List.length_map, List.length_cons, List.length_nil]
                        omega
                      rw [List.append_nil] at hr1
                      have HR1 := Lib.hid (Room.le hr1 (Nat.le_succ _))
                      have HR2 := Lib.hid hr2
                      have HR3 := Lib.hid hr3
                      have hc32 : ∀ c ∈ ([32] : List Int), 0 ≤ c ∧ c ≤ 255 := by decide
                      have HC32 := Lib.hid hc32
                      have hxc : ∀ (V' : Value) (w' : World) (ys : Bytes), App w5 (.slice va vn vc) w' V' ys → w'.cell? ⟨k, o + j, none⟩ = some (.int .u8 m) := by
                        intro V' w' ys hA'
                        rw [((HX.out.step HF1.out).step ((Fr.refl _ _ _).app hA')).1.cell (by rw [← HY.out.2.2]; omega), HM.out]
                        rfl
                      have HXC := Lib.hid hxc
                      clear hxc
                      clear hr1 hr2 hr3 hc32 HRM HY HDG
                      cases hsh : s.fl.sharp
                      · rw [hsh] at g6
                        have hfi := HFIN.out [32] (by rw [if_neg (show ¬ j = 0 by omega)]; unfold hexZ; rw [hsp, hsh]; rfl)
                        clear HFIN hx16
                        have hs6 : w5.cell? ⟨b, 6, none⟩ = some (.bool false) := by have := HP1.out.c6; rw [show ({ s with out := s.out ++ lpB s.fl W } : PS).fl.sharp = false from hsh] at this; exact this
                        have HS6 := Lib.hid hs6
                        clear hs6
                        have HFI := Lib.hid hfi
                        clear hfi
                        go_wp2_with (at_builtin; refine wpList_app_lit rfl (.tmp 133) (.tmp 134) 119 rfl 5 byte5 Tryz.underlying119 _ _ rfl [32] 1 rfl rfl w5 (.slice va vn vc) HA.out 5 _ rfl HC32.out HR1.out ?_; intro V6 w6 hA6; have k1 := HP1.out.stillc hA6 HP1.out.c1; have k6 := HP1.out.stillc hA6 HS6.out; have hcell6 : w6.cell? ⟨k, o + j, none⟩ = some (.int .u8 m) := HXC.out _ _ _ hA6; have HA6 := Lib.hid hA6; clear hA6)
                        go_region_law ((refine step_app_lit rfl (.tmp 155) (.tmp 164) 119 rfl 5 byte5 Tryz.underlying119 _ _ (by rfl) [bt dg d1, bt dg d2] 2 (by rfl) rfl w5 (.slice va vn vc) HA6.out 5 _ rfl HC2.out HR2.out ?_; intro V7 w7 hA7))
                        all_goals
                          have HA7 := Lib.hid hA7
                          clear hA7
                          go_wp2_with fail
                          go_roundw
                          case rel => exact ⟨j + 1, by go_num, by omega, by have h7 := HA7.out; have e7 := HFI.out; rw [hsh] at h7 e7; rw [← e7]; exact h7⟩
                          case measure => simp [intOf]; omega
                      · rw [hsh] at g6
                        have hfi := HFIN.out (32 :: hexX up) (by rw [if_neg (show ¬ j = 0 by omega)]; unfold hexZ; rw [hsp, hsh]; rfl)
                        have hfi2 : ∀ X : Bytes, X ++ [32] ++ ([48, bt dg 16] : List Int).map B = X ++ (32 :: hexX up) := by intro X; rw [List.append_assoc, hx16 hsh]; rfl
                        have HFI := Lib.hid (And.intro hfi hfi2)
                        clear hfi hfi2 hx16 HFIN
                        have hs6 : w5.cell? ⟨b, 6, none⟩ = some (.bool true) := by have := HP1.out.c6; rw [show ({ s with out := s.out ++ lpB s.fl W } : PS).fl.sharp = true from hsh] at this; exact this
                        have HS6 := Lib.hid hs6
                        clear hs6
                        go_wp2_with (first
                          | (at_builtin; refine wpList_app_lit rfl (.tmp 133) (.tmp 134) 119 rfl 5 byte5 Tryz.underlying119 _ _ rfl [32] 1 rfl rfl w5 (.slice va vn vc) HA.out 5 _ rfl HC32.out HR1.out ?_; intro V6 w6 hA6; have k1 := HP1.out.stillc hA6 HP1.out.c1; have k6 := HP1.out.stillc hA6 HS6.out; have hcell6 : w6.cell? ⟨k, o + j, none⟩ = some (.int .u8 m) := HXC.out _ _ _ hA6; have HA6 := Lib.hid hA6; clear hA6)
                          | (at_builtin; refine wpList_app_lit rfl (.tmp 141) (.tmp 144) 119 rfl 5 byte5 Tryz.underlying119 _ _ rfl [48, bt dg 16] 2 rfl rfl w5 (.slice va vn vc) HA6.out 5 _ rfl HCS.out HR2.out ?_; intro V8 w8 hA8; have hcell8 : w8.cell? ⟨k, o + j, none⟩ = some (.int .u8 m) := HXC.out _ _ _ hA8; have HA8 := Lib.hid hA8; clear hA8))
                        go_region_law ((refine step_app_lit rfl (.tmp 155) (.tmp 164) 119 rfl 5 byte5 Tryz.underlying119 _ _ (by rfl) [bt dg d1, bt dg d2] 2 (by rfl) rfl w5 (.slice va vn vc) HA8.out 5 _ rfl HC2.out HR3.out ?_; intro V7 w7 hA7))
                        all_goals
                          have HA7 := Lib.hid hA7
                          clear hA7
                          go_wp2_with fail
                          go_roundw
                          case rel => exact ⟨j + 1, by go_num, by omega, by have h7 := HA7.out; rw [HFI.out.2, HFI.out.1] at h7; rw [hsh] at h7; exact h7⟩
                          case measure => simp [intOf]; omega
                    · have hzz : (if j = 0 then [] else hexZ s.fl up) = [] := by
                        by_cases h0 : j = 0
                        · rw [if_pos h0]
                        · rw [if_neg h0]
                          unfold hexZ
                          cases hsp : s.fl.space
                          · rfl
                          · exact absurd ⟨hsp, by omega⟩ hsep
                      have hfi := HFIN.out [] hzz.symm
                      rw [List.append_nil] at hfi
                      have HFI := Lib.hid hfi
                      have hrm0 := HRM.out [] (by decide)
                      rw [List.append_nil] at hrm0
                      have HR0 := Lib.hid hrm0
                      clear hrm0 hfi hzz HRM HFIN HY HDG
                      have hj0 : s.fl.space = false ∨ (s.fl.space = true ∧ j = 0) := by
                        cases hsp : s.fl.space
                        · exact .inl rfl
                        · exact .inr ⟨rfl, by by_cases h0 : j = 0; exact h0; exact absurd ⟨hsp, by omega⟩ hsep⟩
                      clear hsep
                      rcases hj0 with hsp | ⟨hsp, hj0⟩
                      · rw [hsp] at g7
                        go_wp2_with fail
                        go_region_law ((refine step_app_lit rfl (.tmp 155) (.tmp 164) 119 rfl 5 byte5 Tryz.underlying119 _ _ (by rfl) [bt dg d1, bt dg d2] 2 (by rfl) rfl w5 (.slice va vn vc) HA.out 5 _ rfl HC2.out HR0.out ?_; intro V7 w7 hA7))
                        all_goals
                          have HA7 := Lib.hid hA7
                          clear hA7
                          go_wp2_with fail
                          go_roundw
                          case rel => exact ⟨j + 1, by go_num, by omega, by rw [← HFI.out]; exact HA7.out⟩
                          case measure => simp [intOf]; omega
                      · subst hj0
                        rw [hsp] at g7
                        rw [Nat.add_zero] at hcell
                        go_wp2_with fail
                        go_region_law ((refine step_app_lit rfl (.tmp 155) (.tmp 164) 119 rfl 5 byte5 Tryz.underlying119 _ _ (by rfl) [bt dg d1, bt dg d2] 2 (by rfl) rfl w5 (.slice va vn vc) HA.out 5 _ rfl HC2.out HR0.out ?_; intro V7 w7 hA7))
                        all_goals
                          have HA7 := Lib.hid hA7
                          clear hA7
                          go_wp2_with fail
                          go_roundw
                          case rel => exact ⟨1, rfl, by omega, by rw [← HFI.out]; exact HA7.out⟩
                          case measure => simp [intOf]; omega
                  · obtain rfl : j = N := by omega
                    have hYe : (if s.fl.sharp then hexX up else []) ++ hexes up (hexZ s.fl up) (T.take j) = Y := by rw [HY.out.1]; unfold hexB; rw [if_neg hTne]
                    rw [hYe] at hA
                    have hR := HP1.out.text hA
                    have k0 := HP1.out.still0 hA
                    have kf := HP1.out.stillf hA 0
                    have k1 := HP1.out.stillc hA HP1.out.c1
                    have n2 : wr.cell? ⟨b, 2, none⟩ = some (.bool s.fl.widP) := HP1.out.stillc hA HP1.out.c2
                    have n4 : wr.cell? ⟨b, 4, none⟩ = some (.bool s.fl.minus) := HP1.out.stillc hA HP1.out.c4
                    have n11 : wr.cell? ⟨b, 11, none⟩ = some (.int .i64 s.fl.wid) := HP1.out.stillc hA HP1.out.c11
                    obtain ⟨xa, xn, xc, rfl⟩ := hA.slice
                    have hPr : PP b (wr.setCell ⟨b, 0, none⟩ (.slice xa xn xc)) { s with out := s.out ++ lpB s.fl W ++ Y } (.slice xa xn xc) ib := hR.1
                    have hFr := HF1.out.trans hR.2
                    have m2 : (wr.setCell ⟨b, 0, none⟩ (.slice xa xn xc)).cell? ⟨b, 2, none⟩ = some (.bool s.fl.widP) := hPr.c2
                    have m4 : (wr.setCell ⟨b, 0, none⟩ (.slice xa xn xc)).cell? ⟨b, 4, none⟩ = some (.bool s.fl.minus) := hPr.c4
                    have m11 : (wr.setCell ⟨b, 0, none⟩ (.slice xa xn xc)).cell? ⟨b, 11, none⟩ = some (.int .i64 s.fl.wid) := hPr.c11
                    have HPR := Lib.hid (And.intro hPr hFr)
                    clear hA hR hPr hFr HA g1 g6 g7 HA0 hYe
                    by_cases hpad : s.fl.widP = true ∧ (W : Int) < s.fl.wid ∧ s.fl.minus = true
                    · obtain ⟨hp1, hp2, hp3⟩ := hpad
                      have e : rpB s.fl W = padding s.fl (s.fl.wid - W) := by unfold rpB; rw [if_pos ⟨hp1, hp2, hp3⟩]
                      have hwr : IntKind.i64.wrap (s.fl.wid - (W : Int)) = s.fl.wid - W := IntWalk.i64_in _ (by have := HL.out; omega)
                      have C := HC.out _ _ _ (s.fl.wid - W) (by rw [List.length_append, List.length_append, ← HY.out.2.1]; have := HL.out; omega) (by omega) HPR.out.1
                      have HCC := Lib.hid C
                      have HE := Lib.hid e
                      rw [hp1] at n2 m2
                      rw [hp3] at n4 m4
                      clear C HC e
                      go_wp2_with (go_at_call 106; refine (HCC.out).mono ?_; rintro e w9 ⟨rfl, v9, hP9, hF9⟩; have HQ := Lib.hid (And.intro hP9 hF9); clear hP9 hF9)
                      go_end0
                      refine ⟨rfl, v9, ?_, HPR.out.2.trans HQ.out.2⟩
                      rw [HE.out]
                      have := HQ.out.1
                      simpa only [List.append_assoc] using this
                    · have e : rpB s.fl W = [] := by unfold rpB; rw [if_neg hpad]
                      have hfin : PP b (wr.setCell ⟨b, 0, none⟩ (.slice xa xn xc)) { s with out := s.out ++ (lpB s.fl W ++ (Y ++ rpB s.fl W)) } (.slice xa xn xc) ib := by
                        rw [e, List.append_nil]
                        have := HPR.out.1
                        simpa only [List.append_assoc] using this
                      have HFN := Lib.hid hfin
                      clear hfin e HC
                      cases hwp : s.fl.widP
                      · rw [hwp] at n2 m2
                        go_wp2_with fail
                        go_end0
                        exact ⟨rfl, _, HFN.out, HPR.out.2⟩
                      · rw [hwp] at n2 m2
                        by_cases hlt3 : (W : Int) < s.fl.wid
                        · have hm : s.fl.minus = false := by
                            cases hm : s.fl.minus
                            · rfl
                            · exact absurd ⟨hwp, hlt3, hm⟩ hpad
                          rw [hm] at n4 m4
                          go_wp2_with fail
                          go_end0
                          exact ⟨rfl, _, HFN.out, HPR.out.2⟩
                        · go_wp2_with fail
                          go_end0
                          exact ⟨rfl, _, HFN.out, HPR.out.2⟩
              · intro J K hJ hK
                cases hsh : s.fl.sharp
                · rw [hsh] at d6 hJ
                  go_wp2_with fail
                  exact Met.intro (hJ _ _ ⟨_, _, rfl, ⟨rfl, rfl, rfl, rfl, rfl, rfl, rfl, rfl⟩, by simpa using App.refl HP1.out.buf⟩)
                · rw [hsh] at d6 hJ
                  go_wp2_with (at_builtin; refine wpList_app_lit rfl (.tmp 114) (.tmp 117) 119 rfl 5 byte5 Tryz.underlying119 _ _ rfl [48, bt dg 16] 2 rfl rfl w5 (.slice va vn vc) (App.refl HP1.out.buf) 5 _ rfl HCS.out HR1.out ?_; intro V w7 hA)
                  have hx : ([48, bt dg 16] : List Int).map B = hexX up := by
                    rw [HDG.out]
                    show [B 48, B (bt (digS up) 16)] = _
                    rw [B_x]
                    rfl
                  rw [hx] at hA
                  have HA := Lib.hid hA
                  clear hA hx
                  go_wp2_with fail
                  exact Met.intro (hJ _ _ ⟨_, _, rfl, ⟨rfl, rfl, rfl, rfl, rfl, rfl, rfl, rfl⟩, HA.out⟩)
            · intro J K hJ hK
              cases pl
              · have e : lpB s.fl W = [] := by
                  have := HPL.out.symm
                  simp only [decide_eq_false_iff_not] at this
                  unfold lpB; rw [if_neg this]
                go_wp2_with fail
                exact Met.intro (hJ _ _ ⟨_, v, rfl, ⟨rfl, rfl, rfl, rfl, rfl, rfl, rfl, rfl⟩, by rw [e]; simpa using HP.out, Fr.refl _ _ _⟩)
              · have hh := HPL.out.symm
                simp only [decide_eq_true_eq] at hh
                have e : lpB s.fl W = padding s.fl (s.fl.wid - W) := by unfold lpB; rw [if_pos hh]
                rw [e] at hJ
                have hwr : IntKind.i64.wrap (s.fl.wid - (W : Int)) = s.fl.wid - W := IntWalk.i64_in _ (by have := HL.out; omega)
                have C := HC.out w s.out v (s.fl.wid - W) (by omega) (by omega) HP.out
                have HCC := Lib.hid C
                clear C HC e hh
                go_wp2_with (go_at_call 106; refine (HCC.out).mono ?_; rintro e w3 ⟨rfl, v3, hP3, hF3⟩; have HQ := Lib.hid (And.intro hP3 hF3); clear hP3 hF3)
                exact Met.intro (hJ _ _ ⟨_, v3, rfl, ⟨rfl, rfl, rfl, rfl, rfl, rfl, rfl, rfl⟩, HQ.out.1, HQ.out.2⟩)
          · intro J K hJ hK
            cases hwp : s.fl.widP
            · have hq : pl = false := by rw [HPL.out, hwp]; simp
              subst hq
              rw [hwp] at c2
              go_wp2_with fail
              exact Met.intro (hJ _ _ ⟨_, rfl, ⟨rfl, rfl, rfl, rfl, rfl, rfl, rfl, rfl⟩, rfl, rfl⟩)
            · rw [hwp] at c2
              by_cases hlt : (W : Int) < s.fl.wid
              · cases hm : s.fl.minus
                · have hq : pl = true := by rw [HPL.out, hwp, hm]; simp [hlt]
                  subst hq
                  rw [hm] at c4
                  go_wp2_with fail
                  exact Met.intro (hJ _ _ ⟨_, rfl, ⟨rfl, rfl, rfl, rfl, rfl, rfl, rfl, rfl⟩, by simp [hlt], rfl⟩)
                · have hq : pl = false := by rw [HPL.out, hwp, hm]; simp [hlt]
                  subst hq
                  rw [hm] at c4
                  go_wp2_with fail
                  exact Met.intro (hJ _ _ ⟨_, rfl, ⟨rfl, rfl, rfl, rfl, rfl, rfl, rfl, rfl⟩, by simp [hlt], rfl⟩)
              · have hq : pl = false := by rw [HPL.out, hwp]; simp [hlt]
                subst hq
                go_wp2_with fail
                exact Met.intro (hJ _ _ ⟨_, rfl, ⟨rfl, rfl, rfl, rfl, rfl, rfl, rfl, rfl⟩, by simp [hlt], rfl⟩)
        · intro J K hJ hK
          have hN1 : (0 : Int) < N := by omega
          have hN2 : (1 : Int) ≤ N := by omega
          have hN3 : (N : Int) ≤ 35184372088832 := by omega
          cases hsp : s.fl.space
          · cases hsh : s.fl.sharp
            · have hw : (W : Int) = 2 * N := by have := HWE.out; rw [hsp, hsh] at this; simp at this; omega
              rw [hw] at hJ
              rw [hsp] at c7
              rw [hsh] at c6
              go_wp2_with fail
              exact Met.intro (hJ _ _ ⟨_, rfl, ⟨rfl, rfl, rfl, rfl, rfl, rfl, rfl, rfl⟩, rfl⟩)
            · have hw : (W : Int) = 2 * N + 2 := by have := HWE.out; rw [hsp, hsh] at this; simp at this; omega
              rw [hw] at hJ
              rw [hsp] at c7
              rw [hsh] at c6
              go_wp2_with fail
              exact Met.intro (hJ _ _ ⟨_, rfl, ⟨rfl, rfl, rfl, rfl, rfl, rfl, rfl, rfl⟩, rfl⟩)
          · cases hsh : s.fl.sharp
            · have hw : (W : Int) = 2 * N + (N - 1) := by have := HWE.out; rw [hsp, hsh] at this; simp at this; omega
              rw [hw] at hJ
              rw [hsp] at c7
              rw [hsh] at c6
              go_wp2_with fail
              exact Met.intro (hJ _ _ ⟨_, rfl, ⟨rfl, rfl, rfl, rfl, rfl, rfl, rfl, rfl⟩, rfl⟩)
            · have hw : (W : Int) = 2 * N * 2 + (N - 1) := by have := HWE.out; rw [hsp, hsh] at this; simp at this; omega
              rw [hw] at hJ
              rw [hsp] at c7
              rw [hsh] at c6
              go_wp2_with fail
              exact Met.intro (hJ _ _ ⟨_, rfl, ⟨rfl, rfl, rfl, rfl, rfl, rfl, rfl, rfl⟩, rfl⟩)
    · intro J K hJ hK
      cases pc
      · have hnN := HNP.out.2 rfl
        go_wp2_with fail
        exact Met.intro (hJ _ _ ⟨_, rfl, by rw [← hnN]; exact ⟨rfl, rfl, rfl, rfl, rfl, rfl, rfl, rfl⟩, rfl⟩)
      · have hpN := HNP.out.1 rfl
        rw [hpN] at c12
        go_wp2_with fail
        exact Met.intro (hJ _ _ ⟨_, rfl, ⟨rfl, rfl, rfl, rfl, rfl, rfl, rfl, rfl⟩, rfl⟩)
  · intro J K hJ hK
    cases hpp : s.fl.precP
    · have hq : pc = false := by rw [HPC.out, hpp]; simp
      subst hq
      rw [hpp] at c3
      go_wp2_with fail
      exact Met.intro (hJ _ _ ⟨_, rfl, ⟨rfl, rfl, rfl, rfl, rfl, rfl, rfl, rfl⟩, rfl, rfl⟩)
    · rw [hpp] at c3
      by_cases hlt : s.fl.prec < n
      · have hq : pc = true := by rw [HPC.out, hpp]; simp [hlt]
        subst hq
        go_wp2_with fail
        exact Met.intro (hJ _ _ ⟨_, rfl, ⟨rfl, rfl, rfl, rfl, rfl, rfl, rfl, rfl⟩, by simp [hlt], rfl⟩)
      · have hq : pc = false := by rw [HPC.out, hpp]; simp [hlt]
        subst hq
        go_wp2_with fail
        exact Met.intro (hJ _ _ ⟨_, rfl, ⟨rfl, rfl, rfl, rfl, rfl, rfl, rfl, rfl⟩, by simp [hlt], rfl⟩)

end Go.Proofs.YtcbliojofnigdaaGreatDoor
