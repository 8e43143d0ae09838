/- spec.Unquote at a quoted text. -/
import Derived.Test.YtcbliojofnigdaaGreatDoorUnqE
import Derived.Test.YtcbliojofnigdaaGreatDoorQuo4
import Derived.BigQuiet
set_option linter.unusedVariables false
set_option linter.unusedSimpArgs false
namespace Go.Proofs.YtcbliojofnigdaaGreatDoor
open Go Go.Proofs Go.RowKit

theorem list_ext' (s : ByteArray) (i j : Nat) : (s.extract i j).data.toList = (s.data.toList.take j).drop i := by
  rw [ByteArray.data_extract, Array.toList_extract, List.extract_eq_drop_take']

theorem list_app (a b : ByteArray) : (a ++ b).data.toList = a.data.toList ++ b.data.toList := by
  rw [ByteArray.data_append, Array.toList_append]
theorem list_rest (s : ByteArray) (i : Nat) : (s.extract i s.size).data.toList = s.data.toList.drop i := by
  rw [list_ext']
  have : s.data.toList.take s.size = s.data.toList := List.take_of_length_le (by rw [Array.length_toList]; exact Nat.le_refl _)
  rw [this]

set_option maxRecDepth 100000 in
set_option maxHeartbeats 4000000 in
theorem Unquote_any (T : Lib.PrintTabs) (t s : ByteArray) (hts : t.size ≤ 1000000) (hs : s.data.toList = quoB T t) (w : World) :
    Calls Tryz.prog 40 #[.string s] w fun e w' => e = .returned (.tuple #[.string t, .bool true]) ∧ Only none w w' := by
  obtain ⟨body, hbody⟩ : ∃ body, body = (Lib.quoteFrom T t.size t).map B := ⟨_, rfl⟩
  have hsl : s.size ≤ 10000002 := by
    have h1 := quoB_len T t
    have h2 := size_at hs
    omega
  have hs' : s.data.toList = 34 :: (body ++ [34]) := by
    rw [hs, hbody]
    unfold quoB Lib.quoteZ
    simp
    exact rfl
  have hsz := size_at hs'
  simp only [List.length_cons, List.length_append, List.length_nil] at hsz
  have hq0 : 0 < s.size := by omega
  have hq1 : s.size - 1 < s.size := by omega
  have g0 : ((s[0]'hq0).toNat : Int) = 34 := by
    rw [bt_eq, show bt s 0 = ((s.get! 0).toNat : Int) from rfl, get_at hs' 0 _ rfl]; rfl
  have g1 : ((s[s.size - 1]'hq1).toNat : Int) = 34 := by
    rw [bt_eq, show bt s (s.size - 1) = ((s.get! (s.size - 1)).toNat : Int) from rfl, get_at hs' (s.size - 1) 34 ?_]; rfl
    rw [hsz, show body.length + 1 + 1 - 1 = body.length + 1 by omega, List.getElem?_cons_succ, List.getElem?_append_right (Nat.le_refl _), Nat.sub_self]
    rfl
  have hsd : decide ((s.size : Int) < 2) = false := by rw [decide_eq_false_iff_not]; omega
  have hn1 : ((s.size : Int) - 1).toNat = s.size - 1 := by omega
  have H0 := Lib.hid hs'
  have HSZ := Lib.hid hsz
  have hs6 : ((s.size : Int) - 1) < s.size := by omega
  have hs2 : (1 : Int) ≤ s.size := by omega
  have hs3 : s.size - 1 ≤ s.size := by omega
  have hs4 : ((s.size : Int) - 1) ≤ s.size := by omega
  have hs5 : (1 : Int) ≤ (s.size : Int) - 1 := by omega
  have hw1 : IntKind.i64.wrap ((s.size : Int) - 1) = (s.size : Int) - 1 := by rw [IntKind.wrap_i64]; omega
  have HB := Lib.hid hbody
  clear hs hs' hbody hsz
  go_enter Tryz.func40, Tryz.ntmps40
  go_wp2
  go_quiet (fail)
  all_goals
    go_wp2
    go_region
    all_goals
      go_wp2
      go_loopw [5, 6] (fun iv ov W => ∃ (I O rest : ByteArray) (f : Nat), iv = .string I ∧ ov = .string O ∧ rest.size ≤ f ∧ rest.size ≤ t.size ∧ I.size ≤ 10000002 ∧ O.size + rest.size ≤ 1000000 ∧ Only none w W ∧ Hid (I.data.toList = (Lib.quoteFrom T f rest).map B) ∧ Hid (O.data.toList ++ rest.data.toList = t.data.toList)) (fun iv _ _ => match iv with | .string s => s.size | _ => 0)
      case atStart =>
        refine ⟨_, _, t, t.size, rfl, rfl, Nat.le_refl _, Nat.le_refl _, ?_, ?_, ?_, ?_, ?_⟩
        · rw [ByteArray.size_extract]
          omega
        · show 0 + t.size ≤ 1000000
          omega
        · exact by first | exact (Only.refl _ _).drew | exact ((Only.refl _ _).drewN _).drew
        · show _ = _
          rw [list_ext', H0.out, HSZ.out, show body.length + (0 + 1) + 1 - 1 = body.length + 1 by omega, List.take_succ_cons, List.take_left', HB.out]
          · rfl
          · rfl
        · show _ = _
          rfl
      case round =>
        obtain ⟨I, O, rest, f, rfl, rfl, hf, hr, hI, hO, hW, HI, HOt⟩ := hrel
        by_cases hlt : 0 < rest.size
        · have hK1 := Lib.width_pos rest 0
          have hKr := Lib.width_le rest hlt
          have hres : (rest.extract (Utf8.decode rest 0).2 rest.size).size = rest.size - (Utf8.decode rest 0).2 := Lib.size_rest rest _
          have hhl : (heads rest).length = (Utf8.decode rest 0).2 := by
            unfold heads
            rw [List.length_take, Array.length_toList]
            have : rest.data.size = rest.size := rfl
            omega
          have hsplit : rest.data.toList = heads rest ++ (rest.extract (Utf8.decode rest 0).2 rest.size).data.toList := by
            rw [list_ext']
            have : rest.data.toList.take rest.size = rest.data.toList := List.take_of_length_le (by rw [Array.length_toList]; exact Nat.le_refl _)
            rw [this]
            exact (List.take_append_drop _ _).symm
          obtain ⟨Z, hZ⟩ : ∃ Z, Z = (Lib.quoteFrom T (f - 1) (rest.extract (Utf8.decode rest 0).2 rest.size)).map B := ⟨_, rfl⟩
          have hIl : I.data.toList = (Lib.quoteStep T rest).map B ++ Z := by
            rw [HI.out, Lib.quoteFrom_step T f rest hlt hf, List.map_append, hZ]
          rcases step_cases T rest hlt with ⟨hS, hv, b, l, hb, h34, h92, h10, -⟩ | ⟨⟨l, hl⟩, hE⟩
          · rw [hS] at hIl
            have C := fun W => Width_raw rest I Z hlt hv hIl W
            have hIz := size_at hIl
            rw [List.length_append, hhl] at hIz
            have hIt : I.data.toList.take (Utf8.decode rest 0).2 = heads rest := by
              rw [hIl, ← hhl, List.take_left']
              rfl
            have hId : I.data.toList.drop (Utf8.decode rest 0).2 = Z := by
              rw [hIl, ← hhl, List.drop_left']
              rfl
            have hi0 : 0 < I.size := by omega
            have g0 : ((I[0]'hi0).toNat : Int) = b.toNat := by
              rw [bt_eq, show bt I 0 = ((I.get! 0).toNat : Int) from rfl, get_at hIl 0 b (by rw [hb]; rfl)]
            obtain ⟨c, hc⟩ : ∃ c : Int, c = b.toNat := ⟨_, rfl⟩
            rw [← hc] at g0
            have k34 : ¬ c = 34 := by
              intro h
              apply h34
              apply UInt8.toNat_inj.mp
              show b.toNat = 34
              omega
            have k92 : ¬ c = 92 := by
              intro h
              apply h92
              apply UInt8.toNat_inj.mp
              show b.toNat = 92
              omega
            have k10 : ¬ c = 10 := by
              intro h
              apply h10
              apply UInt8.toNat_inj.mp
              show b.toNat = 10
              omega
            have hne : I.toList.isEmpty = false := by
              rw [Lib.toList_data]
              cases hl0 : I.data.toList with
              | nil =>
                have := size_at hl0
                exfalso
                simp only [List.length_nil] at this
                omega
              | cons _ _ => rfl
            obtain ⟨K, hK⟩ : ∃ K, K = (Utf8.decode rest 0).2 := ⟨_, rfl⟩
            rw [← hK] at hK1 hKr hres hIz hIt hId hhl
            simp only [← hK] at C
            have hk0 : ((K : Int) == 0) = false := by rw [beq_eq_false_iff_ne]; omega
            have hkl : (K : Int) ≤ I.size := by omega
            have hkl' : K ≤ I.size := by omega
            have hxs : (I.extract 0 K).size = K := by rw [ByteArray.size_extract]; omega
            have hadd : ¬ 9223372036854775807 < O.size + (I.extract 0 K).size := by omega
            have HC := Lib.hid C
            have HIt := Lib.hid hIt
            have HId := Lib.hid hId
            have HSp := Lib.hid hsplit
            have HZ := Lib.hid hZ
            have HK := Lib.hid hK
            have HW := Lib.hid hW
            clear hW hS hv hb h34 h92 h10 hIl C hIz hIt hId hc hK hsplit hZ
            go_wp2_with (go_at_call 56; refine (HC.out _).mono ?_; rintro e w' ⟨rfl, rfl⟩)
            go_quiet (fail)
            all_goals
              go_wp2
              go_roundw
              case rel =>
                have hIs : (I.extract K I.size).size = I.size - K := by rw [ByteArray.size_extract]; omega
                refine ⟨_, _, rest.extract K rest.size, f - 1, rfl, rfl, by omega, by omega, by omega, ?_, HW.out.drewN _, ?_, ?_⟩
                · rw [ByteArray.size_append]
                  omega
                · show _ = _
                  rw [list_rest, HId.out, HZ.out, HK.out]
                · show _ = _
                  rw [list_app, list_ext', List.drop_zero, HIt.out, List.append_assoc, HK.out, ← HSp.out]
                  exact HOt.out
              case measure =>
                show (I.extract K I.size).size < I.size
                rw [ByteArray.size_extract]
                omega
          · have C := fun W => hE I Z W hIl
            obtain ⟨L, hL⟩ : ∃ L, L = (Lib.quoteStep T rest).length := ⟨_, rfl⟩
            have hLl : L = l.length + 1 := by
              have := congrArg List.length hl
              rw [List.length_map, List.length_cons] at this
              omega
            have hIz := size_at hIl
            rw [List.length_append, List.length_map, ← hL] at hIz
            have hId : I.data.toList.drop L = Z := by
              rw [hIl, List.drop_left']
              rw [List.length_map, hL]
            have hi0 : 0 < I.size := by omega
            have g0 : ((I[0]'hi0).toNat : Int) = 92 := by
              rw [bt_eq, show bt I 0 = ((I.get! 0).toNat : Int) from rfl, get_at hIl 0 92 (by rw [hl]; rfl)]
              rfl
            have hne : I.toList.isEmpty = false := by
              rw [Lib.toList_data]
              cases hl0 : I.data.toList with
              | nil =>
                have := size_at hl0
                exfalso
                simp only [List.length_nil] at this
                omega
              | cons _ _ => rfl
            obtain ⟨H, hH⟩ : ∃ H : ByteArray, H = ⟨(heads rest).toArray⟩ := ⟨_, rfl⟩
            have hHl : H.data.toList = heads rest := by rw [hH, list_arr]
            have hHs : H.size = (Utf8.decode rest 0).2 := by rw [size_at hHl, hhl]
            unfold EscTo at C
            rw [← hL, ← hH] at C
            have hk0 : ((L : Int) == 0) = false := by rw [beq_eq_false_iff_ne]; omega
            have hkl : (L : Int) ≤ I.size := by omega
            have hkl' : L ≤ I.size := by omega
            have hadd : ¬ 9223372036854775807 < O.size + H.size := by omega
            obtain ⟨K, hK⟩ : ∃ K, K = (Utf8.decode rest 0).2 := ⟨_, rfl⟩
            rw [← hK] at hK1 hKr hres hHs
            have HC := Lib.hid C
            have HHl := Lib.hid hHl
            have HId := Lib.hid hId
            have HSp := Lib.hid hsplit
            have HZ := Lib.hid hZ
            have HK := Lib.hid hK
            have HW := Lib.hid hW
            have HHs := Lib.hid hHs
            have HIz := Lib.hid hIz
            have HLl := Lib.hid hLl
            clear hW hl hIl C hIz hId hK hsplit hZ hE hH hHl hL hhl hHs hLl
            go_wp2_with (go_at_call 57; refine (HC.out _).mono ?_; rintro e w' ⟨rfl, hO1⟩)
            go_quiet (fail)
            all_goals
              go_wp2
              go_roundw
              case rel =>
                have hIs : (I.extract L I.size).size = I.size - L := by rw [ByteArray.size_extract]; omega
                refine ⟨_, _, rest.extract K rest.size, f - 1, rfl, rfl, by omega, by omega, by omega, ?_, (HW.out.trans hO1).drewN _, ?_, ?_⟩
                · rw [ByteArray.size_append, HHs.out]
                  omega
                · show _ = _
                  rw [list_rest, HId.out, HZ.out, HK.out]
                · show _ = _
                  rw [list_app, HHl.out, List.append_assoc, HK.out, ← HSp.out]
                  exact HOt.out
              case measure =>
                show (I.extract L I.size).size < I.size
                have := HLl.out
                rw [ByteArray.size_extract]
                omega
        · have hr0 : rest.size = 0 := by omega
          have hI0 : I = ⟨#[]⟩ := by
            apply ByteArray.ext
            apply Array.ext'
            rw [HI.out, Lib.quoteFrom_end _ _ _ hlt]
            rfl
          have hOt : O = t := by
            apply ByteArray.ext
            apply Array.ext'
            rw [← HOt.out]
            have : rest.data.toList = [] := by
              apply List.eq_nil_of_length_eq_zero
              rw [Array.length_toList]
              exact hr0
            rw [this, List.append_nil]
          subst hI0
          have HW := Lib.hid hW
          have HO2 := Lib.hid hOt
          clear hW hOt
          go_wp2
          go_ret2
          rw [HO2.out]
          exact ⟨rfl, HW.out⟩

end Go.Proofs.YtcbliojofnigdaaGreatDoor
