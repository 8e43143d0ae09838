/- FnBoolAndNil: whatever the bits, the marks and the width, the law answers true and they read as they did, where the listed tables are as the program's text lays them: the row, and the tied card. -/
import Derived.Test.YtcbliojofnigdaaGreatDoorCards
import Derived.Test.YtcbliojofnigdaaGreatDoorTie
import Derived.Test.YtcbliojofnigdaaGreatDoorCardBase
import Derived.Test.YtcbliojofnigdaaGreatDoorLawBoolNil
import Derived.ProofKit
import Derived.OpenShut
import Derived.ChangeMaps5
import Derived.Carry
import Derived.LaidMore
import Derived.Lay
import Derived.SevenTiedAt
import Derived.Stop.Joined
namespace Go.Proofs.YtcbliojofnigdaaGreatDoor
open Go Go.ChangeShapes Go.WideShapes Go.ChangeAt Go.RowKit

theorem FnBoolAndNil_k0 : (Rows.fnBoolAndNilRow.wf (OpenSpec.ofChange Rows.fnBoolAndNilSpec)) = true := by kernel_rfl
theorem FnBoolAndNil_k3 : (Tryz.f4.params.all (Tryz.prog.readableRec ·)) = true := by kernel_rfl
theorem FnBoolAndNil_k4 : (namedTie Tryz.prog Rows.fnBoolAndNilRow.named Rows.fnBoolAndNilSpec.vars) = true := by kernel_rfl
theorem FnBoolAndNil_k5 : ((Rows.fnBoolAndNilRow.stops == [])) = true := by kernel_rfl
theorem FnBoolAndNil_k7 : ((Rows.fnBoolAndNilRow.knobs == [])) = true := by kernel_rfl
theorem FnBoolAndNil_k9 : ((Rows.fnBoolAndNilRow.inPlace == Tryz.prog.inPlace 4)) = true := by kernel_rfl
theorem FnBoolAndNil_k10 : ((Rows.fnBoolAndNilRow.unfollowed == Tryz.prog.unfollowed 4)) = true := by kernel_rfl
theorem FnBoolAndNil_k11 : ((Rows.fnBoolAndNilRow.recurses == Tryz.prog.recurses 4)) = true := by kernel_rfl
theorem FnBoolAndNil_k12 : ((Rows.fnBoolAndNilRow.named == Tryz.prog.varsNamed 4)) = true := by kernel_rfl
theorem FnBoolAndNil_k13 : ((Rows.fnBoolAndNilRow.maps == (Tryz.f4.params.toList ++ Rows.fnBoolAndNilSpec.plain.varTypes Tryz.prog).any (Tryz.prog.mapsRec ·))) = true := by kernel_rfl
theorem FnBoolAndNil_k14 : ((Rows.fnBoolAndNilRow.ifaces == (Tryz.f4.params.toList ++ Rows.fnBoolAndNilSpec.plain.varTypes Tryz.prog).any (Tryz.prog.ifacesRec ·))) = true := by kernel_rfl
theorem FnBoolAndNil_k15 : ((Rows.fnBoolAndNilRow.mapsOut == Tryz.prog.mapsAmong Tryz.f4.resultTypes.toList)) = true := by kernel_rfl
theorem FnBoolAndNil_k16 : ((Rows.fnBoolAndNilRow.loops == (Tryz.f4.params.toList ++ Rows.fnBoolAndNilSpec.plain.varTypes Tryz.prog).any (Tryz.prog.loopsFrom ·))) = true := by kernel_rfl
theorem FnBoolAndNil_k17 : ((Rows.fnBoolAndNilRow.wideKeys == (Tryz.f4.params.toList ++ Rows.fnBoolAndNilSpec.plain.varTypes Tryz.prog ++ Tryz.f4.resultTypes.toList).any (Tryz.prog.wideKeysFrom ·))) = true := by kernel_rfl
theorem FnBoolAndNil_k18 : (Rows.fnBoolAndNilSpec.vars.all (Tryz.prog.varReadable ·)) = true := by kernel_rfl
theorem FnBoolAndNil_k19 : (Tryz.f4.resultTypes.all (fun t => Tryz.prog.readableRec t && decide (t < Tryz.prog.types.size))) = true := by kernel_rfl
theorem FnBoolAndNil_k20 : ((Rows.fnBoolAndNilRow.ifacesOut == Tryz.f4.resultTypes.toList.any (Tryz.prog.ifacesRec ·))) = true := by kernel_rfl
theorem FnBoolAndNil_k21 : ((Rows.fnBoolAndNilRow.loopsOut == Tryz.f4.resultTypes.toList.any (Tryz.prog.loopsFrom ·))) = true := by kernel_rfl
theorem FnBoolAndNil_k22 : ((Rows.fnBoolAndNilRow.plainKeys == Tryz.prog.plainKeys)) = true := fact22
theorem FnBoolAndNil_k23 : (Rows.fnBoolAndNilRow.shortTexts.isNone) = true := by kernel_rfl
theorem FnBoolAndNil_k26 : ((Rows.fnBoolAndNilRow.lifted == Tryz.prog.liftsFinal)) = true := fact26
theorem FnBoolAndNil_k27 : ((Tryz.prog.make == some Rows.fnBoolAndNilRow.make)) = true := fact27
theorem FnBoolAndNil_k28 : ((Rows.fnBoolAndNilRow.kinds == (if Rows.fnBoolAndNilRow.domain.isEmpty then [] else Tryz.f4.params.toList.map fun t => match Tryz.prog.underlying t with | some (.int k) => some k | _ => none))) = true := by kernel_rfl
theorem FnBoolAndNil_k29 : ((Rows.fnBoolAndNilRow.pinned == Rows.fnBoolAndNilRow.pinnedBy)) = true := by kernel_rfl
theorem FnBoolAndNil_k30 : ((Rows.fnBoolAndNilRow.veiled == (Tryz.f4.params.toList ++ Rows.fnBoolAndNilSpec.plain.varTypes Tryz.prog ++ Tryz.f4.resultTypes.toList).any (Tryz.prog.veiledRec ·))) = true := by kernel_rfl
theorem FnBoolAndNil_k31 : (Rows.fnBoolAndNilRow.veiledFits Tryz.prog Tryz.f4.params.toList (Tryz.f4.params.toList ++ Rows.fnBoolAndNilSpec.plain.varTypes Tryz.prog ++ Tryz.f4.resultTypes.toList)) = true := by kernel_rfl
set_option maxRecDepth 100000 in
theorem FnBoolAndNil_closed : joinedFacts Tryz.prog 4 Tryz.f4 Rows.fnBoolAndNilSpec Rows.fnBoolAndNilRow = true := by
  unfold joinedFacts
  exact both (both (both (both (both (both (both (both (both (both (both (both (both (both (both (both (both (both (both (both (both (both (both (both (both (both (both (both (both (both (both FnBoolAndNil_k0 fact1) fact2) FnBoolAndNil_k3) FnBoolAndNil_k4) FnBoolAndNil_k5) fact6) FnBoolAndNil_k7) fact8) FnBoolAndNil_k9) FnBoolAndNil_k10) FnBoolAndNil_k11) FnBoolAndNil_k12) FnBoolAndNil_k13) FnBoolAndNil_k14) FnBoolAndNil_k15) FnBoolAndNil_k16) FnBoolAndNil_k17) FnBoolAndNil_k18) FnBoolAndNil_k19) FnBoolAndNil_k20) FnBoolAndNil_k21) FnBoolAndNil_k22) FnBoolAndNil_k23) fact24) fact25) FnBoolAndNil_k26) FnBoolAndNil_k27) FnBoolAndNil_k28) FnBoolAndNil_k29) FnBoolAndNil_k30) FnBoolAndNil_k31

theorem u64_wf {n : Int} (h : (Lit.int .u64 n).wf = true) : 0 ≤ n ∧ n ≤ 18446744073709551615 := by
  simp only [Lit.wf, Bool.and_eq_true, decide_eq_true_eq] at h
  exact h
theorem i64_wf {n : Int} (h : (Lit.int .i64 n).wf = true) : -9223372036854775808 ≤ n ∧ n ≤ 9223372036854775807 := by
  simp only [Lit.wf, Bool.and_eq_true, decide_eq_true_eq] at h
  exact h

set_option maxRecDepth 100000 in
theorem FnBoolAndNil_lifted (os : Os) (started : os.Started) (H : Type) (enc : TypeId × Value → H) :
    ReturnsInHanded {} Tryz.checked os 4 .any (fun w args => (Rows.fnBoolAndNilSpec.pre enc Tryz.prog Tryz.f4 Rows.fnBoolAndNilRow.domain false w args ∧ laidMetH Tryz.prog Rows.fnBoolAndNilRow.laid w) ∧ sizedMet enc Tryz.prog Tryz.f4 (OpenSpec.ofChange Rows.fnBoolAndNilSpec) false w args)
      (Rows.fnBoolAndNilSpec.post enc Tryz.prog Tryz.f4 false true false false) := by
  refine returnsInHanded_of_change_and (C := Tryz.checked) (X := fun w _ => laidMetH Tryz.prog Rows.fnBoolAndNilRow.laid w) (fun _ _ _ hh h => h.of_heap hh) ownNone started (by kernel_rfl) Tryz.func4
    (ChangeSpec.witness_shaped (enc := enc) (C := Tryz.checked) (os := os) (X := fun w _ => laidMetH Tryz.prog Rows.fnBoolAndNilRow.laid w) false (World.laidAll Tryz.prog os Rows.fnBoolAndNilRow.laid) #[.int .u64 0, .bool false, .bool false, .int .i64 0] 8 (World.laidAll_os _ _ _)
      (World.shaped_of_ZipB (by kernel_rfl) (by kernel_rfl)) (by kernel_rfl) (by kernel_rfl) (by kernel_rfl)
      (by rw [MakeChecks.laidMetH_plain _ _ _ (by kernel_rfl)]; exact laidMet_laidAll _ (by kernel_rfl) (by kernel_rfl))) ?_
  intro W base args ds gs before hval0 hW hc _ hL _
  have hval : ∀ (j : Nat) t v, Tryz.f4.params[j]? = some t → args[j]? = some v → Value.okWide Tryz.prog W .any base t v := hval0
  have hW' := hW
  obtain ⟨p, q, hA0, hV, rfl, _, _⟩ := hW
  have hA : DataW.TrodAll enc Tryz.prog W 0 (fun _ => true) true Tryz.f4.params.toList args.toList ds p := hA0
  rw [Tryz.params4] at hA hval
  obtain ⟨v0, v1, v2, v3, d0, d1, d2, d3, p0, p1, p2, p3, rfl, rfl, rfl, g0, g1, g2, g3⟩ := trodAll_four hA
  obtain ⟨rfl, rfl⟩ := trodVars_none hV
  obtain ⟨B, rfl, rfl, rfl, wB⟩ := open_int Tryz.underlying22 (hval 0 22 v0 rfl rfl) g0
  obtain ⟨y, rfl, rfl, rfl⟩ := open_bool Tryz.underlying4 (hval 1 4 v1 rfl rfl) g1
  obtain ⟨m, rfl, rfl, rfl⟩ := open_bool Tryz.underlying4 (hval 2 4 v2 rfl rfl) g2
  obtain ⟨wid, rfl, rfl, rfl, wW⟩ := open_int Tryz.underlying3 (hval 3 3 v3 rfl rfl) g3
  clear hA0 hval0
  simp only [List.append_nil] at hW'
  have bB := u64_wf wB
  have bW := i64_wf wW
  refine (FnBoolAndNil_walk B bB.1 bB.2 y m wid bW.1 bW.2 W).mono fun e W' ⟨he, hB⟩ => ?_
  subst he
  exact ⟨_, rfl, ⟨_, _, _, [], _, [], hW', trodAll_mk1 (shut_bool Tryz.underlying4 _), trodAll_mk4 (shut_int Tryz.underlying22 wB) (shut_bool Tryz.underlying4 _) (shut_bool Tryz.underlying4 _) (shut_int Tryz.underlying3 wW), rfl, hB.frame _, fun h => by cases h⟩⟩

theorem FnBoolAndNil_holds : Rows.FnBoolAndNilSaid :=
  OpenClaim.holds_of_wide 4 Tryz.f4 rfl rfl rfl rfl rfl rfl rfl ⟨rfl, rfl, rfl, rfl, rfl⟩ rfl rfl rfl rfl rfl (by kernel_rfl) Tryz.func4 FnBoolAndNil_closed
    (of_decide_eq_true (by kernel_rfl)) (by unfold Func.isWrapper; first | (rw [if_pos (by decide +kernel)]; kernel_rfl) | (rw [if_neg (by decide +kernel)]; exact ⟨rfl, rfl⟩))
    (fun os started H enc _ => FnBoolAndNil_lifted os started H enc)
theorem FnBoolAndNil_wf : Rows.fnBoolAndNilRow.wfByText (OpenSpec.ofChange Rows.fnBoolAndNilSpec) = true := by kernel_rfl
theorem FnBoolAndNil_goes : false = Rows.fnBoolAndNilRow.goesBy Tryz.pinned.checked.prog := by kernel_rfl
theorem FnBoolAndNil_named : Tryz.prog.funcNamed "formatsandarguments/laws.FnBoolAndNil" = some 4 := by kernel_rfl
theorem fnBoolAndNil_card : Rows.FnBoolAndNilCardSaid :=
  Claim7.holds_tied_plain_at .later [] [.data, .data, .data, .data, .data, .pinned, .pinned, .pinned, .pinned, .pinned, .pinned, .pinned, .pinned] true (true, "7f732fa8c297b9e8321412a2cb319e2469d01ba116e7aee49c0bfa03d1025942") true
    FnBoolAndNil_holds (fun _ h => by cases h) FnBoolAndNil_wf (fun _ h => by cases h) fnBoolAndNil_row_tie rfl ⟨rfl, rfl⟩ factMain rfl
    (fun f fn hf hfn => by
      obtain rfl : f = 4 := Option.some.inj (FnBoolAndNil_named.symm.trans hf) |>.symm
      obtain rfl : fn = Tryz.f4 := (Option.some.inj (Tryz.func4.symm.trans hfn)).symm
      exact ⟨factLooks, fun j t ht => by
        rw [Tryz.params4] at ht
        have hm : t ∈ [22, 4, 4, 3] := by simpa using Array.mem_of_getElem? ht
        have hall : ([22, 4, 4, 3].all fun u => !Tryz.prog.wantsStandIn u) = true := by kernel_rfl
        exact (show Tryz.prog.wantsStandIn t = false by simpa using List.all_eq_true.1 hall t hm)⟩)
    FnBoolAndNil_goes
#print axioms fnBoolAndNil_card

end Go.Proofs.YtcbliojofnigdaaGreatDoor
