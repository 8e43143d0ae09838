/- FnTextsStay: whatever the text, the law answers true and the text reads as it did, where the listed tables are as the program's text lays them: the row, and the tied card. -/
import Derived.Test.YtcbliojofnigdaaGreatDoorCards
import Derived.Test.YtcbliojofnigdaaGreatDoorTie
import Derived.Test.YtcbliojofnigdaaGreatDoorCardBase
import Derived.Test.YtcbliojofnigdaaGreatDoorLawTexts
import Derived.ProofKit
import Derived.OpenShut
import Derived.ChangeMaps5
import Derived.LaidMore
import Derived.Lay
import Derived.SevenTiedAt
import Derived.Stop.Joined
namespace Go.Proofs.YtcbliojofnigdaaGreatDoor
open Go Go.ChangeShapes Go.WideShapes Go.ChangeAt Go.RowKit

theorem FnTextsStay_k0 : (Rows.fnTextsStayRow.wf (OpenSpec.ofChange Rows.fnTextsStaySpec)) = true := by kernel_rfl
theorem FnTextsStay_k3 : (Tryz.f13.params.all (Tryz.prog.readableRec ·)) = true := by kernel_rfl
theorem FnTextsStay_k4 : (namedTie Tryz.prog Rows.fnTextsStayRow.named Rows.fnTextsStaySpec.vars) = true := by kernel_rfl
theorem FnTextsStay_k5 : ((Rows.fnTextsStayRow.stops == [])) = true := by kernel_rfl
theorem FnTextsStay_k7 : ((Rows.fnTextsStayRow.knobs == [])) = true := by kernel_rfl
theorem FnTextsStay_k9 : ((Rows.fnTextsStayRow.inPlace == Tryz.prog.inPlace 13)) = true := by kernel_rfl
theorem FnTextsStay_k10 : ((Rows.fnTextsStayRow.unfollowed == Tryz.prog.unfollowed 13)) = true := by kernel_rfl
theorem FnTextsStay_k11 : ((Rows.fnTextsStayRow.recurses == Tryz.prog.recurses 13)) = true := by kernel_rfl
theorem FnTextsStay_k12 : ((Rows.fnTextsStayRow.named == Tryz.prog.varsNamed 13)) = true := by kernel_rfl
theorem FnTextsStay_k13 : ((Rows.fnTextsStayRow.maps == (Tryz.f13.params.toList ++ Rows.fnTextsStaySpec.plain.varTypes Tryz.prog).any (Tryz.prog.mapsRec ·))) = true := by kernel_rfl
theorem FnTextsStay_k14 : ((Rows.fnTextsStayRow.ifaces == (Tryz.f13.params.toList ++ Rows.fnTextsStaySpec.plain.varTypes Tryz.prog).any (Tryz.prog.ifacesRec ·))) = true := by kernel_rfl
theorem FnTextsStay_k15 : ((Rows.fnTextsStayRow.mapsOut == Tryz.prog.mapsAmong Tryz.f13.resultTypes.toList)) = true := by kernel_rfl
theorem FnTextsStay_k16 : ((Rows.fnTextsStayRow.loops == (Tryz.f13.params.toList ++ Rows.fnTextsStaySpec.plain.varTypes Tryz.prog).any (Tryz.prog.loopsFrom ·))) = true := by kernel_rfl
theorem FnTextsStay_k17 : ((Rows.fnTextsStayRow.wideKeys == (Tryz.f13.params.toList ++ Rows.fnTextsStaySpec.plain.varTypes Tryz.prog ++ Tryz.f13.resultTypes.toList).any (Tryz.prog.wideKeysFrom ·))) = true := by kernel_rfl
theorem FnTextsStay_k18 : (Rows.fnTextsStaySpec.vars.all (Tryz.prog.varReadable ·)) = true := by kernel_rfl
theorem FnTextsStay_k19 : (Tryz.f13.resultTypes.all (fun t => Tryz.prog.readableRec t && decide (t < Tryz.prog.types.size))) = true := by kernel_rfl
theorem FnTextsStay_k20 : ((Rows.fnTextsStayRow.ifacesOut == Tryz.f13.resultTypes.toList.any (Tryz.prog.ifacesRec ·))) = true := by kernel_rfl
theorem FnTextsStay_k21 : ((Rows.fnTextsStayRow.loopsOut == Tryz.f13.resultTypes.toList.any (Tryz.prog.loopsFrom ·))) = true := by kernel_rfl
theorem FnTextsStay_k22 : ((Rows.fnTextsStayRow.plainKeys == Tryz.prog.plainKeys)) = true := fact22
theorem FnTextsStay_k23 : (Rows.fnTextsStayRow.shortTexts.isNone) = true := by kernel_rfl
theorem FnTextsStay_k26 : ((Rows.fnTextsStayRow.lifted == Tryz.prog.liftsFinal)) = true := fact26
theorem FnTextsStay_k27 : ((Tryz.prog.make == some Rows.fnTextsStayRow.make)) = true := fact27
theorem FnTextsStay_k28 : ((Rows.fnTextsStayRow.kinds == (if Rows.fnTextsStayRow.domain.isEmpty then [] else Tryz.f13.params.toList.map fun t => match Tryz.prog.underlying t with | some (.int k) => some k | _ => none))) = true := by kernel_rfl
theorem FnTextsStay_k29 : ((Rows.fnTextsStayRow.pinned == Rows.fnTextsStayRow.pinnedBy)) = true := by kernel_rfl
theorem FnTextsStay_k30 : ((Rows.fnTextsStayRow.veiled == (Tryz.f13.params.toList ++ Rows.fnTextsStaySpec.plain.varTypes Tryz.prog ++ Tryz.f13.resultTypes.toList).any (Tryz.prog.veiledRec ·))) = true := by kernel_rfl
theorem FnTextsStay_k31 : (Rows.fnTextsStayRow.veiledFits Tryz.prog Tryz.f13.params.toList (Tryz.f13.params.toList ++ Rows.fnTextsStaySpec.plain.varTypes Tryz.prog ++ Tryz.f13.resultTypes.toList)) = true := by kernel_rfl
set_option maxRecDepth 100000 in
theorem FnTextsStay_closed : joinedFacts Tryz.prog 13 Tryz.f13 Rows.fnTextsStaySpec Rows.fnTextsStayRow = true := by
  unfold joinedFacts
  exact both (both (both (both (both (both (both (both (both (both (both (both (both (both (both (both (both (both (both (both (both (both (both (both (both (both (both (both (both (both (both FnTextsStay_k0 fact1) fact2) FnTextsStay_k3) FnTextsStay_k4) FnTextsStay_k5) fact6) FnTextsStay_k7) fact8) FnTextsStay_k9) FnTextsStay_k10) FnTextsStay_k11) FnTextsStay_k12) FnTextsStay_k13) FnTextsStay_k14) FnTextsStay_k15) FnTextsStay_k16) FnTextsStay_k17) FnTextsStay_k18) FnTextsStay_k19) FnTextsStay_k20) FnTextsStay_k21) FnTextsStay_k22) FnTextsStay_k23) fact24) fact25) FnTextsStay_k26) FnTextsStay_k27) FnTextsStay_k28) FnTextsStay_k29) FnTextsStay_k30) FnTextsStay_k31


set_option maxRecDepth 100000 in
theorem FnTextsStay_lifted (os : Os) (started : os.Started) (H : Type) (enc : TypeId × Value → H) :
    ReturnsInHanded {} Tryz.checked os 13 .any (fun w args => (Rows.fnTextsStaySpec.pre enc Tryz.prog Tryz.f13 Rows.fnTextsStayRow.domain false w args ∧ laidMetH Tryz.prog Rows.fnTextsStayRow.laid w) ∧ sizedMet enc Tryz.prog Tryz.f13 (OpenSpec.ofChange Rows.fnTextsStaySpec) false w args)
      (Rows.fnTextsStaySpec.post enc Tryz.prog Tryz.f13 false true false false) := by
  refine returnsInHanded_of_change_and (C := Tryz.checked) (X := fun w _ => laidMetH Tryz.prog Rows.fnTextsStayRow.laid w) (fun _ _ _ hh h => h.of_heap hh) ownNone started (by kernel_rfl) Tryz.func13
    (ChangeSpec.witness_shaped (enc := enc) (C := Tryz.checked) (os := os) (X := fun w _ => laidMetH Tryz.prog Rows.fnTextsStayRow.laid w) false (World.laidAll Tryz.prog os Rows.fnTextsStayRow.laid) #[.string ⟨#[]⟩] 8 (World.laidAll_os _ _ _)
      (World.shaped_of_ZipB (by kernel_rfl) (by kernel_rfl)) (by kernel_rfl) (by kernel_rfl) (by kernel_rfl)
      (by rw [MakeChecks.laidMetH_plain _ _ _ (by kernel_rfl)]; exact laidMet_laidAll _ (by kernel_rfl) (by kernel_rfl))) ?_
  intro W base args ds gs before hval0 hW hc _ hL _
  have hval : ∀ (j : Nat) t v, Tryz.f13.params[j]? = some t → args[j]? = some v → Value.okWide Tryz.prog W .any base t v := hval0
  have hW' := hW
  obtain ⟨p, q, hA0, hV, rfl, _, _⟩ := hW
  have hA : DataW.TrodAll enc Tryz.prog W 0 (fun _ => true) true Tryz.f13.params.toList args.toList ds p := hA0
  rw [Tryz.params13] at hA hval
  obtain ⟨v0, d0, rfl, rfl, h0⟩ := trodAll_one hA
  obtain ⟨rfl, rfl⟩ := trodVars_none hV
  obtain ⟨s, rfl, rfl, rfl, hs⟩ := Go.ChangeMaps.open_string Tryz.underlying9 (hval 0 9 v0 rfl rfl) h0
  clear hA0 hval0
  simp only [List.append_nil] at hW'
  refine (FnTextsStay_walk W s hs).mono fun e W' ⟨he, hB⟩ => ?_
  subst he
  exact ⟨_, rfl, ⟨_, _, _, [], _, [], hW', trodAll_mk1 (shut_bool Tryz.underlying4 _), trodAll_mk1 (Go.ChangeMaps.shut_string Tryz.underlying9 hs), rfl, hB.frame _, fun h => by cases h⟩⟩

theorem FnTextsStay_holds : Rows.FnTextsStaySaid :=
  OpenClaim.holds_of_wide 13 Tryz.f13 rfl rfl rfl rfl rfl rfl rfl ⟨rfl, rfl, rfl, rfl, rfl⟩ rfl rfl rfl rfl rfl (by kernel_rfl) Tryz.func13 FnTextsStay_closed
    (of_decide_eq_true (by kernel_rfl)) (by unfold Func.isWrapper; first | (rw [if_pos (by decide +kernel)]; kernel_rfl) | (rw [if_neg (by decide +kernel)]; exact ⟨rfl, rfl⟩))
    (fun os started H enc _ => FnTextsStay_lifted os started H enc)
theorem FnTextsStay_wf : Rows.fnTextsStayRow.wfByText (OpenSpec.ofChange Rows.fnTextsStaySpec) = true := by kernel_rfl
theorem FnTextsStay_goes : false = Rows.fnTextsStayRow.goesBy Tryz.pinned.checked.prog := by kernel_rfl
theorem FnTextsStay_named : Tryz.prog.funcNamed "formatsandarguments/laws.FnTextsStay" = some 13 := by kernel_rfl
theorem fnTextsStay_card : Rows.FnTextsStayCardSaid :=
  Claim7.holds_tied_plain_at .later [] [.data, .data, .data, .data, .data, .pinned, .pinned, .pinned, .pinned, .pinned, .pinned, .pinned, .pinned] true (true, "7f732fa8c297b9e8321412a2cb319e2469d01ba116e7aee49c0bfa03d1025942") true
    FnTextsStay_holds (fun _ h => by cases h) FnTextsStay_wf (fun _ h => by cases h) fnTextsStay_row_tie rfl ⟨rfl, rfl⟩ factMain rfl
    (fun f fn hf hfn => by
      obtain rfl : f = 13 := Option.some.inj (FnTextsStay_named.symm.trans hf) |>.symm
      obtain rfl : fn = Tryz.f13 := (Option.some.inj (Tryz.func13.symm.trans hfn)).symm
      exact ⟨factLooks, fun j t ht => by
        rw [Tryz.params13] at ht
        have hm : t ∈ [9] := by simpa using Array.mem_of_getElem? ht
        have hall : ([9].all fun u => !Tryz.prog.wantsStandIn u) = true := by kernel_rfl
        exact (show Tryz.prog.wantsStandIn t = false by simpa using List.all_eq_true.1 hall t hm)⟩)
    FnTextsStay_goes
#print axioms fnTextsStay_card

end Go.Proofs.YtcbliojofnigdaaGreatDoor
