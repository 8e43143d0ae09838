/- FnBytesList: whatever the text and the verb, the law answers true and all reads as it did, where the listed tables are as the program's text lays them: the row, and the tied card. -/
import Derived.Test.YtcbliojofnigdaaGreatDoorCards
import Derived.Test.YtcbliojofnigdaaGreatDoorTie
import Derived.Test.YtcbliojofnigdaaGreatDoorCardBase
import Derived.Test.YtcbliojofnigdaaGreatDoorLawBytes
import Derived.ProofKit
import Derived.OpenShut
import Derived.ChangeMaps5
import Derived.Carry
import Derived.LaidMore
import Derived.Lay
import Derived.SevenTiedAt
import Derived.Lib.SmallJoins
import Derived.Stop.Joined
namespace Go.Proofs.YtcbliojofnigdaaGreatDoor
open Go Go.ChangeShapes Go.WideShapes Go.ChangeAt Go.RowKit

theorem FnBytesList_k0 : (Rows.fnBytesListRow.wf (OpenSpec.ofChange Rows.fnBytesListSpec)) = true := by kernel_rfl
theorem FnBytesList_k3 : (Tryz.f5.params.all (Tryz.prog.readableRec ·)) = true := by kernel_rfl
theorem FnBytesList_k4 : (namedTie Tryz.prog Rows.fnBytesListRow.named Rows.fnBytesListSpec.vars) = true := by kernel_rfl
theorem FnBytesList_k5 : ((Rows.fnBytesListRow.stops == [])) = true := by kernel_rfl
theorem FnBytesList_k7 : ((Rows.fnBytesListRow.knobs == [])) = true := by kernel_rfl
theorem FnBytesList_k9 : ((Rows.fnBytesListRow.inPlace == Tryz.prog.inPlace 5)) = true := by kernel_rfl
theorem FnBytesList_k10 : ((Rows.fnBytesListRow.unfollowed == Tryz.prog.unfollowed 5)) = true := by kernel_rfl
theorem FnBytesList_k11 : ((Rows.fnBytesListRow.recurses == Tryz.prog.recurses 5)) = true := by kernel_rfl
theorem FnBytesList_k12 : ((Rows.fnBytesListRow.named == Tryz.prog.varsNamed 5)) = true := by kernel_rfl
theorem FnBytesList_k13 : ((Rows.fnBytesListRow.maps == (Tryz.f5.params.toList ++ Rows.fnBytesListSpec.plain.varTypes Tryz.prog).any (Tryz.prog.mapsRec ·))) = true := by kernel_rfl
theorem FnBytesList_k14 : ((Rows.fnBytesListRow.ifaces == (Tryz.f5.params.toList ++ Rows.fnBytesListSpec.plain.varTypes Tryz.prog).any (Tryz.prog.ifacesRec ·))) = true := by kernel_rfl
theorem FnBytesList_k15 : ((Rows.fnBytesListRow.mapsOut == Tryz.prog.mapsAmong Tryz.f5.resultTypes.toList)) = true := by kernel_rfl
theorem FnBytesList_k16 : ((Rows.fnBytesListRow.loops == (Tryz.f5.params.toList ++ Rows.fnBytesListSpec.plain.varTypes Tryz.prog).any (Tryz.prog.loopsFrom ·))) = true := by kernel_rfl
theorem FnBytesList_k17 : ((Rows.fnBytesListRow.wideKeys == (Tryz.f5.params.toList ++ Rows.fnBytesListSpec.plain.varTypes Tryz.prog ++ Tryz.f5.resultTypes.toList).any (Tryz.prog.wideKeysFrom ·))) = true := by kernel_rfl
theorem FnBytesList_k18 : (Rows.fnBytesListSpec.vars.all (Tryz.prog.varReadable ·)) = true := by kernel_rfl
theorem FnBytesList_k19 : (Tryz.f5.resultTypes.all (fun t => Tryz.prog.readableRec t && decide (t < Tryz.prog.types.size))) = true := by kernel_rfl
theorem FnBytesList_k20 : ((Rows.fnBytesListRow.ifacesOut == Tryz.f5.resultTypes.toList.any (Tryz.prog.ifacesRec ·))) = true := by kernel_rfl
theorem FnBytesList_k21 : ((Rows.fnBytesListRow.loopsOut == Tryz.f5.resultTypes.toList.any (Tryz.prog.loopsFrom ·))) = true := by kernel_rfl
theorem FnBytesList_k22 : ((Rows.fnBytesListRow.plainKeys == Tryz.prog.plainKeys)) = true := fact22
theorem FnBytesList_k23 : (Rows.fnBytesListRow.shortTexts.isNone) = true := by kernel_rfl
theorem FnBytesList_k26 : ((Rows.fnBytesListRow.lifted == Tryz.prog.liftsFinal)) = true := fact26
theorem FnBytesList_k27 : ((Tryz.prog.make == some Rows.fnBytesListRow.make)) = true := fact27
theorem FnBytesList_k28 : ((Rows.fnBytesListRow.kinds == (if Rows.fnBytesListRow.domain.isEmpty then [] else Tryz.f5.params.toList.map fun t => match Tryz.prog.underlying t with | some (.int k) => some k | _ => none))) = true := by kernel_rfl
theorem FnBytesList_k29 : ((Rows.fnBytesListRow.pinned == Rows.fnBytesListRow.pinnedBy)) = true := by kernel_rfl
theorem FnBytesList_k30 : ((Rows.fnBytesListRow.veiled == (Tryz.f5.params.toList ++ Rows.fnBytesListSpec.plain.varTypes Tryz.prog ++ Tryz.f5.resultTypes.toList).any (Tryz.prog.veiledRec ·))) = true := by kernel_rfl
theorem FnBytesList_k31 : (Rows.fnBytesListRow.veiledFits Tryz.prog Tryz.f5.params.toList (Tryz.f5.params.toList ++ Rows.fnBytesListSpec.plain.varTypes Tryz.prog ++ Tryz.f5.resultTypes.toList)) = true := by kernel_rfl
set_option maxRecDepth 100000 in
theorem FnBytesList_closed : joinedFacts Tryz.prog 5 Tryz.f5 Rows.fnBytesListSpec Rows.fnBytesListRow = true := by
  unfold joinedFacts
  exact both (both (both (both (both (both (both (both (both (both (both (both (both (both (both (both (both (both (both (both (both (both (both (both (both (both (both (both (both (both (both FnBytesList_k0 fact1) fact2) FnBytesList_k3) FnBytesList_k4) FnBytesList_k5) fact6) FnBytesList_k7) fact8) FnBytesList_k9) FnBytesList_k10) FnBytesList_k11) FnBytesList_k12) FnBytesList_k13) FnBytesList_k14) FnBytesList_k15) FnBytesList_k16) FnBytesList_k17) FnBytesList_k18) FnBytesList_k19) FnBytesList_k20) FnBytesList_k21) FnBytesList_k22) FnBytesList_k23) fact24) fact25) FnBytesList_k26) FnBytesList_k27) FnBytesList_k28) FnBytesList_k29) FnBytesList_k30) FnBytesList_k31

theorem FnBytesList_u64 {n : Int} (h : (Lit.int .u64 n).wf = true) : 0 ≤ n ∧ n ≤ 18446744073709551615 := by
  simp only [Lit.wf, Bool.and_eq_true, decide_eq_true_eq] at h
  exact h
theorem FnBytesList_cells24 : Tryz.prog.cellsOf 24 = 3 := by kernel_rfl

set_option maxRecDepth 100000 in
theorem FnBytesList_lifted (os : Os) (started : os.Started) (H : Type) (enc : TypeId × Value → H) :
    ReturnsInHanded {} Tryz.checked os 5 .any (fun w args => (Rows.fnBytesListSpec.pre enc Tryz.prog Tryz.f5 Rows.fnBytesListRow.domain false w args ∧ laidMetH Tryz.prog Rows.fnBytesListRow.laid w) ∧ sizedMet enc Tryz.prog Tryz.f5 (OpenSpec.ofChange Rows.fnBytesListSpec) false w args)
      (Rows.fnBytesListSpec.post enc Tryz.prog Tryz.f5 false true false false) := by
  refine returnsInHanded_of_change_and (C := Tryz.checked) (X := fun w _ => laidMetH Tryz.prog Rows.fnBytesListRow.laid w) (fun _ _ _ hh h => h.of_heap hh) ownNone started (by kernel_rfl) Tryz.func5
    (ChangeSpec.witness_shaped (enc := enc) (C := Tryz.checked) (os := os) (X := fun w _ => laidMetH Tryz.prog Rows.fnBytesListRow.laid w) false (World.laidAll Tryz.prog os Rows.fnBytesListRow.laid) #[.string ⟨#[]⟩, .bool false] 8 (World.laidAll_os _ _ _)
      (World.shaped_of_ZipB (by kernel_rfl) (by kernel_rfl)) (by kernel_rfl) (by kernel_rfl) (by kernel_rfl)
      (by rw [MakeChecks.laidMetH_plain _ _ _ (by kernel_rfl)]; exact laidMet_laidAll _ (by kernel_rfl) (by kernel_rfl))) ?_
  intro W base args ds gs before hval0 hW hc _ hL _
  have hval : ∀ (j : Nat) t v, Tryz.f5.params[j]? = some t → args[j]? = some v → Value.okWide Tryz.prog W .any base t v := hval0
  have hW' := hW
  obtain ⟨p, q, hA0, hV, rfl, _, _⟩ := hW
  have hA : DataW.TrodAll enc Tryz.prog W 0 (fun _ => true) true Tryz.f5.params.toList args.toList ds p := hA0
  rw [Tryz.params5] at hA hval
  obtain ⟨v0, v1, d0, d1, p0, p1, rfl, rfl, rfl, g0, g1⟩ := trodAll_two hA
  obtain ⟨rfl, rfl⟩ := trodVars_none hV
  obtain ⟨x0, rfl, rfl, rfl, w0⟩ := Go.ChangeMaps.open_string Tryz.underlying9 (hval 0 9 v0 rfl rfl) g0
  obtain ⟨x1, rfl, rfl, rfl⟩ := open_bool Tryz.underlying4 (hval 1 4 v1 rfl rfl) g1
  clear hA0 hval0
  simp only [List.append_nil] at hW'
  refine (FnBytesList_walk x0 w0 x1 W).mono fun e W' ⟨he, hB⟩ => ?_
  subst he
  exact ⟨_, rfl, ⟨_, _, _, [], _, [], hW', trodAll_mk1 (shut_bool Tryz.underlying4 _), trodAll_mk2 (Go.ChangeMaps.shut_string Tryz.underlying9 w0) (shut_bool Tryz.underlying4 _), rfl, hB.frame _, fun h => by cases h⟩⟩

theorem FnBytesList_holds : Rows.FnBytesListSaid :=
  OpenClaim.holds_of_wide 5 Tryz.f5 rfl rfl rfl rfl rfl rfl rfl ⟨rfl, rfl, rfl, rfl, rfl⟩ rfl rfl rfl rfl rfl (by kernel_rfl) Tryz.func5 FnBytesList_closed
    (of_decide_eq_true (by kernel_rfl)) (by unfold Func.isWrapper; first | (rw [if_pos (by decide +kernel)]; kernel_rfl) | (rw [if_neg (by decide +kernel)]; exact ⟨rfl, rfl⟩))
    (fun os started H enc _ => FnBytesList_lifted os started H enc)
theorem FnBytesList_wf : Rows.fnBytesListRow.wfByText (OpenSpec.ofChange Rows.fnBytesListSpec) = true := by kernel_rfl
theorem FnBytesList_goes : false = Rows.fnBytesListRow.goesBy Tryz.pinned.checked.prog := by kernel_rfl
theorem FnBytesList_named : Tryz.prog.funcNamed "formatsandarguments/laws.FnBytesList" = some 5 := by kernel_rfl
theorem fnBytesList_card : Rows.FnBytesListCardSaid :=
  Claim7.holds_tied_plain_at .later [] [.data, .data, .data, .data, .data, .pinned, .pinned, .pinned, .pinned, .pinned, .pinned, .pinned, .pinned] true (true, "7f732fa8c297b9e8321412a2cb319e2469d01ba116e7aee49c0bfa03d1025942") true
    FnBytesList_holds (fun _ h => by cases h) FnBytesList_wf (fun _ h => by cases h) fnBytesList_row_tie rfl ⟨rfl, rfl⟩ factMain rfl
    (fun f fn hf hfn => by
      obtain rfl : f = 5 := Option.some.inj (FnBytesList_named.symm.trans hf) |>.symm
      obtain rfl : fn = Tryz.f5 := (Option.some.inj (Tryz.func5.symm.trans hfn)).symm
      exact ⟨factLooks, fun j t ht => by
        rw [Tryz.params5] at ht
        have hm : t ∈ [9, 4] := by simpa using Array.mem_of_getElem? ht
        have hall : ([9, 4].all fun u => !Tryz.prog.wantsStandIn u) = true := by kernel_rfl
        exact (show Tryz.prog.wantsStandIn t = false by simpa using List.all_eq_true.1 hall t hm)⟩)
    FnBytesList_goes
#print axioms fnBytesList_card

end Go.Proofs.YtcbliojofnigdaaGreatDoor
