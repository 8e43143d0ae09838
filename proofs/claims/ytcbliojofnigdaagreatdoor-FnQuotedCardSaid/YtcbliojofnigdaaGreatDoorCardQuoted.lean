/- FnQuoted: whatever the text and the kind, the law answers true and all reads as it did, where the listed tables are as the program's text lays them: the row, and the tied card. -/
import Derived.Test.YtcbliojofnigdaaGreatDoorCards
import Derived.Test.YtcbliojofnigdaaGreatDoorTie
import Derived.Test.YtcbliojofnigdaaGreatDoorCardBase
import Derived.Test.YtcbliojofnigdaaGreatDoorLawQuoted
import Derived.Test.YtcbliojofnigdaaGreatDoorTabsQ
import Derived.ProofKit
import Derived.OpenShut
import Derived.ChangeMaps5
import Derived.Carry
import Derived.LaidMore
import Derived.Lay
import Derived.SevenTiedAt
import Derived.Lib.SmallJoins
import Derived.Stop.Joined
set_option linter.unusedVariables false
set_option linter.unusedSimpArgs false
namespace Go.Proofs.YtcbliojofnigdaaGreatDoor
open Go Go.ChangeShapes Go.WideShapes Go.ChangeAt Go.RowKit

theorem FnQuoted_k0 : (Rows.fnQuotedRow.wf (OpenSpec.ofChange Rows.fnQuotedSpec)) = true := by kernel_rfl
theorem FnQuoted_k3 : (Tryz.f11.params.all (Tryz.prog.readableRec ·)) = true := by kernel_rfl
theorem FnQuoted_k4 : (namedTie Tryz.prog Rows.fnQuotedRow.named Rows.fnQuotedSpec.vars) = true := by kernel_rfl
theorem FnQuoted_k5 : ((Rows.fnQuotedRow.stops == [])) = true := by kernel_rfl
theorem FnQuoted_k7 : ((Rows.fnQuotedRow.knobs == [])) = true := by kernel_rfl
theorem FnQuoted_k9 : ((Rows.fnQuotedRow.inPlace == Tryz.prog.inPlace 11)) = true := by kernel_rfl
theorem FnQuoted_k10 : ((Rows.fnQuotedRow.unfollowed == Tryz.prog.unfollowed 11)) = true := by kernel_rfl
theorem FnQuoted_k11 : ((Rows.fnQuotedRow.recurses == Tryz.prog.recurses 11)) = true := by kernel_rfl
theorem FnQuoted_k12 : ((Rows.fnQuotedRow.named == Tryz.prog.varsNamed 11)) = true := by kernel_rfl
theorem FnQuoted_k13 : ((Rows.fnQuotedRow.maps == (Tryz.f11.params.toList ++ Rows.fnQuotedSpec.plain.varTypes Tryz.prog).any (Tryz.prog.mapsRec ·))) = true := by kernel_rfl
theorem FnQuoted_k14 : ((Rows.fnQuotedRow.ifaces == (Tryz.f11.params.toList ++ Rows.fnQuotedSpec.plain.varTypes Tryz.prog).any (Tryz.prog.ifacesRec ·))) = true := by kernel_rfl
theorem FnQuoted_k15 : ((Rows.fnQuotedRow.mapsOut == Tryz.prog.mapsAmong Tryz.f11.resultTypes.toList)) = true := by kernel_rfl
theorem FnQuoted_k16 : ((Rows.fnQuotedRow.loops == (Tryz.f11.params.toList ++ Rows.fnQuotedSpec.plain.varTypes Tryz.prog).any (Tryz.prog.loopsFrom ·))) = true := by kernel_rfl
theorem FnQuoted_k17 : ((Rows.fnQuotedRow.wideKeys == (Tryz.f11.params.toList ++ Rows.fnQuotedSpec.plain.varTypes Tryz.prog ++ Tryz.f11.resultTypes.toList).any (Tryz.prog.wideKeysFrom ·))) = true := by kernel_rfl
theorem FnQuoted_k18 : (Rows.fnQuotedSpec.vars.all (Tryz.prog.varReadable ·)) = true := by kernel_rfl
theorem FnQuoted_k19 : (Tryz.f11.resultTypes.all (fun t => Tryz.prog.readableRec t && decide (t < Tryz.prog.types.size))) = true := by kernel_rfl
theorem FnQuoted_k20 : ((Rows.fnQuotedRow.ifacesOut == Tryz.f11.resultTypes.toList.any (Tryz.prog.ifacesRec ·))) = true := by kernel_rfl
theorem FnQuoted_k21 : ((Rows.fnQuotedRow.loopsOut == Tryz.f11.resultTypes.toList.any (Tryz.prog.loopsFrom ·))) = true := by kernel_rfl
theorem FnQuoted_k22 : ((Rows.fnQuotedRow.plainKeys == Tryz.prog.plainKeys)) = true := fact22
theorem FnQuoted_k23 : (Rows.fnQuotedRow.shortTexts.isNone) = true := by kernel_rfl
theorem FnQuoted_k26 : ((Rows.fnQuotedRow.lifted == Tryz.prog.liftsFinal)) = true := fact26
theorem FnQuoted_k27 : ((Tryz.prog.make == some Rows.fnQuotedRow.make)) = true := fact27
theorem FnQuoted_k28 : ((Rows.fnQuotedRow.kinds == (if Rows.fnQuotedRow.domain.isEmpty then [] else Tryz.f11.params.toList.map fun t => match Tryz.prog.underlying t with | some (.int k) => some k | _ => none))) = true := by kernel_rfl
theorem FnQuoted_k29 : ((Rows.fnQuotedRow.pinned == Rows.fnQuotedRow.pinnedBy)) = true := by kernel_rfl
theorem FnQuoted_k30 : ((Rows.fnQuotedRow.veiled == (Tryz.f11.params.toList ++ Rows.fnQuotedSpec.plain.varTypes Tryz.prog ++ Tryz.f11.resultTypes.toList).any (Tryz.prog.veiledRec ·))) = true := by kernel_rfl
theorem FnQuoted_k31 : (Rows.fnQuotedRow.veiledFits Tryz.prog Tryz.f11.params.toList (Tryz.f11.params.toList ++ Rows.fnQuotedSpec.plain.varTypes Tryz.prog ++ Tryz.f11.resultTypes.toList)) = true := by kernel_rfl
set_option maxRecDepth 100000 in
theorem FnQuoted_closed : joinedFacts Tryz.prog 11 Tryz.f11 Rows.fnQuotedSpec Rows.fnQuotedRow = true := by
  unfold joinedFacts
  exact both (both (both (both (both (both (both (both (both (both (both (both (both (both (both (both (both (both (both (both (both (both (both (both (both (both (both (both (both (both (both FnQuoted_k0 fact1) fact2) FnQuoted_k3) FnQuoted_k4) FnQuoted_k5) fact6) FnQuoted_k7) fact8) FnQuoted_k9) FnQuoted_k10) FnQuoted_k11) FnQuoted_k12) FnQuoted_k13) FnQuoted_k14) FnQuoted_k15) FnQuoted_k16) FnQuoted_k17) FnQuoted_k18) FnQuoted_k19) FnQuoted_k20) FnQuoted_k21) FnQuoted_k22) FnQuoted_k23) fact24) fact25) FnQuoted_k26) FnQuoted_k27) FnQuoted_k28) FnQuoted_k29) FnQuoted_k30) FnQuoted_k31

theorem FnQuoted_u64 {n : Int} (h : (Lit.int .u64 n).wf = true) : 0 ≤ n ∧ n ≤ 18446744073709551615 := by
  simp only [Lit.wf, Bool.and_eq_true, decide_eq_true_eq] at h
  exact h
theorem FnQuoted_cells24 : Tryz.prog.cellsOf 24 = 3 := by kernel_rfl

set_option maxRecDepth 100000 in
theorem FnQuoted_lifted (os : Os) (started : os.Started) (H : Type) (enc : TypeId × Value → H) :
    ReturnsInHanded {} Tryz.checked os 11 .any (fun w args => (Rows.fnQuotedSpec.pre enc Tryz.prog Tryz.f11 Rows.fnQuotedRow.domain false w args ∧ laidMetH Tryz.prog Rows.fnQuotedRow.laid w) ∧ sizedMet enc Tryz.prog Tryz.f11 (OpenSpec.ofChange Rows.fnQuotedSpec) false w args)
      (Rows.fnQuotedSpec.post enc Tryz.prog Tryz.f11 false true false false) := by
  refine returnsInHanded_of_change_and (C := Tryz.checked) (X := fun w _ => laidMetH Tryz.prog Rows.fnQuotedRow.laid w) (fun _ _ _ hh h => h.of_heap hh) ownNone started (by kernel_rfl) Tryz.func11
    (ChangeSpec.witness_shaped (enc := enc) (C := Tryz.checked) (os := os) (X := fun w _ => laidMetH Tryz.prog Rows.fnQuotedRow.laid w) false (World.laidAll Tryz.prog os Rows.fnQuotedRow.laid) #[.string ⟨#[]⟩, .int .i64 0] 8 (World.laidAll_os _ _ _)
      (World.shaped_of_ZipB (by kernel_rfl) (by kernel_rfl)) (by kernel_rfl) (by kernel_rfl) (by kernel_rfl)
      (by rw [MakeChecks.laidMetH_plain _ _ _ (by kernel_rfl)]; exact laidMet_laidAll _ (by kernel_rfl) (by kernel_rfl))) ?_
  intro W base args ds gs before hval0 hW hc _ hL _
  have hval : ∀ (j : Nat) t v, Tryz.f11.params[j]? = some t → args[j]? = some v → Value.okWide Tryz.prog W .any base t v := hval0
  have hW' := hW
  obtain ⟨p, q, hA0, hV, rfl, _, _⟩ := hW
  have hA : DataW.TrodAll enc Tryz.prog W 0 (fun _ => true) true Tryz.f11.params.toList args.toList ds p := hA0
  rw [Tryz.params11] at hA hval
  obtain ⟨v0, v1, d0, d1, p0, p1, rfl, rfl, rfl, g0, g1⟩ := trodAll_two hA
  obtain ⟨rfl, rfl⟩ := trodVars_none hV
  obtain ⟨x0, rfl, rfl, rfl, w0⟩ := Go.ChangeMaps.open_string Tryz.underlying9 (hval 0 9 v0 rfl rfl) g0
  obtain ⟨x1, rfl, rfl, rfl, w1⟩ := open_int Tryz.underlying3 (hval 1 3 v1 rfl rfl) g1
  clear hA0 hval0
  simp only [List.append_nil] at hW'
  rw [MakeChecks.laidMetH_plain _ _ _ (by kernel_rfl)] at hL
  have hT : PT Lib.goPrintTabs W := pt_laid hL (.tail _ (.tail _ (.tail _ (.tail _ (.tail _ (.tail _ (.tail _ (.tail _ (.tail _ (.tail _ (.tail _ (.tail _ (.head _))))))))))))) (.tail _ (.tail _ (.tail _ (.tail _ (.head _))))) (.tail _ (.tail _ (.tail _ (.tail _ (.tail _ (.tail _ (.tail _ (.tail _ (.tail _ (.tail _ (.head _))))))))))) (.tail _ (.tail _ (.tail _ (.tail _ (.tail _ (.tail _ (.tail _ (.tail _ (.head _))))))))) (.tail _ (.tail _ (.tail _ (.tail _ (.tail _ (.tail _ (.tail _ (.tail _ (.tail _ (.tail _ (.tail _ (.head _)))))))))))) (.tail _ (.tail _ (.tail _ (.tail _ (.tail _ (.tail _ (.tail _ (.tail _ (.tail _ (.head _))))))))))
  refine (FnQuoted_walk x0 w0 x1 W hT).mono fun e W' ⟨he, hB⟩ => ?_
  subst he
  exact ⟨_, rfl, ⟨_, _, _, [], _, [], hW', trodAll_mk1 (shut_bool Tryz.underlying4 _), trodAll_mk2 (Go.ChangeMaps.shut_string Tryz.underlying9 w0) (shut_int Tryz.underlying3 w1), rfl, hB.frame _, fun h => by cases h⟩⟩

theorem FnQuoted_holds : Rows.FnQuotedSaid :=
  OpenClaim.holds_of_wide 11 Tryz.f11 rfl rfl rfl rfl rfl rfl rfl ⟨rfl, rfl, rfl, rfl, rfl⟩ rfl rfl rfl rfl rfl (by kernel_rfl) Tryz.func11 FnQuoted_closed
    (of_decide_eq_true (by kernel_rfl)) (by unfold Func.isWrapper; first | (rw [if_pos (by decide +kernel)]; kernel_rfl) | (rw [if_neg (by decide +kernel)]; exact ⟨rfl, rfl⟩))
    (fun os started H enc _ => FnQuoted_lifted os started H enc)
theorem FnQuoted_wf : Rows.fnQuotedRow.wfByText (OpenSpec.ofChange Rows.fnQuotedSpec) = true := by kernel_rfl
theorem FnQuoted_goes : false = Rows.fnQuotedRow.goesBy Tryz.pinned.checked.prog := by kernel_rfl
theorem FnQuoted_named : Tryz.prog.funcNamed "formatsandarguments/laws.FnQuoted" = some 11 := by kernel_rfl
theorem fnQuoted_card : Rows.FnQuotedCardSaid :=
  Claim7.holds_tied_plain_at .later [] [.data, .data, .data, .data, .data, .pinned, .pinned, .pinned, .pinned, .pinned, .pinned, .pinned, .pinned] true (true, "7f732fa8c297b9e8321412a2cb319e2469d01ba116e7aee49c0bfa03d1025942") true
    FnQuoted_holds (fun _ h => by cases h) FnQuoted_wf (fun _ h => by cases h) fnQuoted_row_tie rfl ⟨rfl, rfl⟩ factMain rfl
    (fun f fn hf hfn => by
      obtain rfl : f = 11 := Option.some.inj (FnQuoted_named.symm.trans hf) |>.symm
      obtain rfl : fn = Tryz.f11 := (Option.some.inj (Tryz.func11.symm.trans hfn)).symm
      exact ⟨factLooks, fun j t ht => by
        rw [Tryz.params11] at ht
        have hm : t ∈ [9, 3] := by simpa using Array.mem_of_getElem? ht
        have hall : ([9, 3].all fun u => !Tryz.prog.wantsStandIn u) = true := by kernel_rfl
        exact (show Tryz.prog.wantsStandIn t = false by simpa using List.all_eq_true.1 hall t hm)⟩)
    FnQuoted_goes
#print axioms fnQuoted_card

end Go.Proofs.YtcbliojofnigdaaGreatDoor
