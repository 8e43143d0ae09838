/- FnChar: whatever the argument, the law answers true and all reads as it did, where the listed tables are as the program's text lays them: the row, and the tied card. -/
import Derived.Test.YtcbliojofnigdaaGreatDoorCards
import Derived.Test.YtcbliojofnigdaaGreatDoorTie
import Derived.Test.YtcbliojofnigdaaGreatDoorCardBase
import Derived.Test.YtcbliojofnigdaaGreatDoorLawChar
import Derived.ProofKit
import Derived.OpenShut
import Derived.ChangeMaps5
import Derived.Carry
import Derived.LaidMore
import Derived.Lay
import Derived.SevenTiedAt
import Derived.Lib.SmallJoins
import Derived.Stop.Joined
namespace Go.Proofs.YtcbliojofnigdaaGreatDoor
open Go Go.ChangeShapes Go.WideShapes Go.ChangeAt Go.RowKit

theorem FnChar_k0 : (Rows.fnCharRow.wf (OpenSpec.ofChange Rows.fnCharSpec)) = true := by kernel_rfl
theorem FnChar_k3 : (Tryz.f6.params.all (Tryz.prog.readableRec ·)) = true := by kernel_rfl
theorem FnChar_k4 : (namedTie Tryz.prog Rows.fnCharRow.named Rows.fnCharSpec.vars) = true := by kernel_rfl
theorem FnChar_k5 : ((Rows.fnCharRow.stops == [])) = true := by kernel_rfl
theorem FnChar_k7 : ((Rows.fnCharRow.knobs == [])) = true := by kernel_rfl
theorem FnChar_k9 : ((Rows.fnCharRow.inPlace == Tryz.prog.inPlace 6)) = true := by kernel_rfl
theorem FnChar_k10 : ((Rows.fnCharRow.unfollowed == Tryz.prog.unfollowed 6)) = true := by kernel_rfl
theorem FnChar_k11 : ((Rows.fnCharRow.recurses == Tryz.prog.recurses 6)) = true := by kernel_rfl
theorem FnChar_k12 : ((Rows.fnCharRow.named == Tryz.prog.varsNamed 6)) = true := by kernel_rfl
theorem FnChar_k13 : ((Rows.fnCharRow.maps == (Tryz.f6.params.toList ++ Rows.fnCharSpec.plain.varTypes Tryz.prog).any (Tryz.prog.mapsRec ·))) = true := by kernel_rfl
theorem FnChar_k14 : ((Rows.fnCharRow.ifaces == (Tryz.f6.params.toList ++ Rows.fnCharSpec.plain.varTypes Tryz.prog).any (Tryz.prog.ifacesRec ·))) = true := by kernel_rfl
theorem FnChar_k15 : ((Rows.fnCharRow.mapsOut == Tryz.prog.mapsAmong Tryz.f6.resultTypes.toList)) = true := by kernel_rfl
theorem FnChar_k16 : ((Rows.fnCharRow.loops == (Tryz.f6.params.toList ++ Rows.fnCharSpec.plain.varTypes Tryz.prog).any (Tryz.prog.loopsFrom ·))) = true := by kernel_rfl
theorem FnChar_k17 : ((Rows.fnCharRow.wideKeys == (Tryz.f6.params.toList ++ Rows.fnCharSpec.plain.varTypes Tryz.prog ++ Tryz.f6.resultTypes.toList).any (Tryz.prog.wideKeysFrom ·))) = true := by kernel_rfl
theorem FnChar_k18 : (Rows.fnCharSpec.vars.all (Tryz.prog.varReadable ·)) = true := by kernel_rfl
theorem FnChar_k19 : (Tryz.f6.resultTypes.all (fun t => Tryz.prog.readableRec t && decide (t < Tryz.prog.types.size))) = true := by kernel_rfl
theorem FnChar_k20 : ((Rows.fnCharRow.ifacesOut == Tryz.f6.resultTypes.toList.any (Tryz.prog.ifacesRec ·))) = true := by kernel_rfl
theorem FnChar_k21 : ((Rows.fnCharRow.loopsOut == Tryz.f6.resultTypes.toList.any (Tryz.prog.loopsFrom ·))) = true := by kernel_rfl
theorem FnChar_k22 : ((Rows.fnCharRow.plainKeys == Tryz.prog.plainKeys)) = true := fact22
theorem FnChar_k23 : (Rows.fnCharRow.shortTexts.isNone) = true := by kernel_rfl
theorem FnChar_k26 : ((Rows.fnCharRow.lifted == Tryz.prog.liftsFinal)) = true := fact26
theorem FnChar_k27 : ((Tryz.prog.make == some Rows.fnCharRow.make)) = true := fact27
theorem FnChar_k28 : ((Rows.fnCharRow.kinds == (if Rows.fnCharRow.domain.isEmpty then [] else Tryz.f6.params.toList.map fun t => match Tryz.prog.underlying t with | some (.int k) => some k | _ => none))) = true := by kernel_rfl
theorem FnChar_k29 : ((Rows.fnCharRow.pinned == Rows.fnCharRow.pinnedBy)) = true := by kernel_rfl
theorem FnChar_k30 : ((Rows.fnCharRow.veiled == (Tryz.f6.params.toList ++ Rows.fnCharSpec.plain.varTypes Tryz.prog ++ Tryz.f6.resultTypes.toList).any (Tryz.prog.veiledRec ·))) = true := by kernel_rfl
theorem FnChar_k31 : (Rows.fnCharRow.veiledFits Tryz.prog Tryz.f6.params.toList (Tryz.f6.params.toList ++ Rows.fnCharSpec.plain.varTypes Tryz.prog ++ Tryz.f6.resultTypes.toList)) = true := by kernel_rfl
set_option maxRecDepth 100000 in
theorem FnChar_closed : joinedFacts Tryz.prog 6 Tryz.f6 Rows.fnCharSpec Rows.fnCharRow = true := by
  unfold joinedFacts
  exact both (both (both (both (both (both (both (both (both (both (both (both (both (both (both (both (both (both (both (both (both (both (both (both (both (both (both (both (both (both (both FnChar_k0 fact1) fact2) FnChar_k3) FnChar_k4) FnChar_k5) fact6) FnChar_k7) fact8) FnChar_k9) FnChar_k10) FnChar_k11) FnChar_k12) FnChar_k13) FnChar_k14) FnChar_k15) FnChar_k16) FnChar_k17) FnChar_k18) FnChar_k19) FnChar_k20) FnChar_k21) FnChar_k22) FnChar_k23) fact24) fact25) FnChar_k26) FnChar_k27) FnChar_k28) FnChar_k29) FnChar_k30) FnChar_k31

theorem FnChar_u64 {n : Int} (h : (Lit.int .u64 n).wf = true) : 0 ≤ n ∧ n ≤ 18446744073709551615 := by
  simp only [Lit.wf, Bool.and_eq_true, decide_eq_true_eq] at h
  exact h
theorem FnChar_cells24 : Tryz.prog.cellsOf 24 = 3 := by kernel_rfl

set_option maxRecDepth 100000 in
theorem FnChar_lifted (os : Os) (started : os.Started) (H : Type) (enc : TypeId × Value → H) :
    ReturnsInHanded {} Tryz.checked os 6 .any (fun w args => (Rows.fnCharSpec.pre enc Tryz.prog Tryz.f6 Rows.fnCharRow.domain false w args ∧ laidMetH Tryz.prog Rows.fnCharRow.laid w) ∧ sizedMet enc Tryz.prog Tryz.f6 (OpenSpec.ofChange Rows.fnCharSpec) false w args)
      (Rows.fnCharSpec.post enc Tryz.prog Tryz.f6 false true false false) := by
  refine returnsInHanded_of_change_and (C := Tryz.checked) (X := fun w _ => laidMetH Tryz.prog Rows.fnCharRow.laid w) (fun _ _ _ hh h => h.of_heap hh) ownNone started (by kernel_rfl) Tryz.func6
    (ChangeSpec.witness_shaped (enc := enc) (C := Tryz.checked) (os := os) (X := fun w _ => laidMetH Tryz.prog Rows.fnCharRow.laid w) false (World.laidAll Tryz.prog os Rows.fnCharRow.laid) #[.agg #[.int .i64 0, .int .u64 0, .string ⟨#[]⟩]] 8 (World.laidAll_os _ _ _)
      (World.shaped_of_ZipB (by kernel_rfl) (by kernel_rfl)) (by kernel_rfl) (by kernel_rfl) (by kernel_rfl)
      (by rw [MakeChecks.laidMetH_plain _ _ _ (by kernel_rfl)]; exact laidMet_laidAll _ (by kernel_rfl) (by kernel_rfl))) ?_
  intro W base args ds gs before hval0 hW hc _ hL _
  have hval : ∀ (j : Nat) t v, Tryz.f6.params[j]? = some t → args[j]? = some v → Value.okWide Tryz.prog W .any base t v := hval0
  have hW' := hW
  obtain ⟨p, q, hA0, hV, rfl, _, _⟩ := hW
  have hA : DataW.TrodAll enc Tryz.prog W 0 (fun _ => true) true Tryz.f6.params.toList args.toList ds p := hA0
  rw [Tryz.params6] at hA hval
  obtain ⟨v0, d0, rfl, rfl, g0⟩ := trodAll_one hA
  obtain ⟨rfl, rfl⟩ := trodVars_none hV
  obtain ⟨c0, c1, c2, y0, y1, y2, m, rfl, rfl, rfl, hy0, hy1, hy2⟩ := Joins.open_agg3 Tryz.underlying24 (by kernel_rfl) FnChar_cells24 (hval 0 24 v0 rfl rfl) g0
  obtain ⟨zk, e0, rfl, wk⟩ := DataW.trod_int Tryz.underlying3 hy0
  obtain ⟨zb, e1, rfl, wb⟩ := DataW.trod_int Tryz.underlying22 hy1
  obtain ⟨zt, e2, rfl, wt⟩ := DataW.trod_string Tryz.underlying9 hy2
  simp at e0 e1 e2
  subst e0 e1 e2
  have bB := FnChar_u64 wb
  clear hA0 hval0
  simp only [List.append_nil] at hW'
  refine (FnChar_walk ⟨zk, zb, zt⟩ bB.1 bB.2 W).mono fun e W' ⟨he, hB⟩ => ?_
  subst he
  have structReads : ∀ (W' : World) (sp : Nat → Bool), DataW.Trod enc Tryz.prog W' 0 sp true 24 (.agg #[.int .i64 zk, .int .u64 zb, .string zt]) (.agg [.lit (.int .i64 zk), .lit (.int .u64 zb), .lit (.string zt.data.toList)]) [] := fun W' sp =>
    Joins.shut_agg3 (y0 := (.lit (.int .i64 zk), [])) (y1 := (.lit (.int .u64 zb), [])) (y2 := (.lit (.string zt.data.toList), [])) Tryz.underlying24 (by kernel_rfl) FnChar_cells24 ⟨1, by simp [DataW.trod, Tryz.underlying3, wk]⟩ ⟨1, by simp [DataW.trod, Tryz.underlying22, wb]⟩ ⟨1, by simp [DataW.trod, Tryz.underlying9, wt]⟩
  exact ⟨_, rfl, ⟨_, _, _, [], _, [], hW', trodAll_mk1 (shut_bool Tryz.underlying4 _), trodAll_mk1 (structReads _ _), rfl, hB.frame _, fun h => by cases h⟩⟩

theorem FnChar_holds : Rows.FnCharSaid :=
  OpenClaim.holds_of_wide 6 Tryz.f6 rfl rfl rfl rfl rfl rfl rfl ⟨rfl, rfl, rfl, rfl, rfl⟩ rfl rfl rfl rfl rfl (by kernel_rfl) Tryz.func6 FnChar_closed
    (of_decide_eq_true (by kernel_rfl)) (by unfold Func.isWrapper; first | (rw [if_pos (by decide +kernel)]; kernel_rfl) | (rw [if_neg (by decide +kernel)]; exact ⟨rfl, rfl⟩))
    (fun os started H enc _ => FnChar_lifted os started H enc)
theorem FnChar_wf : Rows.fnCharRow.wfByText (OpenSpec.ofChange Rows.fnCharSpec) = true := by kernel_rfl
theorem FnChar_goes : false = Rows.fnCharRow.goesBy Tryz.pinned.checked.prog := by kernel_rfl
theorem FnChar_named : Tryz.prog.funcNamed "formatsandarguments/laws.FnChar" = some 6 := by kernel_rfl
theorem fnChar_card : Rows.FnCharCardSaid :=
  Claim7.holds_tied_plain_at .later [] [.data, .data, .data, .data, .data, .pinned, .pinned, .pinned, .pinned, .pinned, .pinned, .pinned, .pinned] true (true, "7f732fa8c297b9e8321412a2cb319e2469d01ba116e7aee49c0bfa03d1025942") true
    FnChar_holds (fun _ h => by cases h) FnChar_wf (fun _ h => by cases h) fnChar_row_tie rfl ⟨rfl, rfl⟩ factMain rfl
    (fun f fn hf hfn => by
      obtain rfl : f = 6 := Option.some.inj (FnChar_named.symm.trans hf) |>.symm
      obtain rfl : fn = Tryz.f6 := (Option.some.inj (Tryz.func6.symm.trans hfn)).symm
      exact ⟨factLooks, fun j t ht => by
        rw [Tryz.params6] at ht
        have hm : t ∈ [24] := by simpa using Array.mem_of_getElem? ht
        have hall : ([24].all fun u => !Tryz.prog.wantsStandIn u) = true := by kernel_rfl
        exact (show Tryz.prog.wantsStandIn t = false by simpa using List.all_eq_true.1 hall t hm)⟩)
    FnChar_goes
#print axioms fnChar_card

end Go.Proofs.YtcbliojofnigdaaGreatDoor
