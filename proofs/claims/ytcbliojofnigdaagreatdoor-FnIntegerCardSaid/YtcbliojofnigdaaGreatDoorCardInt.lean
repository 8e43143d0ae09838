/- FnInteger: whatever the argument, the verb, the flags' bits and the width, the law answers true and they read as they did, where the listed tables are as the program's text lays them: the row, and the tied card. -/
import Derived.Test.YtcbliojofnigdaaGreatDoorCards
import Derived.Test.YtcbliojofnigdaaGreatDoorTie
import Derived.Test.YtcbliojofnigdaaGreatDoorCardBase
import Derived.Test.YtcbliojofnigdaaGreatDoorLawInt
import Derived.ProofKit
import Derived.OpenShut
import Derived.ChangeMaps5
import Derived.Carry
import Derived.LaidMore
import Derived.Lay
import Derived.SevenTiedAt
import Derived.Lib.SmallJoins
import Derived.Stop.Joined
namespace Go.Proofs.YtcbliojofnigdaaGreatDoor
open Go Go.ChangeShapes Go.WideShapes Go.ChangeAt Go.RowKit

theorem FnInteger_k0 : (Rows.fnIntegerRow.wf (OpenSpec.ofChange Rows.fnIntegerSpec)) = true := by kernel_rfl
theorem FnInteger_k3 : (Tryz.f10.params.all (Tryz.prog.readableRec ·)) = true := by kernel_rfl
theorem FnInteger_k4 : (namedTie Tryz.prog Rows.fnIntegerRow.named Rows.fnIntegerSpec.vars) = true := by kernel_rfl
theorem FnInteger_k5 : ((Rows.fnIntegerRow.stops == [])) = true := by kernel_rfl
theorem FnInteger_k7 : ((Rows.fnIntegerRow.knobs == [])) = true := by kernel_rfl
theorem FnInteger_k9 : ((Rows.fnIntegerRow.inPlace == Tryz.prog.inPlace 10)) = true := by kernel_rfl
theorem FnInteger_k10 : ((Rows.fnIntegerRow.unfollowed == Tryz.prog.unfollowed 10)) = true := by kernel_rfl
theorem FnInteger_k11 : ((Rows.fnIntegerRow.recurses == Tryz.prog.recurses 10)) = true := by kernel_rfl
theorem FnInteger_k12 : ((Rows.fnIntegerRow.named == Tryz.prog.varsNamed 10)) = true := by kernel_rfl
theorem FnInteger_k13 : ((Rows.fnIntegerRow.maps == (Tryz.f10.params.toList ++ Rows.fnIntegerSpec.plain.varTypes Tryz.prog).any (Tryz.prog.mapsRec ·))) = true := by kernel_rfl
theorem FnInteger_k14 : ((Rows.fnIntegerRow.ifaces == (Tryz.f10.params.toList ++ Rows.fnIntegerSpec.plain.varTypes Tryz.prog).any (Tryz.prog.ifacesRec ·))) = true := by kernel_rfl
theorem FnInteger_k15 : ((Rows.fnIntegerRow.mapsOut == Tryz.prog.mapsAmong Tryz.f10.resultTypes.toList)) = true := by kernel_rfl
theorem FnInteger_k16 : ((Rows.fnIntegerRow.loops == (Tryz.f10.params.toList ++ Rows.fnIntegerSpec.plain.varTypes Tryz.prog).any (Tryz.prog.loopsFrom ·))) = true := by kernel_rfl
theorem FnInteger_k17 : ((Rows.fnIntegerRow.wideKeys == (Tryz.f10.params.toList ++ Rows.fnIntegerSpec.plain.varTypes Tryz.prog ++ Tryz.f10.resultTypes.toList).any (Tryz.prog.wideKeysFrom ·))) = true := by kernel_rfl
theorem FnInteger_k18 : (Rows.fnIntegerSpec.vars.all (Tryz.prog.varReadable ·)) = true := by kernel_rfl
theorem FnInteger_k19 : (Tryz.f10.resultTypes.all (fun t => Tryz.prog.readableRec t && decide (t < Tryz.prog.types.size))) = true := by kernel_rfl
theorem FnInteger_k20 : ((Rows.fnIntegerRow.ifacesOut == Tryz.f10.resultTypes.toList.any (Tryz.prog.ifacesRec ·))) = true := by kernel_rfl
theorem FnInteger_k21 : ((Rows.fnIntegerRow.loopsOut == Tryz.f10.resultTypes.toList.any (Tryz.prog.loopsFrom ·))) = true := by kernel_rfl
theorem FnInteger_k22 : ((Rows.fnIntegerRow.plainKeys == Tryz.prog.plainKeys)) = true := fact22
theorem FnInteger_k23 : (Rows.fnIntegerRow.shortTexts.isNone) = true := by kernel_rfl
theorem FnInteger_k26 : ((Rows.fnIntegerRow.lifted == Tryz.prog.liftsFinal)) = true := fact26
theorem FnInteger_k27 : ((Tryz.prog.make == some Rows.fnIntegerRow.make)) = true := fact27
theorem FnInteger_k28 : ((Rows.fnIntegerRow.kinds == (if Rows.fnIntegerRow.domain.isEmpty then [] else Tryz.f10.params.toList.map fun t => match Tryz.prog.underlying t with | some (.int k) => some k | _ => none))) = true := by kernel_rfl
theorem FnInteger_k29 : ((Rows.fnIntegerRow.pinned == Rows.fnIntegerRow.pinnedBy)) = true := by kernel_rfl
theorem FnInteger_k30 : ((Rows.fnIntegerRow.veiled == (Tryz.f10.params.toList ++ Rows.fnIntegerSpec.plain.varTypes Tryz.prog ++ Tryz.f10.resultTypes.toList).any (Tryz.prog.veiledRec ·))) = true := by kernel_rfl
theorem FnInteger_k31 : (Rows.fnIntegerRow.veiledFits Tryz.prog Tryz.f10.params.toList (Tryz.f10.params.toList ++ Rows.fnIntegerSpec.plain.varTypes Tryz.prog ++ Tryz.f10.resultTypes.toList)) = true := by kernel_rfl
set_option maxRecDepth 100000 in
theorem FnInteger_closed : joinedFacts Tryz.prog 10 Tryz.f10 Rows.fnIntegerSpec Rows.fnIntegerRow = true := by
  unfold joinedFacts
  exact both (both (both (both (both (both (both (both (both (both (both (both (both (both (both (both (both (both (both (both (both (both (both (both (both (both (both (both (both (both (both FnInteger_k0 fact1) fact2) FnInteger_k3) FnInteger_k4) FnInteger_k5) fact6) FnInteger_k7) fact8) FnInteger_k9) FnInteger_k10) FnInteger_k11) FnInteger_k12) FnInteger_k13) FnInteger_k14) FnInteger_k15) FnInteger_k16) FnInteger_k17) FnInteger_k18) FnInteger_k19) FnInteger_k20) FnInteger_k21) FnInteger_k22) FnInteger_k23) fact24) fact25) FnInteger_k26) FnInteger_k27) FnInteger_k28) FnInteger_k29) FnInteger_k30) FnInteger_k31

theorem u64_wf {n : Int} (h : (Lit.int .u64 n).wf = true) : 0 ≤ n ∧ n ≤ 18446744073709551615 := by
  simp only [Lit.wf, Bool.and_eq_true, decide_eq_true_eq] at h
  exact h
theorem i64_wf {n : Int} (h : (Lit.int .i64 n).wf = true) : -9223372036854775808 ≤ n ∧ n ≤ 9223372036854775807 := by
  simp only [Lit.wf, Bool.and_eq_true, decide_eq_true_eq] at h
  exact h

theorem cells24 : Tryz.prog.cellsOf 24 = 3 := by kernel_rfl

set_option maxRecDepth 100000 in
theorem FnInteger_lifted (os : Os) (started : os.Started) (H : Type) (enc : TypeId × Value → H) :
    ReturnsInHanded {} Tryz.checked os 10 .any (fun w args => (Rows.fnIntegerSpec.pre enc Tryz.prog Tryz.f10 Rows.fnIntegerRow.domain false w args ∧ laidMetH Tryz.prog Rows.fnIntegerRow.laid w) ∧ sizedMet enc Tryz.prog Tryz.f10 (OpenSpec.ofChange Rows.fnIntegerSpec) false w args)
      (Rows.fnIntegerSpec.post enc Tryz.prog Tryz.f10 false true false false) := by
  refine returnsInHanded_of_change_and (C := Tryz.checked) (X := fun w _ => laidMetH Tryz.prog Rows.fnIntegerRow.laid w) (fun _ _ _ hh h => h.of_heap hh) ownNone started (by kernel_rfl) Tryz.func10
    (ChangeSpec.witness_shaped (enc := enc) (C := Tryz.checked) (os := os) (X := fun w _ => laidMetH Tryz.prog Rows.fnIntegerRow.laid w) false (World.laidAll Tryz.prog os Rows.fnIntegerRow.laid) #[.agg #[.int .i64 0, .int .u64 0, .string ⟨#[]⟩], .int .i64 0, .int .i64 0, .int .i64 0] 8 (World.laidAll_os _ _ _)
      (World.shaped_of_ZipB (by kernel_rfl) (by kernel_rfl)) (by kernel_rfl) (by kernel_rfl) (by kernel_rfl)
      (by rw [MakeChecks.laidMetH_plain _ _ _ (by kernel_rfl)]; exact laidMet_laidAll _ (by kernel_rfl) (by kernel_rfl))) ?_
  intro W base args ds gs before hval0 hW hc _ hL _
  have hval : ∀ (j : Nat) t v, Tryz.f10.params[j]? = some t → args[j]? = some v → Value.okWide Tryz.prog W .any base t v := hval0
  have hW' := hW
  obtain ⟨p, q, hA0, hV, rfl, _, _⟩ := hW
  have hA : DataW.TrodAll enc Tryz.prog W 0 (fun _ => true) true Tryz.f10.params.toList args.toList ds p := hA0
  rw [Tryz.params10] at hA hval
  obtain ⟨v0, v1, v2, v3, d0, d1, d2, d3, p0, p1, p2, p3, rfl, rfl, rfl, g0, g1, g2, g3⟩ := trodAll_four hA
  obtain ⟨rfl, rfl⟩ := trodVars_none hV
  obtain ⟨c0, c1, c2, y0, y1, y2, m, rfl, rfl, rfl, hy0, hy1, hy2⟩ := Joins.open_agg3 Tryz.underlying24 (by kernel_rfl) cells24 (hval 0 24 v0 rfl rfl) g0
  obtain ⟨zk, e0, rfl, wk⟩ := DataW.trod_int Tryz.underlying3 hy0
  obtain ⟨zb, e1, rfl, wb⟩ := DataW.trod_int Tryz.underlying22 hy1
  obtain ⟨zt, e2, rfl, wt⟩ := DataW.trod_string Tryz.underlying9 hy2
  simp at e0 e1 e2
  subst e0 e1 e2
  obtain ⟨verb, rfl, rfl, rfl, wV⟩ := open_int Tryz.underlying3 (hval 1 3 v1 rfl rfl) g1
  obtain ⟨bits, rfl, rfl, rfl, wF⟩ := open_int Tryz.underlying3 (hval 2 3 v2 rfl rfl) g2
  obtain ⟨wid, rfl, rfl, rfl, wW⟩ := open_int Tryz.underlying3 (hval 3 3 v3 rfl rfl) g3
  clear hA0 hval0
  simp only [List.append_nil] at hW'
  have bB := u64_wf wb
  refine (FnInteger_walk ⟨zk, zb, zt⟩ bB.1 bB.2 verb bits wid W).mono fun e W' ⟨he, hB⟩ => ?_
  subst he
  have structReads : ∀ (W' : World) (sp : Nat → Bool), DataW.Trod enc Tryz.prog W' 0 sp true 24 (.agg #[.int .i64 zk, .int .u64 zb, .string zt]) (.agg [.lit (.int .i64 zk), .lit (.int .u64 zb), .lit (.string zt.data.toList)]) [] := fun W' sp =>
    Joins.shut_agg3 (y0 := (.lit (.int .i64 zk), [])) (y1 := (.lit (.int .u64 zb), [])) (y2 := (.lit (.string zt.data.toList), [])) Tryz.underlying24 (by kernel_rfl) cells24 ⟨1, by simp [DataW.trod, Tryz.underlying3, wk]⟩ ⟨1, by simp [DataW.trod, Tryz.underlying22, wb]⟩ ⟨1, by simp [DataW.trod, Tryz.underlying9, wt]⟩
  exact ⟨_, rfl, ⟨_, _, _, [], _, [], hW', trodAll_mk1 (shut_bool Tryz.underlying4 _), trodAll_mk4 (structReads _ _) (shut_int Tryz.underlying3 wV) (shut_int Tryz.underlying3 wF) (shut_int Tryz.underlying3 wW), rfl, hB.frame _, fun h => by cases h⟩⟩

theorem FnInteger_holds : Rows.FnIntegerSaid :=
  OpenClaim.holds_of_wide 10 Tryz.f10 rfl rfl rfl rfl rfl rfl rfl ⟨rfl, rfl, rfl, rfl, rfl⟩ rfl rfl rfl rfl rfl (by kernel_rfl) Tryz.func10 FnInteger_closed
    (of_decide_eq_true (by kernel_rfl)) (by unfold Func.isWrapper; first | (rw [if_pos (by decide +kernel)]; kernel_rfl) | (rw [if_neg (by decide +kernel)]; exact ⟨rfl, rfl⟩))
    (fun os started H enc _ => FnInteger_lifted os started H enc)
theorem FnInteger_wf : Rows.fnIntegerRow.wfByText (OpenSpec.ofChange Rows.fnIntegerSpec) = true := by kernel_rfl
theorem FnInteger_goes : false = Rows.fnIntegerRow.goesBy Tryz.pinned.checked.prog := by kernel_rfl
theorem FnInteger_named : Tryz.prog.funcNamed "formatsandarguments/laws.FnInteger" = some 10 := by kernel_rfl
theorem fnInteger_card : Rows.FnIntegerCardSaid :=
  Claim7.holds_tied_plain_at .later [] [.data, .data, .data, .data, .data, .pinned, .pinned, .pinned, .pinned, .pinned, .pinned, .pinned, .pinned] true (true, "7f732fa8c297b9e8321412a2cb319e2469d01ba116e7aee49c0bfa03d1025942") true
    FnInteger_holds (fun _ h => by cases h) FnInteger_wf (fun _ h => by cases h) fnInteger_row_tie rfl ⟨rfl, rfl⟩ factMain rfl
    (fun f fn hf hfn => by
      obtain rfl : f = 10 := Option.some.inj (FnInteger_named.symm.trans hf) |>.symm
      obtain rfl : fn = Tryz.f10 := (Option.some.inj (Tryz.func10.symm.trans hfn)).symm
      exact ⟨factLooks, fun j t ht => by
        rw [Tryz.params10] at ht
        have hm : t ∈ [24, 3, 3, 3] := by simpa using Array.mem_of_getElem? ht
        have hall : ([24, 3, 3, 3].all fun u => !Tryz.prog.wantsStandIn u) = true := by kernel_rfl
        exact (show Tryz.prog.wantsStandIn t = false by simpa using List.all_eq_true.1 hall t hm)⟩)
    FnInteger_goes
#print axioms fnInteger_card

end Go.Proofs.YtcbliojofnigdaaGreatDoor
