/- FnString: whatever the argument, the letter, the flags, the width and the precision, the law answers true and all reads as it did, where the listed tables are as the program's text lays them: the row, and the tied card. -/
import Derived.Test.YtcbliojofnigdaaGreatDoorCards
import Derived.Test.YtcbliojofnigdaaGreatDoorTie
import Derived.Test.YtcbliojofnigdaaGreatDoorCardBase
import Derived.Test.YtcbliojofnigdaaGreatDoorLawString
import Derived.Test.YtcbliojofnigdaaGreatDoorTabsLaid
import Derived.ProofKit
import Derived.OpenShut
import Derived.ChangeMaps5
import Derived.Carry
import Derived.LaidMore
import Derived.Lay
import Derived.SevenTiedAt
import Derived.Lib.SmallJoins
import Derived.Stop.Joined
namespace Go.Proofs.YtcbliojofnigdaaGreatDoor
open Go Go.ChangeShapes Go.WideShapes Go.ChangeAt Go.RowKit

theorem FnString_k0 : (Rows.fnStringRow.wf (OpenSpec.ofChange Rows.fnStringSpec)) = true := by kernel_rfl
theorem FnString_k3 : (Tryz.f12.params.all (Tryz.prog.readableRec ·)) = true := by kernel_rfl
theorem FnString_k4 : (namedTie Tryz.prog Rows.fnStringRow.named Rows.fnStringSpec.vars) = true := by kernel_rfl
theorem FnString_k5 : ((Rows.fnStringRow.stops == [])) = true := by kernel_rfl
theorem FnString_k7 : ((Rows.fnStringRow.knobs == [])) = true := by kernel_rfl
theorem FnString_k9 : ((Rows.fnStringRow.inPlace == Tryz.prog.inPlace 12)) = true := by kernel_rfl
theorem FnString_k10 : ((Rows.fnStringRow.unfollowed == Tryz.prog.unfollowed 12)) = true := by kernel_rfl
theorem FnString_k11 : ((Rows.fnStringRow.recurses == Tryz.prog.recurses 12)) = true := by kernel_rfl
theorem FnString_k12 : ((Rows.fnStringRow.named == Tryz.prog.varsNamed 12)) = true := by kernel_rfl
theorem FnString_k13 : ((Rows.fnStringRow.maps == (Tryz.f12.params.toList ++ Rows.fnStringSpec.plain.varTypes Tryz.prog).any (Tryz.prog.mapsRec ·))) = true := by kernel_rfl
theorem FnString_k14 : ((Rows.fnStringRow.ifaces == (Tryz.f12.params.toList ++ Rows.fnStringSpec.plain.varTypes Tryz.prog).any (Tryz.prog.ifacesRec ·))) = true := by kernel_rfl
theorem FnString_k15 : ((Rows.fnStringRow.mapsOut == Tryz.prog.mapsAmong Tryz.f12.resultTypes.toList)) = true := by kernel_rfl
theorem FnString_k16 : ((Rows.fnStringRow.loops == (Tryz.f12.params.toList ++ Rows.fnStringSpec.plain.varTypes Tryz.prog).any (Tryz.prog.loopsFrom ·))) = true := by kernel_rfl
theorem FnString_k17 : ((Rows.fnStringRow.wideKeys == (Tryz.f12.params.toList ++ Rows.fnStringSpec.plain.varTypes Tryz.prog ++ Tryz.f12.resultTypes.toList).any (Tryz.prog.wideKeysFrom ·))) = true := by kernel_rfl
theorem FnString_k18 : (Rows.fnStringSpec.vars.all (Tryz.prog.varReadable ·)) = true := by kernel_rfl
theorem FnString_k19 : (Tryz.f12.resultTypes.all (fun t => Tryz.prog.readableRec t && decide (t < Tryz.prog.types.size))) = true := by kernel_rfl
theorem FnString_k20 : ((Rows.fnStringRow.ifacesOut == Tryz.f12.resultTypes.toList.any (Tryz.prog.ifacesRec ·))) = true := by kernel_rfl
theorem FnString_k21 : ((Rows.fnStringRow.loopsOut == Tryz.f12.resultTypes.toList.any (Tryz.prog.loopsFrom ·))) = true := by kernel_rfl
theorem FnString_k22 : ((Rows.fnStringRow.plainKeys == Tryz.prog.plainKeys)) = true := fact22
theorem FnString_k23 : (Rows.fnStringRow.shortTexts.isNone) = true := by kernel_rfl
theorem FnString_k26 : ((Rows.fnStringRow.lifted == Tryz.prog.liftsFinal)) = true := fact26
theorem FnString_k27 : ((Tryz.prog.make == some Rows.fnStringRow.make)) = true := fact27
theorem FnString_k28 : ((Rows.fnStringRow.kinds == (if Rows.fnStringRow.domain.isEmpty then [] else Tryz.f12.params.toList.map fun t => match Tryz.prog.underlying t with | some (.int k) => some k | _ => none))) = true := by kernel_rfl
theorem FnString_k29 : ((Rows.fnStringRow.pinned == Rows.fnStringRow.pinnedBy)) = true := by kernel_rfl
theorem FnString_k30 : ((Rows.fnStringRow.veiled == (Tryz.f12.params.toList ++ Rows.fnStringSpec.plain.varTypes Tryz.prog ++ Tryz.f12.resultTypes.toList).any (Tryz.prog.veiledRec ·))) = true := by kernel_rfl
theorem FnString_k31 : (Rows.fnStringRow.veiledFits Tryz.prog Tryz.f12.params.toList (Tryz.f12.params.toList ++ Rows.fnStringSpec.plain.varTypes Tryz.prog ++ Tryz.f12.resultTypes.toList)) = true := by kernel_rfl
set_option maxRecDepth 100000 in
theorem FnString_closed : joinedFacts Tryz.prog 12 Tryz.f12 Rows.fnStringSpec Rows.fnStringRow = true := by
  unfold joinedFacts
  exact both (both (both (both (both (both (both (both (both (both (both (both (both (both (both (both (both (both (both (both (both (both (both (both (both (both (both (both (both (both (both FnString_k0 fact1) fact2) FnString_k3) FnString_k4) FnString_k5) fact6) FnString_k7) fact8) FnString_k9) FnString_k10) FnString_k11) FnString_k12) FnString_k13) FnString_k14) FnString_k15) FnString_k16) FnString_k17) FnString_k18) FnString_k19) FnString_k20) FnString_k21) FnString_k22) FnString_k23) fact24) fact25) FnString_k26) FnString_k27) FnString_k28) FnString_k29) FnString_k30) FnString_k31

theorem FnString_u64 {n : Int} (h : (Lit.int .u64 n).wf = true) : 0 ≤ n ∧ n ≤ 18446744073709551615 := by
  simp only [Lit.wf, Bool.and_eq_true, decide_eq_true_eq] at h
  exact h
theorem FnString_cells24 : Tryz.prog.cellsOf 24 = 3 := by kernel_rfl

set_option maxRecDepth 100000 in
theorem FnString_lifted (os : Os) (started : os.Started) (H : Type) (enc : TypeId × Value → H) :
    ReturnsInHanded {} Tryz.checked os 12 .any (fun w args => (Rows.fnStringSpec.pre enc Tryz.prog Tryz.f12 Rows.fnStringRow.domain false w args ∧ laidMetH Tryz.prog Rows.fnStringRow.laid w) ∧ sizedMet enc Tryz.prog Tryz.f12 (OpenSpec.ofChange Rows.fnStringSpec) false w args)
      (Rows.fnStringSpec.post enc Tryz.prog Tryz.f12 false true false false) := by
  refine returnsInHanded_of_change_and (C := Tryz.checked) (X := fun w _ => laidMetH Tryz.prog Rows.fnStringRow.laid w) (fun _ _ _ hh h => h.of_heap hh) ownNone started (by kernel_rfl) Tryz.func12
    (ChangeSpec.witness_shaped (enc := enc) (C := Tryz.checked) (os := os) (X := fun w _ => laidMetH Tryz.prog Rows.fnStringRow.laid w) false (World.laidAll Tryz.prog os Rows.fnStringRow.laid) #[.agg #[.int .i64 0, .int .u64 0, .string ⟨#[]⟩], .int .i64 0, .int .i64 0, .int .i64 0, .int .i64 0] 8 (World.laidAll_os _ _ _)
      (World.shaped_of_ZipB (by kernel_rfl) (by kernel_rfl)) (by kernel_rfl) (by kernel_rfl) (by kernel_rfl)
      (by rw [MakeChecks.laidMetH_plain _ _ _ (by kernel_rfl)]; exact laidMet_laidAll _ (by kernel_rfl) (by kernel_rfl))) ?_
  intro W base args ds gs before hval0 hW hc _ hL _
  have hval : ∀ (j : Nat) t v, Tryz.f12.params[j]? = some t → args[j]? = some v → Value.okWide Tryz.prog W .any base t v := hval0
  have hW' := hW
  obtain ⟨p, q, hA0, hV, rfl, _, _⟩ := hW
  have hA : DataW.TrodAll enc Tryz.prog W 0 (fun _ => true) true Tryz.f12.params.toList args.toList ds p := hA0
  rw [Tryz.params12] at hA hval
  obtain ⟨v0, v1, v2, v3, v4, d0, d1, d2, d3, d4, p0, p1, p2, p3, p4, rfl, rfl, rfl, g0, g1, g2, g3, g4⟩ := trodAll_five hA
  obtain ⟨rfl, rfl⟩ := trodVars_none hV
  obtain ⟨c0, c1, c2, y0, y1, y2, m, rfl, rfl, rfl, hy0, hy1, hy2⟩ := Joins.open_agg3 Tryz.underlying24 (by kernel_rfl) FnString_cells24 (hval 0 24 v0 rfl rfl) g0
  obtain ⟨zk, e0, rfl, wk⟩ := DataW.trod_int Tryz.underlying3 hy0
  obtain ⟨zb, e1, rfl, wb⟩ := DataW.trod_int Tryz.underlying22 hy1
  obtain ⟨zt, e2, rfl, wt⟩ := DataW.trod_string Tryz.underlying9 hy2
  simp at e0 e1 e2
  subst e0 e1 e2
  have bB := FnString_u64 wb
  obtain ⟨x1, rfl, rfl, rfl, w1⟩ := open_int Tryz.underlying3 (hval 1 3 v1 rfl rfl) g1
  obtain ⟨x2, rfl, rfl, rfl, w2⟩ := open_int Tryz.underlying3 (hval 2 3 v2 rfl rfl) g2
  obtain ⟨x3, rfl, rfl, rfl, w3⟩ := open_int Tryz.underlying3 (hval 3 3 v3 rfl rfl) g3
  obtain ⟨x4, rfl, rfl, rfl, w4⟩ := open_int Tryz.underlying3 (hval 4 3 v4 rfl rfl) g4
  clear hA0 hval0
  simp only [List.append_nil] at hW'
  rw [MakeChecks.laidMetH_plain _ _ _ (by kernel_rfl)] at hL
  have hT : Tabs W := tabs_laid hL (.tail _ (.tail _ (.tail _ (.tail _ (.tail _ (.tail _ (.tail _ (.tail _ (.tail _ (.tail _ (.tail _ (.tail _ (.head _))))))))))))) (.tail _ (.tail _ (.tail _ (.tail _ (.head _)))))
  refine (FnString_walk ⟨zk, zb, zt⟩ bB.1 bB.2 x1 x2 x3 x4 W hT).mono fun e W' ⟨he, hB⟩ => ?_
  subst he
  have structReads : ∀ (W' : World) (sp : Nat → Bool), DataW.Trod enc Tryz.prog W' 0 sp true 24 (.agg #[.int .i64 zk, .int .u64 zb, .string zt]) (.agg [.lit (.int .i64 zk), .lit (.int .u64 zb), .lit (.string zt.data.toList)]) [] := fun W' sp =>
    Joins.shut_agg3 (y0 := (.lit (.int .i64 zk), [])) (y1 := (.lit (.int .u64 zb), [])) (y2 := (.lit (.string zt.data.toList), [])) Tryz.underlying24 (by kernel_rfl) FnString_cells24 ⟨1, by simp [DataW.trod, Tryz.underlying3, wk]⟩ ⟨1, by simp [DataW.trod, Tryz.underlying22, wb]⟩ ⟨1, by simp [DataW.trod, Tryz.underlying9, wt]⟩
  exact ⟨_, rfl, ⟨_, _, _, [], _, [], hW', trodAll_mk1 (shut_bool Tryz.underlying4 _), trodAll_mk5 (structReads _ _) (shut_int Tryz.underlying3 w1) (shut_int Tryz.underlying3 w2) (shut_int Tryz.underlying3 w3) (shut_int Tryz.underlying3 w4), rfl, hB.frame _, fun h => by cases h⟩⟩

theorem FnString_holds : Rows.FnStringSaid :=
  OpenClaim.holds_of_wide 12 Tryz.f12 rfl rfl rfl rfl rfl rfl rfl ⟨rfl, rfl, rfl, rfl, rfl⟩ rfl rfl rfl rfl rfl (by kernel_rfl) Tryz.func12 FnString_closed
    (of_decide_eq_true (by kernel_rfl)) (by unfold Func.isWrapper; first | (rw [if_pos (by decide +kernel)]; kernel_rfl) | (rw [if_neg (by decide +kernel)]; exact ⟨rfl, rfl⟩))
    (fun os started H enc _ => FnString_lifted os started H enc)
theorem FnString_wf : Rows.fnStringRow.wfByText (OpenSpec.ofChange Rows.fnStringSpec) = true := by kernel_rfl
theorem FnString_goes : false = Rows.fnStringRow.goesBy Tryz.pinned.checked.prog := by kernel_rfl
theorem FnString_named : Tryz.prog.funcNamed "formatsandarguments/laws.FnString" = some 12 := by kernel_rfl
theorem fnString_card : Rows.FnStringCardSaid :=
  Claim7.holds_tied_plain_at .later [] [.data, .data, .data, .data, .data, .pinned, .pinned, .pinned, .pinned, .pinned, .pinned, .pinned, .pinned] true (true, "7f732fa8c297b9e8321412a2cb319e2469d01ba116e7aee49c0bfa03d1025942") true
    FnString_holds (fun _ h => by cases h) FnString_wf (fun _ h => by cases h) fnString_row_tie rfl ⟨rfl, rfl⟩ factMain rfl
    (fun f fn hf hfn => by
      obtain rfl : f = 12 := Option.some.inj (FnString_named.symm.trans hf) |>.symm
      obtain rfl : fn = Tryz.f12 := (Option.some.inj (Tryz.func12.symm.trans hfn)).symm
      exact ⟨factLooks, fun j t ht => by
        rw [Tryz.params12] at ht
        have hm : t ∈ [24, 3, 3, 3, 3] := by simpa using Array.mem_of_getElem? ht
        have hall : ([24, 3, 3, 3, 3].all fun u => !Tryz.prog.wantsStandIn u) = true := by kernel_rfl
        exact (show Tryz.prog.wantsStandIn t = false by simpa using List.all_eq_true.1 hall t hm)⟩)
    FnString_goes
#print axioms fnString_card

end Go.Proofs.YtcbliojofnigdaaGreatDoor
