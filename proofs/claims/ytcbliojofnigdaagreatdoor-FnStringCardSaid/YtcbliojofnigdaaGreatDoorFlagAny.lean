/- The laws' flags: every bits, width and precision. -/
import Derived.Test.YtcbliojofnigdaaGreatDoorFlagNA
import Derived.Test.YtcbliojofnigdaaGreatDoorFlagNB
import Derived.Test.YtcbliojofnigdaaGreatDoorFlagPA
import Derived.Test.YtcbliojofnigdaaGreatDoorFlagPB
namespace Go.Proofs.YtcbliojofnigdaaGreatDoor
open Go Go.Proofs Go.RowKit

theorem flags_any (n wid prec : Int) : ∃ (b0 b1 b2 b3 b4 : Bool) (r : Nat) (p : Option Nat), r < 200 ∧ (∀ k, p = some k → k < 200) ∧ ∀ w : World, Calls Tryz.prog 21 #[.int .i64 n, .int .i64 wid, .int .i64 prec] w fun e w' => e = .returned (.tuple #[(sfOf b0 b1 b2 b3 b4 r p).val, .string ⟨(fmtOf b0 b1 b2 b3 b4 r p).toArray⟩]) ∧ Only none w w' := by
  have key : wid < 0 ∨ (0 ≤ wid ∧ wid % 200 = 0) ∨ (0 ≤ wid ∧ ∃ r : Nat, wid % 200 = (r : Int) ∧ 0 < r ∧ r < 200) := by
    by_cases h : wid < 0
    · exact .inl h
    · by_cases h2 : wid % 200 = 0
      · exact .inr (.inl ⟨by omega, h2⟩)
      · exact .inr (.inr ⟨by omega, (wid % 200).toNat, by omega, by omega, by omega⟩)
  by_cases hp : prec < 0
  · cases k0 : bitN n 0 <;> cases k4 : bitN n 4 <;> rcases key with h | ⟨h, h2⟩ | ⟨h, r, h2, h3, h4⟩
    · exact ⟨_, _, _, _, _, 0, none, by decide, (fun _ h => by cases h), fun w => flags_ff_nn n wid prec k0 k4 h hp w⟩
    · exact ⟨_, _, _, _, _, 0, none, by decide, (fun _ h => by cases h), fun w => flags_ff_zn n wid prec k0 k4 h h2 hp w⟩
    · exact ⟨_, _, _, _, _, r, none, h4, (fun _ h => by cases h), fun w => flags_ff_pn n wid prec k0 k4 h r h2 h3 hp w⟩
    · exact ⟨_, _, _, _, _, 0, none, by decide, (fun _ h => by cases h), fun w => flags_ft_nn n wid prec k0 k4 h hp w⟩
    · exact ⟨_, _, _, _, _, 0, none, by decide, (fun _ h => by cases h), fun w => flags_ft_zn n wid prec k0 k4 h h2 hp w⟩
    · exact ⟨_, _, _, _, _, r, none, h4, (fun _ h => by cases h), fun w => flags_ft_pn n wid prec k0 k4 h r h2 h3 hp w⟩
    · exact ⟨_, _, _, _, _, 0, none, by decide, (fun _ h => by cases h), fun w => flags_tf_nn n wid prec k0 k4 h hp w⟩
    · exact ⟨_, _, _, _, _, 0, none, by decide, (fun _ h => by cases h), fun w => flags_tf_zn n wid prec k0 k4 h h2 hp w⟩
    · exact ⟨_, _, _, _, _, r, none, h4, (fun _ h => by cases h), fun w => flags_tf_pn n wid prec k0 k4 h r h2 h3 hp w⟩
    · exact ⟨_, _, _, _, _, 0, none, by decide, (fun _ h => by cases h), fun w => flags_tt_nn n wid prec k0 k4 h hp w⟩
    · exact ⟨_, _, _, _, _, 0, none, by decide, (fun _ h => by cases h), fun w => flags_tt_zn n wid prec k0 k4 h h2 hp w⟩
    · exact ⟨_, _, _, _, _, r, none, h4, (fun _ h => by cases h), fun w => flags_tt_pn n wid prec k0 k4 h r h2 h3 hp w⟩
  · obtain ⟨p, hpr, hp9⟩ : ∃ p : Nat, prec % 200 = (p : Int) ∧ p < 200 := ⟨(prec % 200).toNat, by omega, by omega⟩
    have hp0 : 0 ≤ prec := by omega
    have hpp : ∀ k, some p = some k → k < 200 := fun k h => by cases h; exact hp9
    cases k0 : bitN n 0 <;> cases k4 : bitN n 4 <;> rcases key with h | ⟨h, h2⟩ | ⟨h, r, h2, h3, h4⟩
    · exact ⟨_, _, _, _, _, 0, some p, by decide, hpp, fun w => flags_ff_np n wid prec k0 k4 h hp0 p hpr w⟩
    · exact ⟨_, _, _, _, _, 0, some p, by decide, hpp, fun w => flags_ff_zp n wid prec k0 k4 h h2 hp0 p hpr w⟩
    · exact ⟨_, _, _, _, _, r, some p, h4, hpp, fun w => flags_ff_pp n wid prec k0 k4 h r h2 h3 hp0 p hpr w⟩
    · exact ⟨_, _, _, _, _, 0, some p, by decide, hpp, fun w => flags_ft_np n wid prec k0 k4 h hp0 p hpr w⟩
    · exact ⟨_, _, _, _, _, 0, some p, by decide, hpp, fun w => flags_ft_zp n wid prec k0 k4 h h2 hp0 p hpr w⟩
    · exact ⟨_, _, _, _, _, r, some p, h4, hpp, fun w => flags_ft_pp n wid prec k0 k4 h r h2 h3 hp0 p hpr w⟩
    · exact ⟨_, _, _, _, _, 0, some p, by decide, hpp, fun w => flags_tf_np n wid prec k0 k4 h hp0 p hpr w⟩
    · exact ⟨_, _, _, _, _, 0, some p, by decide, hpp, fun w => flags_tf_zp n wid prec k0 k4 h h2 hp0 p hpr w⟩
    · exact ⟨_, _, _, _, _, r, some p, h4, hpp, fun w => flags_tf_pp n wid prec k0 k4 h r h2 h3 hp0 p hpr w⟩
    · exact ⟨_, _, _, _, _, 0, some p, by decide, hpp, fun w => flags_tt_np n wid prec k0 k4 h hp0 p hpr w⟩
    · exact ⟨_, _, _, _, _, 0, some p, by decide, hpp, fun w => flags_tt_zp n wid prec k0 k4 h h2 hp0 p hpr w⟩
    · exact ⟨_, _, _, _, _, r, some p, h4, hpp, fun w => flags_tt_pp n wid prec k0 k4 h r h2 h3 hp0 p hpr w⟩

end Go.Proofs.YtcbliojofnigdaaGreatDoor
