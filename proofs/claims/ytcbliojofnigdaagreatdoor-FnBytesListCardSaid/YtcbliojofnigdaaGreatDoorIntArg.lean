/- asInt of an argument, intFromArg. -/
import Derived.Test.YtcbliojofnigdaaGreatDoorAsInt
namespace Go.Proofs.YtcbliojofnigdaaGreatDoor
open Go Go.Proofs Go.RowKit

theorem asInt_any {b : Nat} {w : World} {v x : Value} {a : Arg} (h : ArgIs b w v x a) (W : World) : Calls Tryz.prog 100 #[x] W (AiAns a.num W) := by
  cases a with
  | nil => cases h; exact asInt_n W
  | bool y => cases h; exact asInt_4 _ W
  | f32 y => obtain ⟨rfl, _⟩ := h; exact asInt_149 _ W
  | f64 y => obtain ⟨rfl, _⟩ := h; exact asInt_151 _ W
  | str y => cases h; exact asInt_9 _ W
  | bytes y => obtain ⟨u, rfl, _⟩ := h; exact asInt_26 _ W
  | err y => cases h; exact asInt_164 _ W
  | strg y => cases h; exact asInt_165 _ W
  | int ty k n =>
    obtain ⟨rfl, ⟨nm, hm⟩, h1, h2⟩ := h
    have hnum : Arg.num (.int ty k n) = if n ≤ 9223372036854775807 then some n else none := rfl
    simp only [intTypes, List.mem_cons, Prod.mk.injEq, List.not_mem_nil, or_false] at hm
    rcases hm with ⟨rfl, rfl, _⟩ | ⟨rfl, rfl, _⟩ | ⟨rfl, rfl, _⟩ | ⟨rfl, rfl, _⟩ | ⟨rfl, rfl, _⟩ | ⟨rfl, rfl, _⟩ | ⟨rfl, rfl, _⟩ | ⟨rfl, rfl, _⟩ | ⟨rfl, rfl, _⟩ | ⟨rfl, rfl, _⟩ | ⟨rfl, rfl, _⟩ <;>
      simp only [IntKind.min, IntKind.max, IntKind.signed, IntKind.bits, if_true, if_false, Bool.false_eq_true] at h1 h2 <;> rw [hnum]
    · rw [if_pos (by omega)]; exact asInt_3 n (by omega) (by omega) W
    · rw [if_pos (by omega)]; exact asInt_83 n (by omega) (by omega) W
    · rw [if_pos (by omega)]; exact asInt_84 n (by omega) (by omega) W
    · rw [if_pos (by omega)]; exact asInt_21 n (by omega) (by omega) W
    · rw [if_pos (by omega)]; exact asInt_2 n (by omega) (by omega) W
    · split
      · exact asInt_88a n (by omega) (by omega) W
      · exact asInt_88b n (by omega) (by omega) W
    · rw [if_pos (by omega)]; exact asInt_5 n (by omega) (by omega) W
    · rw [if_pos (by omega)]; exact asInt_156 n (by omega) (by omega) W
    · rw [if_pos (by omega)]; exact asInt_53 n (by omega) (by omega) W
    · split
      · exact asInt_22a n (by omega) (by omega) W
      · exact asInt_22b n (by omega) (by omega) W
    · split
      · exact asInt_12a n (by omega) (by omega) W
      · exact asInt_12b n (by omega) (by omega) W

set_option maxRecDepth 100000 in
set_option maxHeartbeats 1000000 in
theorem intFromArg_any {b : Nat} {w : World} {v a : Value} {l : List Arg} (h : ArgsAt b w v a l) (k : Nat) (hk : k ≤ l.length) (hn : l.length ≤ 100000000) :
    Calls Tryz.prog 80 #[a, .int .i64 k] w fun e w' => e = .returned (.tuple #[.int .i64 (intFrom l k).1, .bool (intFrom l k).2.1, .int .i64 (intFrom l k).2.2]) ∧ w = w' := by
  obtain ⟨p, c, rfl⟩ := h.slice
  by_cases hlt : k < l.length
  · obtain ⟨ka, ao, x, rfl, hkb, hcell, hA⟩ := h.at hlt
    have hk? : l[k]? = some l[k] := by simp [hlt]
    have C := asInt_any hA w
    cases hm : (l[k]).num with
    | none =>
      have hr : intFrom l k = (0, false, k + 1) := by unfold intFrom; rw [hk?]; simp only [hm]
      rw [hm] at C
      rw [hr]
      have HC := Lib.hid C
      have ht : tooLargeB 0 = false := by decide
      clear h hA hk? hm C hr
      go_enter Tryz.func80, Tryz.ntmps80
      go_wp2_with (first | (go_at_call 100; refine (HC.out).mono ?_; rintro e w' ⟨rfl, rfl⟩) | (go_at_call 101; refine (tooLarge_any _ _).mono ?_; rintro e w' ⟨rfl, rfl⟩))
      go_ret3
      exact ⟨rfl, rfl⟩
    | some n =>
      rw [hm] at C
      have HC := Lib.hid C
      cases ht : tooLargeB n with
      | true =>
        have hr : intFrom l k = (0, false, k + 1) := by unfold intFrom; rw [hk?]; simp only [hm, ht]; rfl
        rw [hr]
        clear h hA hk? hm C hr
        go_enter Tryz.func80, Tryz.ntmps80
        go_wp2_with (first | (go_at_call 100; refine (HC.out).mono ?_; rintro e w' ⟨rfl, rfl⟩) | (go_at_call 101; refine (tooLarge_any _ _).mono ?_; rintro e w' ⟨rfl, rfl⟩))
        go_ret3
        exact ⟨rfl, rfl⟩
      | false =>
        have hr : intFrom l k = (n, true, k + 1) := by unfold intFrom; rw [hk?]; simp only [hm, ht]; rfl
        rw [hr]
        clear h hA hk? hm C hr
        go_enter Tryz.func80, Tryz.ntmps80
        go_wp2_with (first | (go_at_call 100; refine (HC.out).mono ?_; rintro e w' ⟨rfl, rfl⟩) | (go_at_call 101; refine (tooLarge_any _ _).mono ?_; rintro e w' ⟨rfl, rfl⟩))
        go_ret3
        exact ⟨rfl, rfl⟩
  · have hr : intFrom l k = (0, false, k) := by unfold intFrom; rw [List.getElem?_eq_none (by omega)]
    rw [hr]
    have ht : tooLargeB 0 = false := by decide
    clear h hr
    go_enter Tryz.func80, Tryz.ntmps80
    go_wp2_with (go_at_call 101; refine (tooLarge_any _ _).mono ?_; rintro e w' ⟨rfl, rfl⟩)
    go_ret3
    exact ⟨rfl, rfl⟩

end Go.Proofs.YtcbliojofnigdaaGreatDoor
