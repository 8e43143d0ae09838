/- FnQuoted: the law's walk. -/
import Derived.Test.YtcbliojofnigdaaGreatDoorUnqW
import Derived.Test.YtcbliojofnigdaaGreatDoorPaInt
import Derived.Test.YtcbliojofnigdaaGreatDoorIntSpec
import Derived.Lib.PrintData
set_option linter.unusedVariables false
set_option linter.unusedSimpArgs false
namespace Go.Proofs.YtcbliojofnigdaaGreatDoor
open Go Go.Proofs Go.RowKit

/-- an argument with a text, by the verb q -/
theorem text_argQ (T : Lib.PrintTabs) (z : LA) (hk : 15 ≤ z.kind ∧ z.kind ≤ 18) (hz : z.text.size ≤ 4096) : ∃ a, argOf z = some a ∧ ∀ f : Fl, PlainQ f → f.sharpV = false → paQ T a 113 f = some (padM f (quoB T z.text)) := by
  obtain ⟨kind, bits, text⟩ := z
  simp only at hk hz
  have hsz : text.data.toList.length = text.size := (size_list text).symm
  rcases (by omega : kind = 15 ∨ kind = 16 ∨ kind = 17 ∨ kind = 18) with rfl | rfl | rfl | rfl
  · refine ⟨.str text, rfl, fun f hq hs => ?_⟩
    unfold paQ
    simp only
    rw [if_pos ⟨trivial, hq, hs, by omega⟩]
  · refine ⟨.bytes text.data.toList, ?_, fun f hq hs => ?_⟩
    · unfold argOf
      simp only
      rw [if_neg (by decide), if_neg (by decide), if_neg (by decide), if_neg (by decide), if_neg (by decide), if_neg (by decide), if_neg (by decide), if_neg (by decide), if_neg (by decide), if_neg (by decide), if_neg (by decide), if_neg (by decide), if_neg (by decide), if_neg (by decide), if_pos trivial, if_pos (by omega)]
    · unfold paQ
      simp only
      rw [if_pos ⟨trivial, hq, by omega⟩]
  · refine ⟨.err text, rfl, fun f hq hs => ?_⟩
    unfold paQ
    simp only
    rw [if_pos ⟨trivial, hq, hs, by omega⟩]
  · refine ⟨.strg text, rfl, fun f hq hs => ?_⟩
    unfold paQ
    simp only
    rw [if_pos ⟨trivial, hq, hs, by omega⟩]

theorem one_q (T : Lib.PrintTabs) (k : Int) (hk : 15 ≤ k ∧ k ≤ 18) (t : ByteArray) (hz : t.size ≤ 4096) (w : World) (hT : PT T w) :
    Calls Tryz.prog 20 #[.string ⟨#[37, 113]⟩, .agg #[.int .i64 k, .int .u64 0, .string t]] w fun e w' => e = .returned (.string ⟨(quoB T t).toArray⟩) ∧ Only none w w' := by
  obtain ⟨a, ha, hpa⟩ := text_argQ T ⟨k, 0, t⟩ hk hz
  have hl := quoB_len T t
  have hf : (flOf false false false false false 0 none).forVerb ((113 : UInt8).toNat) = {} := by unfold Fl.forVerb; split <;> rfl
  refine one_fl_rel false false false false false 0 none (by decide) (fun _ h => by cases h) 113 (by unfold verbB; decide) (by decide) (pa := paQ T) (known_one ha (Int.le_refl 0) (show (0 : Int) ≤ 18446744073709551615 by decide)) _ ?_ ?_ w (paQ_rel T w hT a)
  · show _ ≤ 35184372088832
    omega
  · rw [hf]
    exact hpa {} ⟨rfl, rfl, rfl⟩ rfl

set_option maxRecDepth 100000 in
set_option maxHeartbeats 4000000 in
theorem FnQuoted_some (T : Lib.PrintTabs) (t : ByteArray) (hs : t.size ≤ 4096) (k : Int) (w : World) (hT : PT T w) : Calls Tryz.prog 11 #[.string t, .int .i64 k] w fun e w' => e = .returned (.bool true) ∧ Below w.heap.size w w' := by
  have h1 : ¬ 2147483647 < (t.size : Int) := by omega
  have h2 : ¬ 4096 < (t.size : Int) := by omega
  obtain ⟨X, hX⟩ : ∃ X : ByteArray, X = ⟨(quoB T t).toArray⟩ := ⟨_, rfl⟩
  have hXl : X.data.toList = quoB T t := by rw [hX]
  have C20 := fun k hk W hT => one_q T k hk t hs W hT
  rw [← hX] at C20
  have C40 := fun W => Unquote_any T t X (by omega) hXl W
  have hx0 : 0 < X.size := by
    rw [size_at hXl]
    unfold quoB Lib.quoteZ
    simp
  have hx1 : ((X[0]'hx0).toNat : Int) = 34 := by
    rw [bt_eq, show bt X 0 = ((X.get! 0).toNat : Int) from rfl, get_at hXl 0 34 (by unfold quoB Lib.quoteZ; rfl)]
    rfl
  have C17 := fun W => below_4 k W
  have H20 := Lib.hid C20
  have H40 := Lib.hid C40
  have HT := Lib.hid hT
  clear hs hX hXl C20 C40 hT
  obtain ⟨j, hj⟩ : ∃ j, j = k % 4 := ⟨_, rfl⟩
  simp only [← hj] at C17
  have H17 := Lib.hid C17
  clear C17
  rcases (by omega : j = 0 ∨ j = 1 ∨ j = 2 ∨ j = 3) with rfl | rfl | rfl | rfl
  all_goals
    clear hj
    go_enter Tryz.func11, Tryz.ntmps11
    go_wp2_with (first | (go_at_call 17; refine (H17.out _).mono ?_; rintro e w2 ⟨rfl, rfl⟩) | (go_at_call 20; refine (H20.out _ (by decide) _ (HT.out.only ((Only.refl _ _).alloc _))).mono ?_; rintro e w3 ⟨rfl, hO1⟩) | (go_at_call 40; refine (H40.out _).mono ?_; rintro e w4 ⟨rfl, hO2⟩))
    go_ret
    exact ⟨rfl, Only.below ((((Only.refl _ _).alloc _).trans hO1).trans hO2)⟩

set_option maxRecDepth 100000 in
set_option maxHeartbeats 4000000 in
theorem FnQuoted_walk (t : ByteArray) (hs : t.size ≤ maxLen) (k : Int) (w : World) (hT : PT Lib.goPrintTabs w) : Calls Tryz.prog 11 #[.string t, .int .i64 k] w fun e w' => e = .returned (.bool true) ∧ Below w.heap.size w w' := by
  have hs0 : (t.size : Int) ≤ 9223372036854775807 := by unfold maxLen at hs; omega
  clear hs
  by_cases h1 : 2147483647 < (t.size : Int)
  · clear hT
    go_enter Tryz.func11, Tryz.ntmps11
    go_wp2
    go_ret
    exact ⟨rfl, Below.refl _ _⟩
  by_cases h2 : 4096 < (t.size : Int)
  · clear hT
    go_enter Tryz.func11, Tryz.ntmps11
    go_wp2
    go_ret
    exact ⟨rfl, Below.refl _ _⟩
  exact FnQuoted_some _ t (by omega) k w hT

end Go.Proofs.YtcbliojofnigdaaGreatDoor
