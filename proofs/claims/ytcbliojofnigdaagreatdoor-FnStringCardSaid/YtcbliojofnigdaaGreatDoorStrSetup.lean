/- What FnString's formats and texts are. -/
import Derived.Test.YtcbliojofnigdaaGreatDoorStrW
import Derived.Test.YtcbliojofnigdaaGreatDoorHexSpec
namespace Go.Proofs.YtcbliojofnigdaaGreatDoor
open Go Go.Proofs Go.RowKit

theorem truncB_spec (f : Fl) (g : SF) (t : Bytes) (h7 : f.precP = g.hasPrec) (h8 : f.prec = g.prec) : truncB f t = if g.hasPrec then firstB g.prec.toNat t else t := by
  unfold truncB; rw [h7, h8]

/-- an argument with a text -/
theorem text_arg (z : LA) (hk : 15 ≤ z.kind ∧ z.kind ≤ 18) (hz : z.text.size ≤ 4096) : ∃ a, argOf z = some a ∧ ∀ (r : Int) (f : Fl), (r = 118 ∨ r = 115 ∨ r = 120 ∨ r = 88) → (r = 118 → z.kind ≠ 16) → f.sharpV = false → (f.precP = true → 0 ≤ f.prec ∧ f.prec ≤ 1000000) → paS a r f = some (strM f r z.text.data.toList) := by
  obtain ⟨kind, bits, text⟩ := z
  simp only at hk hz
  have hsz : text.data.toList.length = text.size := (size_list text).symm
  rcases (by omega : kind = 15 ∨ kind = 16 ∨ kind = 17 ∨ kind = 18) with rfl | rfl | rfl | rfl
  · refine ⟨.str text, rfl, fun r f hr _ hs hp => ?_⟩
    unfold paS
    simp only
    rw [if_pos ⟨hr, hs, by omega, hp⟩]
  · refine ⟨.bytes text.data.toList, ?_, fun r f hr h16 hs hp => ?_⟩
    · unfold argOf
      simp only
      rw [if_neg (by decide), if_neg (by decide), if_neg (by decide), if_neg (by decide), if_neg (by decide), if_neg (by decide), if_neg (by decide), if_neg (by decide), if_neg (by decide), if_neg (by decide), if_neg (by decide), if_neg (by decide), if_neg (by decide), if_neg (by decide), if_pos trivial, if_pos (by omega)]
    · have h118 : r ≠ 118 := fun h => h16 h rfl
      unfold paS
      simp only
      rw [if_pos ⟨by omega, by omega, hp⟩]
  · refine ⟨.err text, rfl, fun r f hr _ hs hp => ?_⟩
    unfold paS
    simp only
    rw [if_pos ⟨hr, hs, by omega, hp⟩]
  · refine ⟨.strg text, rfl, fun r f hr _ hs hp => ?_⟩
    unfold paS
    simp only
    rw [if_pos ⟨hr, hs, by omega, hp⟩]

theorem strM_len (f : Fl) (r : Int) (t : Bytes) : (strM f r t).length ≤ 5 * t.length + f.wid.toNat := by
  unfold strM
  split
  · have h1 := padM_length f (truncB f t)
    have h2 := truncB_len f t
    omega
  · exact hexM_len f _ t

/-- the printer's flags by a verb of texts, beside the reference's -/
theorem fl_facts (b0 b1 b2 b3 b4 : Bool) (r : Nat) (p : Option Nat) (v : Int) (hv : v = 118 → b2 = false) : ((flOf b0 b1 b2 b3 b4 r p).forVerb v).sharpV = false ∧ ((flOf b0 b1 b2 b3 b4 r p).forVerb v).widP = (sfOf b0 b1 b2 b3 b4 r p).hasWid ∧ ((flOf b0 b1 b2 b3 b4 r p).forVerb v).wid = (r : Int) ∧ ((flOf b0 b1 b2 b3 b4 r p).forVerb v).minus = b0 ∧ ((flOf b0 b1 b2 b3 b4 r p).forVerb v).sharp = b2 ∧ ((flOf b0 b1 b2 b3 b4 r p).forVerb v).space = b3 ∧ ((flOf b0 b1 b2 b3 b4 r p).forVerb v).zero = (b4 && !b0) ∧ ((flOf b0 b1 b2 b3 b4 r p).forVerb v).precP = p.isSome ∧ ((flOf b0 b1 b2 b3 b4 r p).forVerb v).prec = ((p.getD 0 : Nat) : Int) := by
  unfold Fl.forVerb
  split
  · rename_i h118
    have hb2 := hv h118
    subst hb2
    exact ⟨rfl, rfl, rfl, rfl, rfl, rfl, rfl, rfl, rfl⟩
  · exact ⟨rfl, rfl, rfl, rfl, rfl, rfl, rfl, rfl, rfl⟩

/-- one text by one verb -/
theorem one_text (z : LA) (hk : 15 ≤ z.kind ∧ z.kind ≤ 18) (hz : z.text.size ≤ 4096) (h0 : 0 ≤ z.bits) (h1 : z.bits ≤ 18446744073709551615) (b0 b1 b2 b3 b4 : Bool) (r : Nat) (p : Option Nat) (hr : r < 200) (hp : ∀ k, p = some k → k < 200) (vb : UInt8) (hvb : vb = 118 ∨ vb = 115 ∨ vb = 120 ∨ vb = 88) (h16 : vb = 118 → z.kind ≠ 16) (h118 : vb = 118 → b2 = false) (w : World) (hT : Tabs w) :
    Calls Tryz.prog 20 #[.string (⟨(fmtOf b0 b1 b2 b3 b4 r p).toArray⟩ ++ ⟨#[vb]⟩), z.val] w fun e w' => e = .returned (.string ⟨(strM ((flOf b0 b1 b2 b3 b4 r p).forVerb vb.toNat) vb.toNat z.text.data.toList).toArray⟩) ∧ Only none w w' := by
  have e : (⟨(fmtOf b0 b1 b2 b3 b4 r p).toArray⟩ : ByteArray) ++ ⟨#[vb]⟩ = ⟨(fmtOf b0 b1 b2 b3 b4 r p ++ [vb]).toArray⟩ := (str_of (by rw [append_list])).symm
  rw [e]
  obtain ⟨a, ha, hpa⟩ := text_arg z hk hz
  have hvi : (vb.toNat : Int) = 118 ∨ (vb.toNat : Int) = 115 ∨ (vb.toNat : Int) = 120 ∨ (vb.toNat : Int) = 88 := by rcases hvb with rfl | rfl | rfl | rfl <;> decide
  have hback : (vb.toNat : Int) = 118 → vb = 118 := by rcases hvb with rfl | rfl | rfl | rfl <;> decide
  obtain ⟨f1, f2, f3, f4, f5, f6, f7, f8, f9⟩ := fl_facts b0 b1 b2 b3 b4 r p vb.toNat (fun h => h118 (hback h))
  have hlen := strM_len ((flOf b0 b1 b2 b3 b4 r p).forVerb vb.toNat) vb.toNat z.text.data.toList
  rw [f3, ← size_list] at hlen
  refine one_fl_rel b0 b1 b2 b3 b4 r p hr hp vb (by rcases hvb with rfl | rfl | rfl | rfl <;> (unfold verbB; decide)) (by rcases hvb with rfl | rfl | rfl | rfl <;> decide) (known_one ha h0 h1) _ (show _ ≤ _ by omega) ?_ w (paS_rel w hT a)
  refine hpa _ _ hvi (fun h => h16 (hback h)) f1 (fun _ => ?_)
  rw [f9]
  have : p.getD 0 < 200 := by
    cases p with
    | none => decide
    | some k => exact hp k rfl
  omega

/-- by the verbs s and v: the reference's String -/
theorem text_sv (b0 b1 b2 b3 b4 : Bool) (r : Nat) (p : Option Nat) (v : Int) (hv : v = 118 ∨ v = 115) (h118 : v = 118 → b2 = false) (t : Bytes) : strM ((flOf b0 b1 b2 b3 b4 r p).forVerb v) v t = specStr (sfOf b0 b1 b2 b3 b4 r p) t := by
  obtain ⟨f1, f2, f3, f4, f5, f6, f7, f8, f9⟩ := fl_facts b0 b1 b2 b3 b4 r p v h118
  unfold strM specStr
  rw [if_pos hv, truncB_spec _ (sfOf b0 b1 b2 b3 b4 r p) t f8 f9]
  refine padM_spec _ (sfOf b0 b1 b2 b3 b4 r p) f2 (fun hw => ?_) f4 f7 _
  have : r ≠ 0 := of_decide_eq_true hw
  exact ⟨f3, by rw [f3]; omega⟩
/-- by the verbs x and X: the reference's Bytes -/
theorem text_x (b0 b1 b2 b3 b4 : Bool) (r : Nat) (p : Option Nat) (v : Int) (hv : v = 120 ∨ v = 88) (t y : Bytes) (hy : specHex (sfOf b0 b1 b2 b3 b4 r p) (decide (v = 88)) t = some y) : strM ((flOf b0 b1 b2 b3 b4 r p).forVerb v) v t = y := by
  obtain ⟨f1, f2, f3, f4, f5, f6, f7, f8, f9⟩ := fl_facts b0 b1 b2 b3 b4 r p v (by omega)
  unfold strM
  rw [if_neg (by omega)]
  refine hexM_spec _ (sfOf b0 b1 b2 b3 b4 r p) _ t y f2 (fun hw => ?_) f4 f7 f5 f6 f8 f9 hy
  have : r ≠ 0 := of_decide_eq_true hw
  exact ⟨f3, by rw [f3]; omega⟩

end Go.Proofs.YtcbliojofnigdaaGreatDoor
