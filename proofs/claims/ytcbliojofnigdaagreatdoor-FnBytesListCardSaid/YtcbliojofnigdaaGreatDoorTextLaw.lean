/- A text without verbs, by doPrintf's model: doubled percent signs become one. -/
import Derived.Test.YtcbliojofnigdaaGreatDoorDpLaws
namespace Go.Proofs.YtcbliojofnigdaaGreatDoor
open Go Go.Proofs Go.RowKit

/-- percent signs doubled -/
def dbl : Bytes → Bytes
  | [] => []
  | c :: r => if c = 37 then 37 :: 37 :: dbl r else c :: dbl r

theorem size_list (t : ByteArray) : t.size = t.data.toList.length := by rw [Array.length_toList]; rfl
theorem bt_at {t : ByteArray} {p q : Bytes} {c : UInt8} (h : t.data.toList = p ++ c :: q) : p.length < t.size ∧ bt t p.length = c.toNat := by
  have hlt : p.length < t.size := by rw [size_list, h]; simp
  refine ⟨hlt, ?_⟩
  rw [← bt_eq t _ hlt]
  have e : t[p.length] = t.data.toList[p.length]'(by rw [← size_list]; exact hlt) := by
    rw [Array.getElem_toList]; rfl
  rw [e]
  simp [h]
theorem extract_mid {t : ByteArray} {p a q : Bytes} (h : t.data.toList = p ++ (a ++ q)) : (t.extract p.length (p.length + a.length)).data.toList = a := by
  rw [ByteArray.data_extract, Array.toList_extract, h]
  simp [List.extract]
theorem txtEnd_at {t : ByteArray} {q : Bytes} (hq : q = [] ∨ ∃ r, q = 37 :: r) : ∀ (a p : Bytes) (f : Nat), t.data.toList = p ++ (a ++ q) → (∀ c ∈ a, c ≠ 37) → a.length ≤ f → txtEnd t f p.length = p.length + a.length
  | [], p, f, h, _, _ => by
    cases f with
    | zero => rfl
    | succ f =>
      rw [txtEnd, if_neg]
      · rfl
      · rintro ⟨h1, h2⟩
        rcases hq with rfl | ⟨r, rfl⟩
        · rw [size_list, h] at h1; simp at h1
        · exact h2 (bt_at (by simpa using h)).2
  | c :: a, p, f, h, hc, hf => by
    obtain ⟨g, rfl⟩ : ∃ g, f = g + 1 := ⟨f - 1, by simp only [List.length_cons] at hf; omega⟩
    have hb := bt_at (t := t) (p := p) (q := a ++ q) (c := c) (by simpa using h)
    rw [txtEnd, if_pos]
    · have := txtEnd_at hq a (p ++ [c]) g (by simpa using h) (fun x hx => hc x (List.mem_cons_of_mem _ hx)) (by simp only [List.length_cons] at hf; omega)
      simp only [List.length_append, List.length_cons, List.length_nil] at this
      rw [this]
      simp only [List.length_cons]; omega
    · refine ⟨hb.1, ?_⟩
      rw [hb.2]
      intro he
      apply hc c (List.mem_cons_self ..)
      apply UInt8.toNat_inj.1
      exact Int.ofNat.inj he

theorem dbl_split : ∀ r : Bytes, ∃ a r', r = a ++ r' ∧ dbl r = a ++ dbl r' ∧ (∀ c ∈ a, c ≠ 37) ∧ (r' = [] ∨ ∃ r'', r' = 37 :: r'')
  | [] => ⟨[], [], rfl, rfl, by simp, .inl rfl⟩
  | c :: r => by
    by_cases hc : c = 37
    · exact ⟨[], c :: r, rfl, rfl, by simp, .inr ⟨r, by rw [hc]⟩⟩
    · obtain ⟨a, r', h1, h2, h3, h4⟩ := dbl_split r
      refine ⟨c :: a, r', by rw [h1]; rfl, by rw [dbl, if_neg hc, h2]; rfl, ?_, h4⟩
      intro x hx
      rcases List.mem_cons.1 hx with rfl | hx
      · exact hc
      · exact h3 x hx

theorem dpM_end {t : ByteArray} {l : List Arg} {pa : Arg → Int → Fl → Option Bytes} {f : Nat} {d : D} (h : ¬ d.i < t.size) : dpM t l pa f d = finD l pa d := by
  cases f <;> rw [dpM, if_neg h]
theorem finD_none {pa : Arg → Int → Fl → Option Bytes} {d : D} : finD [] pa d = some d.s.out := by
  unfold finD
  rw [if_neg (by rintro ⟨_, h⟩; simp at h)]

/-- a second percent sign -/
theorem dirD_pct {t : ByteArray} {pa : Arg → Int → Fl → Option Bytes} {next fin : D → Option Bytes} {d : D} (hi : d.i < t.size) (hb : bt t d.i = 37) :
    ∃ d', dirD t [] pa next fin (flagD t t.size d) = next d' ∧ d'.s.out = d.s.out ++ [37] ∧ d'.s.reord = d.s.reord ∧ d'.i = d.i + 1 ∧ d'.k = d.k := by
  have hfl : flagD t t.size d = d := by
    cases h : t.size with
    | zero => rfl
    | succ n =>
      rw [flagD, if_neg]
      rw [hb]
      rintro ⟨_, h⟩
      revert h; decide
  have hpn : parsenumM t d.i t.size = (0, false, d.i) := by
    unfold parsenumM
    rw [if_neg (by omega), pnum_stop _ _ _ _ _ _ (by rw [hb]; omega)]
  rw [hfl]
  unfold dirD
  rw [if_neg (by rw [hb]; omega)]
  have e1 : idxD t ([] : List Arg).length d = { d with af := false } := by
    unfold idxD
    rw [if_pos (.inr (by rw [hb]; decide))]
  have e2 : widD t [] { d with af := false } = ⟨d.s.setFl (d.s.fl.setWid 0 false), d.i, d.k, false⟩ := by
    unfold widD
    rw [if_neg (by simp only [hb]; omega)]
    simp only [hpn]
    rfl
  have e3 : precD t [] ⟨d.s.setFl (d.s.fl.setWid 0 false), d.i, d.k, false⟩ = ⟨d.s.setFl (d.s.fl.setWid 0 false), d.i, d.k, false⟩ := by
    unfold precD
    rw [if_neg (by simp only [hb]; omega)]
  have e4 : idx2D t ([] : List Arg).length ⟨d.s.setFl (d.s.fl.setWid 0 false), d.i, d.k, false⟩ = ⟨d.s.setFl (d.s.fl.setWid 0 false), d.i, d.k, false⟩ := by
    unfold idx2D
    rw [if_neg (by simp)]
    unfold idxD
    rw [if_pos (.inr (by simp only [hb]; decide))]
  rw [e1, e2, e3, e4]
  unfold verbD
  rw [if_neg (by simp only; omega), if_neg (by simp only [hb]; omega)]
  simp only [hb]
  rw [if_pos trivial]
  exact ⟨_, rfl, rfl, rfl, rfl, rfl⟩

theorem dpM_dbl (pa : Arg → Int → Fl → Option Bytes) (t : ByteArray) : ∀ (f : Nat) (p r : Bytes) (d : D), t.data.toList = p ++ dbl r → d.i = p.length → d.s.reord = false → (dbl r).length ≤ f →
    dpM t [] pa f d = some (d.s.out ++ r) := by
  intro f
  induction f with
  | zero =>
    intro p r d ht hi hr hf
    have h0 : dbl r = [] := List.eq_nil_of_length_eq_zero (by omega)
    have hr0 : r = [] := by
      cases r with
      | nil => rfl
      | cons c r => exfalso; revert h0; rw [dbl]; split <;> simp
    rw [dpM_end, finD_none, hr0, List.append_nil]
    rw [hi, size_list, ht, h0]; simp
  | succ f ih =>
    intro p r d ht hi hr hf
    by_cases hlt : d.i < t.size
    · obtain ⟨a, r', h1, h2, h3, h4⟩ := dbl_split r
      rw [dpM, if_pos hlt]
      have htt : t.data.toList = p ++ (a ++ dbl r') := by rw [ht, h2]
      have hj : txtEnd t (t.size - d.i) d.i = p.length + a.length := by
        rw [hi]
        refine txtEnd_at (q := dbl r') ?_ a p _ htt h3 ?_
        · rcases h4 with rfl | ⟨r'', rfl⟩
          · exact .inl rfl
          · exact .inr ⟨37 :: dbl r'', by rw [dbl, if_pos rfl]⟩
        · rw [size_list, htt]; simp only [List.length_append]; omega
      have hx : (t.extract d.i (p.length + a.length)).data.toList = a := by rw [hi]; exact extract_mid htt
      have e0 : txtD t d = ⟨({ d.s with good := true } : PS).put a, p.length + a.length, d.k, d.af⟩ := by
        unfold txtD
        simp only [hj, hx]
      rw [e0]
      unfold pctD
      rcases h4 with rfl | ⟨r'', rfl⟩
      · rw [if_pos (by simp only; rw [size_list, htt]; simp [dbl]), finD_none, h1, List.append_nil]
        rfl
      · have hd : dbl (37 :: r'') = 37 :: 37 :: dbl r'' := by rw [dbl, if_pos rfl]
        rw [hd] at htt
        have hb1 := bt_at (t := t) (p := p ++ a) (c := 37) (q := 37 :: dbl r'') (by rw [htt]; simp)
        have hb2 := bt_at (t := t) (p := p ++ a ++ [37]) (c := 37) (q := dbl r'') (by rw [htt]; simp)
        simp only [List.length_append, List.length_cons, List.length_nil] at hb1 hb2
        rw [if_neg (by simp only; omega)]
        obtain ⟨d', e1, e2, e3, e4, e5⟩ := dirD_pct (t := t) (pa := pa) (next := dpM t [] pa f) (fin := finD [] pa)
          (d := ⟨(({ d.s with good := true } : PS).put a).setFl {}, p.length + a.length + 1, d.k, d.af⟩) (by simp only; omega) (by simp only; rw [hb2.2]; rfl)
        simp only at e1 e2 e3 e4 e5 ⊢
        rw [e1, ih (p ++ a ++ [37, 37]) r'' d' (by rw [htt]; simp) (by rw [e4]; simp only [List.length_append, List.length_cons, List.length_nil]) (by rw [e3]; exact hr) (by
          rw [h2, hd] at hf; simp only [List.length_append, List.length_cons] at hf; omega), e2, h1]
        simp [PS.setFl, PS.put]
    · have h0 : dbl r = [] := by
        apply List.eq_nil_of_length_eq_zero
        rw [hi, size_list, ht, List.length_append] at hlt
        omega
      have hr0 : r = [] := by
        cases r with
        | nil => rfl
        | cons c r => exfalso; revert h0; rw [dbl]; split <;> simp
      rw [dpM_end hlt, finD_none, hr0, List.append_nil]

theorem dbl_len : ∀ r : Bytes, (dbl r).length ≤ 2 * r.length
  | [] => Nat.le_refl _
  | c :: r => by
    have := dbl_len r
    rw [dbl]
    split <;> simp only [List.length_cons] <;> omega
theorem dbl_app : ∀ r q : Bytes, dbl (r ++ q) = dbl r ++ dbl q
  | [], _ => rfl
  | c :: r, q => by
    rw [List.cons_append, dbl, dbl, dbl_app r q]
    split <;> rfl
theorem dbl_self : ∀ r : Bytes, (∀ c ∈ r, c ≠ 37) → dbl r = r
  | [], _ => rfl
  | c :: r, h => by rw [dbl, if_neg (h c (List.mem_cons_self ..)), dbl_self r fun x hx => h x (List.mem_cons_of_mem _ hx)]

end Go.Proofs.YtcbliojofnigdaaGreatDoor
