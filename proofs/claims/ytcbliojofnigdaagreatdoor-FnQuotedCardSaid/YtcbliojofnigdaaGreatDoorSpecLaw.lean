/- A text without verbs, by doPrintf's model: doubled percent signs become one. A format of one verb, by doPrintf's model: flags, width, precision, verb. Digits of a number, in plain Lean. The reference's flags and its filling up, in plain Lean; and the program's, by them. -/
import Derived.Test.YtcbliojofnigdaaGreatDoorFrame
namespace Go.Proofs.YtcbliojofnigdaaGreatDoor
open Go Go.Proofs Go.RowKit

/-- percent signs doubled -/
def dbl : Bytes → Bytes
  | [] => []
  | c :: r => if c = 37 then 37 :: 37 :: dbl r else c :: dbl r

theorem size_list (t : ByteArray) : t.size = t.data.toList.length := by rw [Array.length_toList]; rfl
theorem bt_at {t : ByteArray} {p q : Bytes} {c : UInt8} (h : t.data.toList = p ++ c :: q) : p.length < t.size ∧ bt t p.length = c.toNat := by
  have hlt : p.length < t.size := by rw [size_list, h]; simp
  refine ⟨hlt, ?_⟩
  rw [← bt_eq t _ hlt]
  have e : t[p.length] = t.data.toList[p.length]'(by rw [← size_list]; exact hlt) := by
    rw [Array.getElem_toList]; rfl
  rw [e]
  simp [h]
theorem extract_mid {t : ByteArray} {p a q : Bytes} (h : t.data.toList = p ++ (a ++ q)) : (t.extract p.length (p.length + a.length)).data.toList = a := by
  rw [ByteArray.data_extract, Array.toList_extract, h]
  simp [List.extract]
theorem txtEnd_at {t : ByteArray} {q : Bytes} (hq : q = [] ∨ ∃ r, q = 37 :: r) : ∀ (a p : Bytes) (f : Nat), t.data.toList = p ++ (a ++ q) → (∀ c ∈ a, c ≠ 37) → a.length ≤ f → txtEnd t f p.length = p.length + a.length
  | [], p, f, h, _, _ => by
    cases f with
    | zero => rfl
    | succ f =>
      rw [txtEnd, if_neg]
      · rfl
      · rintro ⟨h1, h2⟩
        rcases hq with rfl | ⟨r, rfl⟩
        · rw [size_list, h] at h1; simp at h1
        · exact h2 (bt_at (by simpa using h)).2
  | c :: a, p, f, h, hc, hf => by
    obtain ⟨g, rfl⟩ : ∃ g, f = g + 1 := ⟨f - 1, by simp only [List.length_cons] at hf; omega⟩
    have hb := bt_at (t := t) (p := p) (q := a ++ q) (c := c) (by simpa using h)
    rw [txtEnd, if_pos]
    · have := txtEnd_at hq a (p ++ [c]) g (by simpa using h) (fun x hx => hc x (List.mem_cons_of_mem _ hx)) (by simp only [List.length_cons] at hf; omega)
      simp only [List.length_append, List.length_cons, List.length_nil] at this
      rw [this]
      simp only [List.length_cons]; omega
    · refine ⟨hb.1, ?_⟩
      rw [hb.2]
      intro he
      apply hc c (List.mem_cons_self ..)
      apply UInt8.toNat_inj.1
      exact Int.ofNat.inj he

theorem dbl_split : ∀ r : Bytes, ∃ a r', r = a ++ r' ∧ dbl r = a ++ dbl r' ∧ (∀ c ∈ a, c ≠ 37) ∧ (r' = [] ∨ ∃ r'', r' = 37 :: r'')
  | [] => ⟨[], [], rfl, rfl, by simp, .inl rfl⟩
  | c :: r => by
    by_cases hc : c = 37
    · exact ⟨[], c :: r, rfl, rfl, by simp, .inr ⟨r, by rw [hc]⟩⟩
    · obtain ⟨a, r', h1, h2, h3, h4⟩ := dbl_split r
      refine ⟨c :: a, r', by rw [h1]; rfl, by rw [dbl, if_neg hc, h2]; rfl, ?_, h4⟩
      intro x hx
      rcases List.mem_cons.1 hx with rfl | hx
      · exact hc
      · exact h3 x hx

theorem dpM_end {t : ByteArray} {l : List Arg} {pa : Arg → Int → Fl → Option Bytes} {f : Nat} {d : D} (h : ¬ d.i < t.size) : dpM t l pa f d = finD l pa d := by
  cases f <;> rw [dpM, if_neg h]
theorem finD_none {pa : Arg → Int → Fl → Option Bytes} {d : D} : finD [] pa d = some d.s.out := by
  unfold finD
  rw [if_neg (by rintro ⟨_, h⟩; simp at h)]

/-- a second percent sign -/
theorem dirD_pct {t : ByteArray} {pa : Arg → Int → Fl → Option Bytes} {next fin : D → Option Bytes} {d : D} (hi : d.i < t.size) (hb : bt t d.i = 37) :
    ∃ d', dirD t [] pa next fin (flagD t t.size d) = next d' ∧ d'.s.out = d.s.out ++ [37] ∧ d'.s.reord = d.s.reord ∧ d'.i = d.i + 1 ∧ d'.k = d.k := by
  have hfl : flagD t t.size d = d := by
    cases h : t.size with
    | zero => rfl
    | succ n =>
      rw [flagD, if_neg]
      rw [hb]
      rintro ⟨_, h⟩
      revert h; decide
  have hpn : parsenumM t d.i t.size = (0, false, d.i) := by
    unfold parsenumM
    rw [if_neg (by omega), pnum_stop _ _ _ _ _ _ (by rw [hb]; omega)]
  rw [hfl]
  unfold dirD
  rw [if_neg (by rw [hb]; omega)]
  have e1 : idxD t ([] : List Arg).length d = { d with af := false } := by
    unfold idxD
    rw [if_pos (.inr (by rw [hb]; decide))]
  have e2 : widD t [] { d with af := false } = ⟨d.s.setFl (d.s.fl.setWid 0 false), d.i, d.k, false⟩ := by
    unfold widD
    rw [if_neg (by simp only [hb]; omega)]
    simp only [hpn]
    rfl
  have e3 : precD t [] ⟨d.s.setFl (d.s.fl.setWid 0 false), d.i, d.k, false⟩ = ⟨d.s.setFl (d.s.fl.setWid 0 false), d.i, d.k, false⟩ := by
    unfold precD
    rw [if_neg (by simp only [hb]; omega)]
  have e4 : idx2D t ([] : List Arg).length ⟨d.s.setFl (d.s.fl.setWid 0 false), d.i, d.k, false⟩ = ⟨d.s.setFl (d.s.fl.setWid 0 false), d.i, d.k, false⟩ := by
    unfold idx2D
    rw [if_neg (by simp)]
    unfold idxD
    rw [if_pos (.inr (by simp only [hb]; decide))]
  rw [e1, e2, e3, e4]
  unfold verbD
  rw [if_neg (by simp only; omega), if_neg (by simp only [hb]; omega)]
  simp only [hb]
  rw [if_pos trivial]
  exact ⟨_, rfl, rfl, rfl, rfl, rfl⟩

theorem dpM_dbl (pa : Arg → Int → Fl → Option Bytes) (t : ByteArray) : ∀ (f : Nat) (p r : Bytes) (d : D), t.data.toList = p ++ dbl r → d.i = p.length → d.s.reord = false → (dbl r).length ≤ f →
    dpM t [] pa f d = some (d.s.out ++ r) := by
  intro f
  induction f with
  | zero =>
    intro p r d ht hi hr hf
    have h0 : dbl r = [] := List.eq_nil_of_length_eq_zero (by omega)
    have hr0 : r = [] := by
      cases r with
      | nil => rfl
      | cons c r => exfalso; revert h0; rw [dbl]; split <;> simp
    rw [dpM_end, finD_none, hr0, List.append_nil]
    rw [hi, size_list, ht, h0]; simp
  | succ f ih =>
    intro p r d ht hi hr hf
    by_cases hlt : d.i < t.size
    · obtain ⟨a, r', h1, h2, h3, h4⟩ := dbl_split r
      rw [dpM, if_pos hlt]
      have htt : t.data.toList = p ++ (a ++ dbl r') := by rw [ht, h2]
      have hj : txtEnd t (t.size - d.i) d.i = p.length + a.length := by
        rw [hi]
        refine txtEnd_at (q := dbl r') ?_ a p _ htt h3 ?_
        · rcases h4 with rfl | ⟨r'', rfl⟩
          · exact .inl rfl
          · exact .inr ⟨37 :: dbl r'', by rw [dbl, if_pos rfl]⟩
        · rw [size_list, htt]; simp only [List.length_append]; omega
      have hx : (t.extract d.i (p.length + a.length)).data.toList = a := by rw [hi]; exact extract_mid htt
      have e0 : txtD t d = ⟨({ d.s with good := true } : PS).put a, p.length + a.length, d.k, d.af⟩ := by
        unfold txtD
        simp only [hj, hx]
      rw [e0]
      unfold pctD
      rcases h4 with rfl | ⟨r'', rfl⟩
      · rw [if_pos (by simp only; rw [size_list, htt]; simp [dbl]), finD_none, h1, List.append_nil]
        rfl
      · have hd : dbl (37 :: r'') = 37 :: 37 :: dbl r'' := by rw [dbl, if_pos rfl]
        rw [hd] at htt
        have hb1 := bt_at (t := t) (p := p ++ a) (c := 37) (q := 37 :: dbl r'') (by rw [htt]; simp)
        have hb2 := bt_at (t := t) (p := p ++ a ++ [37]) (c := 37) (q := dbl r'') (by rw [htt]; simp)
        simp only [List.length_append, List.length_cons, List.length_nil] at hb1 hb2
        rw [if_neg (by simp only; omega)]
        obtain ⟨d', e1, e2, e3, e4, e5⟩ := dirD_pct (t := t) (pa := pa) (next := dpM t [] pa f) (fin := finD [] pa)
          (d := ⟨(({ d.s with good := true } : PS).put a).setFl {}, p.length + a.length + 1, d.k, d.af⟩) (by simp only; omega) (by simp only; rw [hb2.2]; rfl)
        simp only at e1 e2 e3 e4 e5 ⊢
        rw [e1, ih (p ++ a ++ [37, 37]) r'' d' (by rw [htt]; simp) (by rw [e4]; simp only [List.length_append, List.length_cons, List.length_nil]) (by rw [e3]; exact hr) (by
          rw [h2, hd] at hf; simp only [List.length_append, List.length_cons] at hf; omega), e2, h1]
        simp [PS.setFl, PS.put]
    · have h0 : dbl r = [] := by
        apply List.eq_nil_of_length_eq_zero
        rw [hi, size_list, ht, List.length_append] at hlt
        omega
      have hr0 : r = [] := by
        cases r with
        | nil => rfl
        | cons c r => exfalso; revert h0; rw [dbl]; split <;> simp
      rw [dpM_end hlt, finD_none, hr0, List.append_nil]

theorem dbl_len : ∀ r : Bytes, (dbl r).length ≤ 2 * r.length
  | [] => Nat.le_refl _
  | c :: r => by
    have := dbl_len r
    rw [dbl]
    split <;> simp only [List.length_cons] <;> omega
theorem dbl_app : ∀ r q : Bytes, dbl (r ++ q) = dbl r ++ dbl q
  | [], _ => rfl
  | c :: r, q => by
    rw [List.cons_append, dbl, dbl, dbl_app r q]
    split <;> rfl
theorem dbl_self : ∀ r : Bytes, (∀ c ∈ r, c ≠ 37) → dbl r = r
  | [], _ => rfl
  | c :: r, h => by rw [dbl, if_neg (h c (List.mem_cons_self ..)), dbl_self r fun x hx => h x (List.mem_cons_of_mem _ hx)]

/-- the number that digits mean, behind n -/
def addDigit (n : Nat) (c : UInt8) : Nat := n * 10 + (c.toNat - 48)
def numFrom (n : Nat) (l : Bytes) : Nat := l.foldl addDigit n
theorem numFrom_cons (n : Nat) (c : UInt8) (r : Bytes) : numFrom n (c :: r) = numFrom (n * 10 + (c.toNat - 48)) r := by unfold numFrom; rw [List.foldl_cons]; unfold addDigit; exact Eq.refl _
def digitB (c : UInt8) : Prop := 48 ≤ c.toNat ∧ c.toNat ≤ 57
/-- not great (a plain name: nothing must reckon with the number) -/
def Fit7 (n : Nat) : Prop := n ≤ 10000000
theorem Fit7.le {m n : Nat} (h : Fit7 n) (k : m ≤ n) : Fit7 m := Nat.le_trans k h

theorem numFrom_nil (n : Nat) : numFrom n [] = n := rfl
theorem empty_or (b : Bool) : (b || !([] : Bytes).isEmpty) = b := by simp
theorem len_nil (p : Bytes) : p.length + ([] : Bytes).length = p.length := rfl
theorem numFrom_none (n : Nat) (b : Bool) (p : Bytes) : (n, b, p.length) = (numFrom n [], b || !([] : Bytes).isEmpty, p.length + ([] : Bytes).length) := by rw [numFrom_nil, empty_or, len_nil]

theorem pnum_digits {t : ByteArray} {q : Bytes} (hq : q = [] ∨ ∃ c r, q = c :: r ∧ ¬ digitB c) (ds : Bytes) : ∀ (p : Bytes) (f n : Nat) (b : Bool), t.data.toList = p ++ (ds ++ q) → (∀ c ∈ ds, digitB c) → t.size - p.length ≤ f → Fit7 ((n + 1) * 10 ^ ds.length) →
    pnum t t.size f p.length n b = (numFrom n ds, b || !ds.isEmpty, p.length + ds.length) := by
  induction ds with
  | nil =>
    intro p f n b h _ _ _
    have hstop : ¬ (p.length < t.size ∧ 48 ≤ bt t p.length ∧ bt t p.length ≤ 57) := by
      rintro ⟨h1, h2, h3⟩
      rcases hq with rfl | ⟨c, r, rfl, hc⟩
      · rw [size_list, h] at h1; simp at h1
      · have hb := (bt_at (t := t) (p := p) (q := r) (c := c) (by simpa using h)).2
        rw [hb] at h2 h3
        exact hc ⟨by omega, by omega⟩
    have e := pnum_stop t t.size f p.length n b hstop
    exact e.trans (numFrom_none n b p)
  | cons c ds ih =>
    intro p f n b h hd hf hn
    have hb := bt_at (t := t) (p := p) (q := ds ++ q) (c := c) (by simpa using h)
    have hc := hd c (List.mem_cons_self ..)
    unfold digitB at hc
    have hpow : 0 < 10 ^ ds.length := Nat.pow_pos (by decide)
    have hpow2 : Fit7 ((n + 1) * 10 * 10 ^ ds.length) := by
      have : 10 ^ (ds.length + 1) = 10 * 10 ^ ds.length := by rw [Nat.pow_succ, Nat.mul_comm]
      simp only [List.length_cons] at hn
      rw [this] at hn
      rw [Nat.mul_assoc]; exact hn
    have hn1 : Fit7 ((n + 1) * 10) := hpow2.le (Nat.le_mul_of_pos_right _ hpow)
    have hn2 : n ≤ 1000000 := by unfold Fit7 at hn1; omega
    have hn4 : n * 10 + (c.toNat - 48) + 1 ≤ (n + 1) * 10 := by omega
    have hn3 : Fit7 ((n * 10 + (c.toNat - 48) + 1) * 10 ^ ds.length) := hpow2.le (Nat.mul_le_mul_right _ hn4)
    clear hpow hpow2 hn1 hn hn4
    have e1 := pnum_step t t.size f p.length n b hf hb.1 (by rw [hb.2]; omega) (by rw [hb.2]; omega) hn2
    have e : (bt t p.length - 48).toNat = c.toNat - 48 := by rw [hb.2]; omega
    rw [e] at e1
    have e2 := ih (p ++ [c]) (f - 1) (n * 10 + (c.toNat - 48)) true (by simpa using h) (fun x hx => hd x (List.mem_cons_of_mem _ hx)) (by simp only [List.length_append, List.length_cons, List.length_nil]; omega) hn3
    have hlen : (p ++ [c]).length = p.length + 1 := by simp
    rw [hlen] at e2
    have e3 : numFrom n (c :: ds) = numFrom (n * 10 + (c.toNat - 48)) ds := numFrom_cons n c ds
    have e4 : (b || !(c :: ds : Bytes).isEmpty) = (true || !ds.isEmpty) := by cases b <;> simp
    have e5 : p.length + (c :: ds).length = p.length + 1 + ds.length := by rw [List.length_cons]; omega
    refine e1.trans (e2.trans ?_)
    rw [e3, e4, e5]

theorem parsenum_digits {t : ByteArray} {q : Bytes} (hq : q = [] ∨ ∃ c r, q = c :: r ∧ ¬ digitB c) (ds p : Bytes) (h : t.data.toList = p ++ (ds ++ q)) (hd : ∀ c ∈ ds, digitB c) (hl : ds.length ≤ 6) (hp : p.length < t.size) :
    parsenumM t p.length t.size = (numFrom 0 ds, !ds.isEmpty, p.length + ds.length) := by
  unfold parsenumM
  rw [if_neg (by omega), pnum_digits hq ds p _ 0 false h hd (Nat.le_refl _)]
  · simp
  · have : 10 ^ ds.length ≤ 10 ^ 6 := Nat.pow_le_pow_right (by decide) hl
    unfold Fit7
    omega

/-- the flags of a format -/
def flagsF : Bytes → Fl → Fl
  | [], f => f
  | c :: r, f => flagsF r (f.flag c.toNat)
theorem flagsF_wid : ∀ (r : Bytes) (f : Fl), (flagsF r f).wid = f.wid ∧ (flagsF r f).widP = f.widP ∧ (flagsF r f).prec = f.prec ∧ (flagsF r f).precP = f.precP
  | [], f => ⟨rfl, rfl, rfl, rfl⟩
  | c :: r, f => by
    have := flagsF_wid r (f.flag c.toNat)
    have h : (f.flag c.toNat).wid = f.wid ∧ (f.flag c.toNat).widP = f.widP ∧ (f.flag c.toNat).prec = f.prec ∧ (f.flag c.toNat).precP = f.precP := by
      unfold Fl.flag
      split
      · exact ⟨rfl, rfl, rfl, rfl⟩
      · split
        · exact ⟨rfl, rfl, rfl, rfl⟩
        · split
          · exact ⟨rfl, rfl, rfl, rfl⟩
          · split <;> exact ⟨rfl, rfl, rfl, rfl⟩
    rw [flagsF, this.1, this.2.1, this.2.2.1, this.2.2.2]
    exact h

theorem flagD_run {t : ByteArray} {c : UInt8} {q : Bytes} (hc : ¬ isFlag c.toNat) : ∀ (fs p : Bytes) (f : Nat) (d : D), t.data.toList = p ++ (fs ++ c :: q) → (∀ x ∈ fs, isFlag x.toNat) → d.i = p.length → fs.length ≤ f →
    flagD t f d = ⟨d.s.setFl (flagsF fs d.s.fl), p.length + fs.length, d.k, d.af⟩
  | [], p, f, d, h, _, hi, _ => by
    have hb := bt_at (t := t) (p := p) (q := q) (c := c) (by simpa using h)
    have e : flagD t f d = d := by
      cases f with
      | zero => rfl
      | succ f =>
        rw [flagD, if_neg]
        rintro ⟨_, h2⟩
        rw [hi, hb.2] at h2
        exact hc h2
    rw [e]
    obtain ⟨s, i, k, af⟩ := d
    simp only at hi
    subst hi
    rfl
  | x :: fs, p, f, d, h, hf, hi, hl => by
    obtain ⟨g, rfl⟩ : ∃ g, f = g + 1 := ⟨f - 1, by simp only [List.length_cons] at hl; omega⟩
    have hb := bt_at (t := t) (p := p) (q := fs ++ c :: q) (c := x) (by simpa using h)
    rw [flagD, if_pos (by rw [hi, hb.2]; exact ⟨hb.1, hf x (List.mem_cons_self ..)⟩)]
    rw [flagD_run hc fs (p ++ [x]) g _ (by simpa using h) (fun y hy => hf y (List.mem_cons_of_mem _ hy)) (by rw [hi]; simp) (by simp only [List.length_cons] at hl; omega)]
    rw [hi, hb.2]
    simp only [PS.setFl, flagsF, List.length_append, List.length_cons, List.length_nil]
    congr 1
    omega

/-- a precision as it is written -/
def precB : Option Bytes → Bytes
  | none => []
  | some ds => 46 :: ds
/-- the flags, width and precision of a format of one verb -/
def fmtF (fs ws : Bytes) (pr : Option Bytes) : Fl :=
  let f := (flagsF fs {}).setWid (numFrom 0 ws) (!ws.isEmpty)
  match pr with
  | none => f
  | some ds => f.setPrec (numFrom 0 ds) true

/-- a letter that is a verb -/
def verbB (v : UInt8) : Prop := 65 ≤ v.toNat ∧ v.toNat ≤ 90 ∨ 97 ≤ v.toNat ∧ v.toNat ≤ 122

theorem idxD_at {t : ByteArray} {p q : Bytes} {c : UInt8} (h : t.data.toList = p ++ c :: q) (hc : c.toNat ≠ 91) (n : Nat) (d : D) (hi : d.i = p.length) : idxD t n d = { d with af := false } := by
  have hb := bt_at h
  unfold idxD
  rw [if_pos (.inr (by rw [hi, hb.2]; omega))]
theorem widD_at {t : ByteArray} {l : List Arg} {p ws q : Bytes} {c : UInt8} (h : t.data.toList = p ++ (ws ++ c :: q)) (hw : ∀ x ∈ ws, digitB x) (hl : ws.length ≤ 6) (hc : ¬ digitB c) (hs : c.toNat ≠ 42) (d : D) (hi : d.i = p.length) (ha : d.af = false) :
    widD t l d = ⟨d.s.setFl (d.s.fl.setWid (numFrom 0 ws) (!ws.isEmpty)), p.length + ws.length, d.k, false⟩ := by
  have hlt : p.length < t.size := by rw [size_list, h]; simp only [List.length_append, List.length_cons]; omega
  have hpn := parsenum_digits (t := t) (q := c :: q) (.inr ⟨c, q, rfl, hc⟩) ws p h hw hl hlt
  have hns : ¬ bt t p.length = 42 := by
    cases ws with
    | nil => rw [(bt_at (t := t) (p := p) (c := c) (q := q) (by simpa using h)).2]; omega
    | cons x ws =>
      have hx := hw x (List.mem_cons_self ..)
      unfold digitB at hx
      rw [(bt_at (t := t) (p := p) (c := x) (q := ws ++ c :: q) (by simpa using h)).2]; omega
  unfold widD
  rw [if_neg (by rw [hi]; exact fun h => hns h.2), hi]
  simp only [hpn, ha, Bool.false_and]
  rfl
theorem precD_some {t : ByteArray} {l : List Arg} {p ds q : Bytes} {c : UInt8} (h : t.data.toList = p ++ (46 :: (ds ++ c :: q))) (hw : ∀ x ∈ ds, digitB x) (hl : ds.length ≤ 6) (hc : ¬ digitB c) (hs : c.toNat ≠ 42) (hb : c.toNat ≠ 91) (d : D) (hi : d.i = p.length) (ha : d.af = false) :
    precD t l d = ⟨d.s.setFl (d.s.fl.setPrec (numFrom 0 ds) true), p.length + 1 + ds.length, d.k, false⟩ := by
  have hlt : p.length + 1 < t.size := by rw [size_list, h]; simp only [List.length_append, List.length_cons]; omega
  have h46 := bt_at (t := t) (p := p) (c := 46) (q := ds ++ c :: q) h
  have hpn := parsenum_digits (t := t) (q := c :: q) (.inr ⟨c, q, rfl, hc⟩) ds (p ++ [46]) (by simpa using h) hw hl (by simpa using hlt)
  simp only [List.length_append, List.length_cons, List.length_nil] at hpn
  have hx : ∃ y r, t.data.toList = (p ++ [46]) ++ y :: r ∧ y.toNat ≠ 42 ∧ y.toNat ≠ 91 := by
    cases ds with
    | nil => exact ⟨c, q, by simpa using h, hs, hb⟩
    | cons x ds =>
      have hx := hw x (List.mem_cons_self ..)
      unfold digitB at hx
      exact ⟨x, ds ++ c :: q, by simpa using h, by omega, by omega⟩
  obtain ⟨y, r, hy, hy1, hy2⟩ := hx
  have hby := bt_at hy
  simp only [List.length_append, List.length_cons, List.length_nil] at hby
  unfold precD
  rw [if_pos (by rw [hi, h46.2]; exact ⟨hlt, rfl⟩)]
  rw [idxD_at hy hy2 _ _ (by rw [hi]; simp), ha]
  unfold precD1
  rw [if_neg (by simp only [hi]; rw [hby.2]; omega)]
  simp only [hi, hpn]
  cases ds with
  | nil => rfl
  | cons x ds => rfl
theorem precD_none {t : ByteArray} {l : List Arg} {p q : Bytes} {c : UInt8} (h : t.data.toList = p ++ c :: q) (hc : c.toNat ≠ 46) (d : D) (hi : d.i = p.length) : precD t l d = d := by
  have hb := bt_at h
  unfold precD
  rw [if_neg (by rw [hi, hb.2]; omega)]

theorem ext_nil (t : ByteArray) : (t.extract 0 0).data.toList = [] := List.eq_nil_of_length_eq_zero (by
  rw [Array.length_toList]
  show (t.extract 0 0).size = 0
  rw [ByteArray.size_extract]; omega)
theorem setWid_self (f : Fl) (h1 : f.wid = 0) (h2 : f.widP = false) : f.setWid 0 false = f := by
  cases f
  simp only at h1 h2
  subst h1 h2
  rfl

set_option maxRecDepth 4000 in
/-- one verb, one argument -/
theorem dpM_one (pa : Arg → Int → Fl → Option Bytes) (t : ByteArray) (fs ws : Bytes) (pr : Option Bytes) (v : UInt8) (a : Arg) (s0 : PS) (ht : t.data.toList = 37 :: (fs ++ (ws ++ (precB pr ++ [v])))) (hr : s0.reord = false)
    (hfs : ∀ x ∈ fs, isFlag x.toNat) (hws : ∀ x ∈ ws, digitB x) (hwl : ws.length ≤ 6) (hw0 : ∀ x r, ws = x :: r → x.toNat ≠ 48) (hpr : ∀ ds, pr = some ds → (∀ x ∈ ds, digitB x) ∧ ds.length ≤ 6) (hv : verbB v) (hvw : v.toNat ≠ 119) :
    dpM t [a] pa t.size ⟨s0, 0, 0, false⟩ = (pa a v.toNat ((fmtF fs ws pr).forVerb v.toNat)).map (fun x => s0.out ++ x) := by
  have hsz : t.size = fs.length + ws.length + (precB pr).length + 2 := by rw [size_list, ht]; simp only [List.length_append, List.length_cons, List.length_nil]; omega
  obtain ⟨g, hg⟩ : ∃ g, t.size = g + 1 := ⟨t.size - 1, by omega⟩
  have hvn : 65 ≤ v.toNat ∧ v.toNat ≤ 122 ∧ ¬ (90 < v.toNat ∧ v.toNat < 97) := by rcases hv with h | h <;> omega
  have hvd : ¬ digitB v := by unfold digitB; omega
  have htx : txtD t ⟨s0, 0, 0, false⟩ = ⟨({ s0 with good := true } : PS).put [], 0, 0, false⟩ := by
    have hj : txtEnd t (t.size - 0) 0 = 0 := txtEnd_at (t := t) (q := t.data.toList) (.inr ⟨_, ht⟩) [] [] _ (by simp) (by simp) (by simp)
    unfold txtD
    simp only [hj]
    rw [ext_nil]
  -- the last end
  have hend : ∀ (f : Nat) (s : PS) (af : Bool), s.reord = false → dpM t [a] pa f ⟨s, t.size, 1, af⟩ = some s.out := by
    intro f s af hs
    rw [dpM_end (by simp)]
    unfold finD
    rw [if_neg (by simp)]
  have harg : ∀ (fl : Fl) (s : PS) (af : Bool), s.reord = false → s.out = s0.out → s.fl = fl → argD [a] pa (dpM t [a] pa g) v.toNat ⟨s, t.size, 0, af⟩ = (pa a v.toNat (fl.forVerb v.toNat)).map (fun x => s0.out ++ x) := by
    intro fl s af h1 h2 h3
    unfold argD
    simp only [List.getElem?_cons_zero, h3]
    cases pa a v.toNat (fl.forVerb v.toNat) with
    | none => rfl
    | some x =>
      simp only [Option.map_some]
      rw [show (⟨(s.setFl (fl.forVerb v.toNat)).put x, t.size, 0 + 1, af⟩ : D) = ⟨(s.setFl (fl.forVerb v.toNat)).put x, t.size, 1, af⟩ from rfl, hend _ _ _ (by simpa [PS.setFl, PS.put] using h1)]
      simp only [PS.setFl, PS.put, h2]
  -- the byte behind the flags
  obtain ⟨c, q, hcq, hcf, hc91⟩ : ∃ c q, ws ++ (precB pr ++ [v]) = c :: q ∧ ¬ isFlag c.toNat ∧ c.toNat ≠ 91 := by
    cases ws with
    | cons x r =>
      have h1 := hws x (List.mem_cons_self ..)
      have h2 := hw0 x r rfl
      unfold digitB at h1
      exact ⟨x, r ++ (precB pr ++ [v]), rfl, by unfold isFlag; omega, by omega⟩
    | nil =>
      cases pr with
      | some ds => exact ⟨46, ds ++ [v], rfl, by decide, by decide⟩
      | none => exact ⟨v, [], rfl, by unfold isFlag; omega, by omega⟩
  rw [hg, dpM, if_pos (by simp only; omega), htx]
  unfold pctD
  rw [if_neg (show ¬ t.size ≤ 0 by omega)]
  have hfl := flagD_run (t := t) (q := q) hcf fs [37] (g + 1) ⟨(({ s0 with good := true } : PS).put []).setFl {}, 0 + 1, 0, false⟩ (by rw [ht, hcq]; simp) hfs rfl (by omega)
  simp only at hfl ⊢
  rw [hg, hfl]
  simp only [List.length_cons, List.length_nil]
  have hcb := bt_at (t := t) (p := 37 :: fs) (c := c) (q := q) (by rw [ht, hcq]; simp)
  simp only [List.length_cons] at hcb
  unfold dirD
  by_cases fast : 97 ≤ c.toNat ∧ c.toNat ≤ 122
  · -- the short way: no width, no precision
    have hq : ws = [] ∧ pr = none ∧ c = v ∧ q = [] := by
      cases ws with
      | cons x r =>
        exfalso
        have h1 := hws x (List.mem_cons_self ..)
        unfold digitB at h1
        simp only [List.cons_append, List.cons.injEq] at hcq
        rw [← hcq.1] at fast
        omega
      | nil =>
        cases pr with
        | some ds =>
          exfalso
          simp only [precB, List.nil_append, List.cons_append, List.cons.injEq] at hcq
          rw [← hcq.1] at fast
          revert fast; decide
        | none =>
          simp only [precB, List.nil_append, List.cons.injEq] at hcq
          exact ⟨rfl, rfl, hcq.1.symm, hcq.2.symm⟩
    obtain ⟨rfl, rfl, rfl, rfl⟩ := hq
    have e0 : (0 + 1 + fs.length : Nat) = fs.length + 1 := by omega
    rw [e0]
    rw [if_pos (by simp only; rw [hcb.2]; refine ⟨by omega, by omega, by omega, by simp⟩)]
    rw [if_neg (by simp only; rw [hcb.2]; omega)]
    simp only [hcb.2]
    have hsz2 : fs.length + 1 + 1 = t.size := by rw [hsz]; simp [precB]
    rw [hsz2]
    have := harg (flagsF fs {}) ((({ s0 with good := true } : PS).put []).setFl (flagsF fs {})) false (by exact hr) (by simp [PS.setFl, PS.put]) rfl
    have hff : fmtF fs [] none = flagsF fs {} := by
      unfold fmtF
      exact setWid_self _ (flagsF_wid fs {}).1 (flagsF_wid fs {}).2.1
    rw [hff]
    exact this
  · rw [if_neg (by simp only; rw [show (0 + 1 + fs.length : Nat) = fs.length + 1 by omega, hcb.2]; omega)]
    have e1 := idxD_at (t := t) (p := 37 :: fs) (c := c) (q := q) (by rw [ht, hcq]; simp) hc91 [a].length ⟨((({ s0 with good := true } : PS).put []).setFl {}).setFl (flagsF fs ((({ s0 with good := true } : PS).put []).setFl {}).fl), 0 + 1 + fs.length, 0, false⟩ (by simp only [List.length_cons]; omega)
    rw [e1]
    obtain ⟨s1, hs1⟩ : ∃ s1, s1 = ((({ s0 with good := true } : PS).put []).setFl {}).setFl (flagsF fs ((({ s0 with good := true } : PS).put []).setFl {}).fl) := ⟨_, rfl⟩
    have h1g : s1.good = true := by rw [hs1]; rfl
    have h1r : s1.reord = false := by rw [hs1]; exact hr
    have h1o : s1.out = s0.out := by rw [hs1]; simp [PS.setFl, PS.put]
    have h1f : s1.fl = flagsF fs {} := by rw [hs1]; rfl
    rw [← hs1]
    clear hs1 e1 hfl htx
    -- the width
    have key : ∀ s2 : PS, s2.good = true → s2.reord = false → s2.out = s0.out → verbD t [a] pa (dpM t [a] pa g) (finD [a] pa) ⟨s2, t.size - 1, 0, false⟩ = (pa a v.toNat (s2.fl.forVerb v.toNat)).map (fun x => s0.out ++ x) := by
      intro s2 h2g h2r h2o
      have hb := bt_at (t := t) (p := 37 :: (fs ++ (ws ++ precB pr))) (c := v) (q := []) (by rw [ht]; simp)
      have hp : (37 :: (fs ++ (ws ++ precB pr)) : Bytes).length = t.size - 1 := by rw [hsz]; simp only [List.length_cons, List.length_append]; omega
      rw [hp] at hb
      unfold verbD
      rw [if_neg (by simp only; omega), if_neg (by simp only; rw [hb.2]; omega)]
      simp only [hb.2, h2g]
      rw [if_neg (by omega), if_neg (by simp), if_neg (by simp), if_neg (by omega)]
      rw [show t.size - 1 + 1 = t.size by omega]
      exact harg s2.fl s2 false h2r h2o rfl
    cases pr with
    | none =>
      have hw := widD_at (t := t) (l := [a]) (p := 37 :: fs) (ws := ws) (c := v) (q := []) (by rw [ht]; simp [precB]) hws hwl hvd (by omega) ⟨s1, 0 + 1 + fs.length, 0, false⟩ (by simp only [List.length_cons]; omega) rfl
      rw [hw]
      have hp := precD_none (t := t) (l := [a]) (p := 37 :: (fs ++ ws)) (c := v) (q := []) (by rw [ht]; simp [precB]) (by omega) ⟨s1.setFl (s1.fl.setWid (numFrom 0 ws) (!ws.isEmpty)), (37 :: fs).length + ws.length, 0, false⟩ (by simp only [List.length_cons, List.length_append]; omega)
      rw [hp]
      have hx := idxD_at (t := t) (p := 37 :: (fs ++ ws)) (c := v) (q := []) (by rw [ht]; simp [precB]) (by omega) [a].length ⟨s1.setFl (s1.fl.setWid (numFrom 0 ws) (!ws.isEmpty)), (37 :: fs).length + ws.length, 0, false⟩ (by simp only [List.length_cons, List.length_append]; omega)
      unfold idx2D
      rw [if_neg (by simp), hx]
      have hi : (37 :: fs : Bytes).length + ws.length = t.size - 1 := by rw [hsz]; simp only [List.length_cons, precB, List.length_nil]; omega
      simp only [hi]
      rw [key _ (by exact h1g) (by exact h1r) (by exact h1o)]
      simp only [PS.setFl, h1f]
      rfl
    | some ds =>
      have hd := hpr ds rfl
      have hw := widD_at (t := t) (l := [a]) (p := 37 :: fs) (ws := ws) (c := 46) (q := ds ++ [v]) (by rw [ht]; simp [precB]) hws hwl (by unfold digitB; decide) (by decide) ⟨s1, 0 + 1 + fs.length, 0, false⟩ (by simp only [List.length_cons]; omega) rfl
      rw [hw]
      have hp := precD_some (t := t) (l := [a]) (p := 37 :: (fs ++ ws)) (ds := ds) (c := v) (q := []) (by rw [ht]; simp [precB]) hd.1 hd.2 hvd (by omega) (by omega) ⟨s1.setFl (s1.fl.setWid (numFrom 0 ws) (!ws.isEmpty)), (37 :: fs).length + ws.length, 0, false⟩ (by simp only [List.length_cons, List.length_append]; omega) rfl
      rw [hp]
      have hx := idxD_at (t := t) (p := 37 :: (fs ++ (ws ++ 46 :: ds))) (c := v) (q := []) (by rw [ht]; simp [precB]) (by omega) [a].length ⟨(s1.setFl (s1.fl.setWid (numFrom 0 ws) (!ws.isEmpty))).setFl ((s1.setFl (s1.fl.setWid (numFrom 0 ws) (!ws.isEmpty))).fl.setPrec (numFrom 0 ds) true), (37 :: (fs ++ ws)).length + 1 + ds.length, 0, false⟩ (by simp only [List.length_cons, List.length_append]; omega)
      unfold idx2D
      rw [if_neg (by simp), hx]
      have hi : (37 :: (fs ++ ws) : Bytes).length + 1 + ds.length = t.size - 1 := by rw [hsz]; simp only [List.length_cons, precB, List.length_append]; omega
      simp only [hi]
      rw [key _ (by exact h1g) (by exact h1r) (by exact h1o)]
      simp only [PS.setFl, h1f]
      rfl

/-- the letter of a digit -/
def digC (up : Bool) (d : Nat) : UInt8 := if d < 10 then UInt8.ofNat (48 + d) else if up then UInt8.ofNat (55 + d) else UInt8.ofNat (87 + d)
/-- the digits of a number in a base -/
def digits (base : Nat) (up : Bool) : Nat → Nat → Bytes
  | 0, _ => []
  | f + 1, n => (if n / base = 0 then [] else digits base up f (n / base)) ++ [digC up (n % base)]
/-- decimal digits -/
def dec (n : Nat) : Bytes := digits 10 false 64 n

theorem numFrom_snoc (xs : Bytes) (m : Nat) (c : UInt8) : numFrom m (xs ++ [c]) = numFrom m xs * 10 + (c.toNat - 48) := by
  unfold numFrom
  rw [List.foldl_append, List.foldl_cons, List.foldl_nil]
  unfold addDigit
  exact Eq.refl _
theorem digC_dec (d : Nat) (h : d < 10) : (digC false d).toNat = 48 + d := by
  unfold digC
  rw [if_pos h]
  simp only [UInt8.toNat_ofNat']
  omega
theorem digits_num : ∀ (f n : Nat), n < 10 ^ f → numFrom 0 (digits 10 false f n) = n
  | 0, n, h => by
    have : n = 0 := by simpa using h
    subst this; exact numFrom_nil 0
  | f + 1, n, h => by
    rw [digits, numFrom_snoc, digC_dec _ (Nat.mod_lt _ (by decide))]
    split
    · rename_i h0
      rw [numFrom_nil]; omega
    · rw [digits_num f (n / 10) (by rw [Nat.pow_succ] at h; omega)]
      omega
theorem digits_digit : ∀ (f n : Nat), ∀ c ∈ digits 10 false f n, digitB c
  | 0, _, c, hc => by simp [digits] at hc
  | f + 1, n, c, hc => by
    rw [digits] at hc
    rcases List.mem_append.1 hc with hc | hc
    · split at hc
      · simp at hc
      · exact digits_digit f _ c hc
    · have : c = digC false (n % 10) := by simpa using hc
      have hd := digC_dec (n % 10) (Nat.mod_lt _ (by decide))
      rw [this]
      unfold digitB
      have := Nat.mod_lt n (show 0 < 10 by decide)
      omega
theorem digits_len (base : Nat) (up : Bool) (hb : 2 ≤ base) : ∀ (k f n : Nat), n < base ^ (k + 1) → (digits base up f n).length ≤ k + 1
  | _, 0, _, _ => by simp [digits]
  | k, f + 1, n, h => by
    rw [digits]
    split
    · simp
    · rename_i h0
      cases k with
      | zero =>
        exfalso
        apply h0
        exact Nat.div_eq_of_lt (by simpa using h)
      | succ k =>
        have := digits_len base up hb k f (n / base) (by
          rw [Nat.pow_succ] at h
          exact Nat.div_lt_of_lt_mul (by rw [Nat.mul_comm]; exact h))
        simp only [List.length_append, List.length_cons, List.length_nil]
        omega
theorem digits_ne (base : Nat) (up : Bool) (f n : Nat) (hf : 0 < f) : digits base up f n ≠ [] := by
  obtain ⟨g, rfl⟩ : ∃ g, f = g + 1 := ⟨f - 1, by omega⟩
  rw [digits]
  simp
theorem digits_head : ∀ (f n : Nat), n < 10 ^ f → 0 < n → ∀ x r, digits 10 false f n = x :: r → x.toNat ≠ 48
  | 0, n, h, h0, _, _, _ => by simp at h; omega
  | f + 1, n, h, h0, x, r, he => by
    rw [digits] at he
    split at he
    · rename_i hz
      simp only [List.nil_append, List.cons.injEq] at he
      rw [← he.1, digC_dec _ (Nat.mod_lt _ (by decide))]
      omega
    · rename_i hz
      have hlt : n / 10 < 10 ^ f := by rw [Nat.pow_succ] at h; omega
      have hne : digits 10 false f (n / 10) ≠ [] := by
        apply digits_ne
        cases f with
        | zero => simp at hlt; omega
        | succ f => omega
      cases hd : digits 10 false f (n / 10) with
      | nil => exact absurd hd hne
      | cons y q =>
        rw [hd] at he
        simp only [List.cons_append, List.cons.injEq] at he
        rw [← he.1]
        exact digits_head f (n / 10) hlt (by omega) y q hd

/-- the reference's flags -/
structure SF where
  wid : Int := 0
  prec : Int := 0
  hasWid : Bool := false
  hasPrec : Bool := false
  minus : Bool := false
  plus : Bool := false
  sharp : Bool := false
  space : Bool := false
  zero : Bool := false
def SF.val (f : SF) : Value := .agg #[.int .i64 f.wid, .int .i64 f.prec, .bool f.hasWid, .bool f.hasPrec, .bool f.minus, .bool f.plus, .bool f.sharp, .bool f.space, .bool f.zero]

/-- a byte so often -/
def rep (c : UInt8) (n : Int) : Bytes := List.replicate n.toNat c
/-- the reference's Pad -/
def specPad (f : SF) (s : Bytes) : Bytes :=
  if f.hasWid = false then s
  else if f.minus then s ++ rep 32 (f.wid - runes s)
  else if f.zero then rep 48 (f.wid - runes s) ++ s
  else rep 32 (f.wid - runes s) ++ s

theorem padM_spec (f : Fl) (g : SF) (h1 : f.widP = g.hasWid) (h2 : g.hasWid = true → f.wid = g.wid ∧ f.wid ≠ 0) (h3 : f.minus = g.minus) (h4 : f.zero = g.zero) (s : Bytes) : padM f s = specPad g s := by
  unfold padM specPad
  cases hw : g.hasWid
  · rw [if_pos (.inl (by rw [h1, hw])), if_pos rfl]
  · have h := h2 hw
    have hn : ¬ (f.widP = false ∨ f.wid = 0) := by rw [h1, hw]; rintro (h' | h'); cases h'; exact h.2 h'
    rw [if_neg hn, h.1, h3]
    unfold padding rep padB
    rw [h3, h4]
    cases g.minus <;> cases g.zero <;> rfl

/-- a format's flags, as the laws write them -/
def flagB (b0 b1 b2 b3 b4 : Bool) : Bytes := (if b0 then [45] else []) ++ (if b1 then [43] else []) ++ (if b2 then [35] else []) ++ (if b3 then [32] else []) ++ (if b4 && !b0 then [48] else [])
theorem flagsF_bits (b0 b1 b2 b3 b4 : Bool) : flagsF (flagB b0 b1 b2 b3 b4) {} = { minus := b0, plus := b1, sharp := b2, space := b3, zero := b4 && !b0 } := by
  cases b0 <;> cases b1 <;> cases b2 <;> cases b3 <;> cases b4 <;> rfl
theorem flagB_isFlag (b0 b1 b2 b3 b4 : Bool) : ∀ x ∈ flagB b0 b1 b2 b3 b4, isFlag x.toNat := by
  have h : (flagB b0 b1 b2 b3 b4).all (fun x => decide (isFlag x.toNat)) = true := by
    cases b0 <;> cases b1 <;> cases b2 <;> cases b3 <;> cases b4 <;> decide
  intro x hx
  exact of_decide_eq_true (List.all_eq_true.1 h x hx)

/-- a width as the laws write it: none for 0 -/
def widB (n : Nat) : Bytes := if n = 0 then [] else dec n
theorem dec_num (n : Nat) (h : n < 1000000) : numFrom 0 (dec n) = n := digits_num 64 n (Nat.lt_of_lt_of_le h (by decide))
theorem dec_len (n : Nat) (h : n < 1000000) : (dec n).length ≤ 6 := digits_len 10 false (by decide) 5 64 n (by simpa using h)
theorem dec_ne (n : Nat) : dec n ≠ [] := digits_ne 10 false 64 n (by decide)
theorem widB_num (n : Nat) (h : n < 1000000) : numFrom 0 (widB n) = n ∧ (!(widB n).isEmpty) = decide (n ≠ 0) ∧ (widB n).length ≤ 6 ∧ (∀ c ∈ widB n, digitB c) ∧ (∀ x r, widB n = x :: r → x.toNat ≠ 48) := by
  unfold widB
  split
  · rename_i h0
    subst h0
    exact ⟨rfl, rfl, Nat.zero_le _, by simp, by simp⟩
  · rename_i h0
    refine ⟨dec_num n h, ?_, dec_len n h, digits_digit _ _, ?_⟩
    · rw [decide_eq_true h0]
      cases hd : dec n with
      | nil => exact absurd hd (dec_ne n)
      | cons _ _ => rfl
    · exact digits_head 64 n (Nat.lt_of_lt_of_le h (by decide)) (by omega)

end Go.Proofs.YtcbliojofnigdaaGreatDoor
