/- A format of one verb, by doPrintf's model: flags, width, precision, verb. -/
import Derived.Test.YtcbliojofnigdaaGreatDoorTextLaw
namespace Go.Proofs.YtcbliojofnigdaaGreatDoor
open Go Go.Proofs Go.RowKit

/-- the number that digits mean, behind n -/
def addDigit (n : Nat) (c : UInt8) : Nat := n * 10 + (c.toNat - 48)
def numFrom (n : Nat) (l : Bytes) : Nat := l.foldl addDigit n
theorem numFrom_cons (n : Nat) (c : UInt8) (r : Bytes) : numFrom n (c :: r) = numFrom (n * 10 + (c.toNat - 48)) r := by unfold numFrom; rw [List.foldl_cons]; unfold addDigit; exact Eq.refl _
def digitB (c : UInt8) : Prop := 48 ≤ c.toNat ∧ c.toNat ≤ 57
/-- not great (a plain name: nothing must reckon with the number) -/
def Fit7 (n : Nat) : Prop := n ≤ 10000000
theorem Fit7.le {m n : Nat} (h : Fit7 n) (k : m ≤ n) : Fit7 m := Nat.le_trans k h

theorem numFrom_nil (n : Nat) : numFrom n [] = n := rfl
theorem empty_or (b : Bool) : (b || !([] : Bytes).isEmpty) = b := by simp
theorem len_nil (p : Bytes) : p.length + ([] : Bytes).length = p.length := rfl
theorem numFrom_none (n : Nat) (b : Bool) (p : Bytes) : (n, b, p.length) = (numFrom n [], b || !([] : Bytes).isEmpty, p.length + ([] : Bytes).length) := by rw [numFrom_nil, empty_or, len_nil]

theorem pnum_digits {t : ByteArray} {q : Bytes} (hq : q = [] ∨ ∃ c r, q = c :: r ∧ ¬ digitB c) (ds : Bytes) : ∀ (p : Bytes) (f n : Nat) (b : Bool), t.data.toList = p ++ (ds ++ q) → (∀ c ∈ ds, digitB c) → t.size - p.length ≤ f → Fit7 ((n + 1) * 10 ^ ds.length) →
    pnum t t.size f p.length n b = (numFrom n ds, b || !ds.isEmpty, p.length + ds.length) := by
  induction ds with
  | nil =>
    intro p f n b h _ _ _
    have hstop : ¬ (p.length < t.size ∧ 48 ≤ bt t p.length ∧ bt t p.length ≤ 57) := by
      rintro ⟨h1, h2, h3⟩
      rcases hq with rfl | ⟨c, r, rfl, hc⟩
      · rw [size_list, h] at h1; simp at h1
      · have hb := (bt_at (t := t) (p := p) (q := r) (c := c) (by simpa using h)).2
        rw [hb] at h2 h3
        exact hc ⟨by omega, by omega⟩
    have e := pnum_stop t t.size f p.length n b hstop
    exact e.trans (numFrom_none n b p)
  | cons c ds ih =>
    intro p f n b h hd hf hn
    have hb := bt_at (t := t) (p := p) (q := ds ++ q) (c := c) (by simpa using h)
    have hc := hd c (List.mem_cons_self ..)
    unfold digitB at hc
    have hpow : 0 < 10 ^ ds.length := Nat.pow_pos (by decide)
    have hpow2 : Fit7 ((n + 1) * 10 * 10 ^ ds.length) := by
      have : 10 ^ (ds.length + 1) = 10 * 10 ^ ds.length := by rw [Nat.pow_succ, Nat.mul_comm]
      simp only [List.length_cons] at hn
      rw [this] at hn
      rw [Nat.mul_assoc]; exact hn
    have hn1 : Fit7 ((n + 1) * 10) := hpow2.le (Nat.le_mul_of_pos_right _ hpow)
    have hn2 : n ≤ 1000000 := by unfold Fit7 at hn1; omega
    have hn4 : n * 10 + (c.toNat - 48) + 1 ≤ (n + 1) * 10 := by omega
    have hn3 : Fit7 ((n * 10 + (c.toNat - 48) + 1) * 10 ^ ds.length) := hpow2.le (Nat.mul_le_mul_right _ hn4)
    clear hpow hpow2 hn1 hn hn4
    have e1 := pnum_step t t.size f p.length n b hf hb.1 (by rw [hb.2]; omega) (by rw [hb.2]; omega) hn2
    have e : (bt t p.length - 48).toNat = c.toNat - 48 := by rw [hb.2]; omega
    rw [e] at e1
    have e2 := ih (p ++ [c]) (f - 1) (n * 10 + (c.toNat - 48)) true (by simpa using h) (fun x hx => hd x (List.mem_cons_of_mem _ hx)) (by simp only [List.length_append, List.length_cons, List.length_nil]; omega) hn3
    have hlen : (p ++ [c]).length = p.length + 1 := by simp
    rw [hlen] at e2
    have e3 : numFrom n (c :: ds) = numFrom (n * 10 + (c.toNat - 48)) ds := numFrom_cons n c ds
    have e4 : (b || !(c :: ds : Bytes).isEmpty) = (true || !ds.isEmpty) := by cases b <;> simp
    have e5 : p.length + (c :: ds).length = p.length + 1 + ds.length := by rw [List.length_cons]; omega
    refine e1.trans (e2.trans ?_)
    rw [e3, e4, e5]

theorem parsenum_digits {t : ByteArray} {q : Bytes} (hq : q = [] ∨ ∃ c r, q = c :: r ∧ ¬ digitB c) (ds p : Bytes) (h : t.data.toList = p ++ (ds ++ q)) (hd : ∀ c ∈ ds, digitB c) (hl : ds.length ≤ 6) (hp : p.length < t.size) :
    parsenumM t p.length t.size = (numFrom 0 ds, !ds.isEmpty, p.length + ds.length) := by
  unfold parsenumM
  rw [if_neg (by omega), pnum_digits hq ds p _ 0 false h hd (Nat.le_refl _)]
  · simp
  · have : 10 ^ ds.length ≤ 10 ^ 6 := Nat.pow_le_pow_right (by decide) hl
    unfold Fit7
    omega

/-- the flags of a format -/
def flagsF : Bytes → Fl → Fl
  | [], f => f
  | c :: r, f => flagsF r (f.flag c.toNat)
theorem flagsF_wid : ∀ (r : Bytes) (f : Fl), (flagsF r f).wid = f.wid ∧ (flagsF r f).widP = f.widP ∧ (flagsF r f).prec = f.prec ∧ (flagsF r f).precP = f.precP
  | [], f => ⟨rfl, rfl, rfl, rfl⟩
  | c :: r, f => by
    have := flagsF_wid r (f.flag c.toNat)
    have h : (f.flag c.toNat).wid = f.wid ∧ (f.flag c.toNat).widP = f.widP ∧ (f.flag c.toNat).prec = f.prec ∧ (f.flag c.toNat).precP = f.precP := by
      unfold Fl.flag
      split
      · exact ⟨rfl, rfl, rfl, rfl⟩
      · split
        · exact ⟨rfl, rfl, rfl, rfl⟩
        · split
          · exact ⟨rfl, rfl, rfl, rfl⟩
          · split <;> exact ⟨rfl, rfl, rfl, rfl⟩
    rw [flagsF, this.1, this.2.1, this.2.2.1, this.2.2.2]
    exact h

theorem flagD_run {t : ByteArray} {c : UInt8} {q : Bytes} (hc : ¬ isFlag c.toNat) : ∀ (fs p : Bytes) (f : Nat) (d : D), t.data.toList = p ++ (fs ++ c :: q) → (∀ x ∈ fs, isFlag x.toNat) → d.i = p.length → fs.length ≤ f →
    flagD t f d = ⟨d.s.setFl (flagsF fs d.s.fl), p.length + fs.length, d.k, d.af⟩
  | [], p, f, d, h, _, hi, _ => by
    have hb := bt_at (t := t) (p := p) (q := q) (c := c) (by simpa using h)
    have e : flagD t f d = d := by
      cases f with
      | zero => rfl
      | succ f =>
        rw [flagD, if_neg]
        rintro ⟨_, h2⟩
        rw [hi, hb.2] at h2
        exact hc h2
    rw [e]
    obtain ⟨s, i, k, af⟩ := d
    simp only at hi
    subst hi
    rfl
  | x :: fs, p, f, d, h, hf, hi, hl => by
    obtain ⟨g, rfl⟩ : ∃ g, f = g + 1 := ⟨f - 1, by simp only [List.length_cons] at hl; omega⟩
    have hb := bt_at (t := t) (p := p) (q := fs ++ c :: q) (c := x) (by simpa using h)
    rw [flagD, if_pos (by rw [hi, hb.2]; exact ⟨hb.1, hf x (List.mem_cons_self ..)⟩)]
    rw [flagD_run hc fs (p ++ [x]) g _ (by simpa using h) (fun y hy => hf y (List.mem_cons_of_mem _ hy)) (by rw [hi]; simp) (by simp only [List.length_cons] at hl; omega)]
    rw [hi, hb.2]
    simp only [PS.setFl, flagsF, List.length_append, List.length_cons, List.length_nil]
    congr 1
    omega

/-- a precision as it is written -/
def precB : Option Bytes → Bytes
  | none => []
  | some ds => 46 :: ds
/-- the flags, width and precision of a format of one verb -/
def fmtF (fs ws : Bytes) (pr : Option Bytes) : Fl :=
  let f := (flagsF fs {}).setWid (numFrom 0 ws) (!ws.isEmpty)
  match pr with
  | none => f
  | some ds => f.setPrec (numFrom 0 ds) true

/-- a letter that is a verb -/
def verbB (v : UInt8) : Prop := 65 ≤ v.toNat ∧ v.toNat ≤ 90 ∨ 97 ≤ v.toNat ∧ v.toNat ≤ 122

theorem idxD_at {t : ByteArray} {p q : Bytes} {c : UInt8} (h : t.data.toList = p ++ c :: q) (hc : c.toNat ≠ 91) (n : Nat) (d : D) (hi : d.i = p.length) : idxD t n d = { d with af := false } := by
  have hb := bt_at h
  unfold idxD
  rw [if_pos (.inr (by rw [hi, hb.2]; omega))]
theorem widD_at {t : ByteArray} {l : List Arg} {p ws q : Bytes} {c : UInt8} (h : t.data.toList = p ++ (ws ++ c :: q)) (hw : ∀ x ∈ ws, digitB x) (hl : ws.length ≤ 6) (hc : ¬ digitB c) (hs : c.toNat ≠ 42) (d : D) (hi : d.i = p.length) (ha : d.af = false) :
    widD t l d = ⟨d.s.setFl (d.s.fl.setWid (numFrom 0 ws) (!ws.isEmpty)), p.length + ws.length, d.k, false⟩ := by
  have hlt : p.length < t.size := by rw [size_list, h]; simp only [List.length_append, List.length_cons]; omega
  have hpn := parsenum_digits (t := t) (q := c :: q) (.inr ⟨c, q, rfl, hc⟩) ws p h hw hl hlt
  have hns : ¬ bt t p.length = 42 := by
    cases ws with
    | nil => rw [(bt_at (t := t) (p := p) (c := c) (q := q) (by simpa using h)).2]; omega
    | cons x ws =>
      have hx := hw x (List.mem_cons_self ..)
      unfold digitB at hx
      rw [(bt_at (t := t) (p := p) (c := x) (q := ws ++ c :: q) (by simpa using h)).2]; omega
  unfold widD
  rw [if_neg (by rw [hi]; exact fun h => hns h.2), hi]
  simp only [hpn, ha, Bool.false_and]
  rfl
theorem precD_some {t : ByteArray} {l : List Arg} {p ds q : Bytes} {c : UInt8} (h : t.data.toList = p ++ (46 :: (ds ++ c :: q))) (hw : ∀ x ∈ ds, digitB x) (hl : ds.length ≤ 6) (hc : ¬ digitB c) (hs : c.toNat ≠ 42) (hb : c.toNat ≠ 91) (d : D) (hi : d.i = p.length) (ha : d.af = false) :
    precD t l d = ⟨d.s.setFl (d.s.fl.setPrec (numFrom 0 ds) true), p.length + 1 + ds.length, d.k, false⟩ := by
  have hlt : p.length + 1 < t.size := by rw [size_list, h]; simp only [List.length_append, List.length_cons]; omega
  have h46 := bt_at (t := t) (p := p) (c := 46) (q := ds ++ c :: q) h
  have hpn := parsenum_digits (t := t) (q := c :: q) (.inr ⟨c, q, rfl, hc⟩) ds (p ++ [46]) (by simpa using h) hw hl (by simpa using hlt)
  simp only [List.length_append, List.length_cons, List.length_nil] at hpn
  have hx : ∃ y r, t.data.toList = (p ++ [46]) ++ y :: r ∧ y.toNat ≠ 42 ∧ y.toNat ≠ 91 := by
    cases ds with
    | nil => exact ⟨c, q, by simpa using h, hs, hb⟩
    | cons x ds =>
      have hx := hw x (List.mem_cons_self ..)
      unfold digitB at hx
      exact ⟨x, ds ++ c :: q, by simpa using h, by omega, by omega⟩
  obtain ⟨y, r, hy, hy1, hy2⟩ := hx
  have hby := bt_at hy
  simp only [List.length_append, List.length_cons, List.length_nil] at hby
  unfold precD
  rw [if_pos (by rw [hi, h46.2]; exact ⟨hlt, rfl⟩)]
  rw [idxD_at hy hy2 _ _ (by rw [hi]; simp), ha]
  unfold precD1
  rw [if_neg (by simp only [hi]; rw [hby.2]; omega)]
  simp only [hi, hpn]
  cases ds with
  | nil => rfl
  | cons x ds => rfl
theorem precD_none {t : ByteArray} {l : List Arg} {p q : Bytes} {c : UInt8} (h : t.data.toList = p ++ c :: q) (hc : c.toNat ≠ 46) (d : D) (hi : d.i = p.length) : precD t l d = d := by
  have hb := bt_at h
  unfold precD
  rw [if_neg (by rw [hi, hb.2]; omega)]

theorem ext_nil (t : ByteArray) : (t.extract 0 0).data.toList = [] := List.eq_nil_of_length_eq_zero (by
  rw [Array.length_toList]
  show (t.extract 0 0).size = 0
  rw [ByteArray.size_extract]; omega)
theorem setWid_self (f : Fl) (h1 : f.wid = 0) (h2 : f.widP = false) : f.setWid 0 false = f := by
  cases f
  simp only at h1 h2
  subst h1 h2
  rfl

set_option maxRecDepth 4000 in
/-- one verb, one argument -/
theorem dpM_one (pa : Arg → Int → Fl → Option Bytes) (t : ByteArray) (fs ws : Bytes) (pr : Option Bytes) (v : UInt8) (a : Arg) (s0 : PS) (ht : t.data.toList = 37 :: (fs ++ (ws ++ (precB pr ++ [v])))) (hr : s0.reord = false)
    (hfs : ∀ x ∈ fs, isFlag x.toNat) (hws : ∀ x ∈ ws, digitB x) (hwl : ws.length ≤ 6) (hw0 : ∀ x r, ws = x :: r → x.toNat ≠ 48) (hpr : ∀ ds, pr = some ds → (∀ x ∈ ds, digitB x) ∧ ds.length ≤ 6) (hv : verbB v) (hvw : v.toNat ≠ 119) :
    dpM t [a] pa t.size ⟨s0, 0, 0, false⟩ = (pa a v.toNat ((fmtF fs ws pr).forVerb v.toNat)).map (fun x => s0.out ++ x) := by
  have hsz : t.size = fs.length + ws.length + (precB pr).length + 2 := by rw [size_list, ht]; simp only [List.length_append, List.length_cons, List.length_nil]; omega
  obtain ⟨g, hg⟩ : ∃ g, t.size = g + 1 := ⟨t.size - 1, by omega⟩
  have hvn : 65 ≤ v.toNat ∧ v.toNat ≤ 122 ∧ ¬ (90 < v.toNat ∧ v.toNat < 97) := by rcases hv with h | h <;> omega
  have hvd : ¬ digitB v := by unfold digitB; omega
  have htx : txtD t ⟨s0, 0, 0, false⟩ = ⟨({ s0 with good := true } : PS).put [], 0, 0, false⟩ := by
    have hj : txtEnd t (t.size - 0) 0 = 0 := txtEnd_at (t := t) (q := t.data.toList) (.inr ⟨_, ht⟩) [] [] _ (by simp) (by simp) (by simp)
    unfold txtD
    simp only [hj]
    rw [ext_nil]
  -- the last end
  have hend : ∀ (f : Nat) (s : PS) (af : Bool), s.reord = false → dpM t [a] pa f ⟨s, t.size, 1, af⟩ = some s.out := by
    intro f s af hs
    rw [dpM_end (by simp)]
    unfold finD
    rw [if_neg (by simp)]
  have harg : ∀ (fl : Fl) (s : PS) (af : Bool), s.reord = false → s.out = s0.out → s.fl = fl → argD [a] pa (dpM t [a] pa g) v.toNat ⟨s, t.size, 0, af⟩ = (pa a v.toNat (fl.forVerb v.toNat)).map (fun x => s0.out ++ x) := by
    intro fl s af h1 h2 h3
    unfold argD
    simp only [List.getElem?_cons_zero, h3]
    cases pa a v.toNat (fl.forVerb v.toNat) with
    | none => rfl
    | some x =>
      simp only [Option.map_some]
      rw [show (⟨(s.setFl (fl.forVerb v.toNat)).put x, t.size, 0 + 1, af⟩ : D) = ⟨(s.setFl (fl.forVerb v.toNat)).put x, t.size, 1, af⟩ from rfl, hend _ _ _ (by simpa [PS.setFl, PS.put] using h1)]
      simp only [PS.setFl, PS.put, h2]
  -- the byte behind the flags
  obtain ⟨c, q, hcq, hcf, hc91⟩ : ∃ c q, ws ++ (precB pr ++ [v]) = c :: q ∧ ¬ isFlag c.toNat ∧ c.toNat ≠ 91 := by
    cases ws with
    | cons x r =>
      have h1 := hws x (List.mem_cons_self ..)
      have h2 := hw0 x r rfl
      unfold digitB at h1
      exact ⟨x, r ++ (precB pr ++ [v]), rfl, by unfold isFlag; omega, by omega⟩
    | nil =>
      cases pr with
      | some ds => exact ⟨46, ds ++ [v], rfl, by decide, by decide⟩
      | none => exact ⟨v, [], rfl, by unfold isFlag; omega, by omega⟩
  rw [hg, dpM, if_pos (by simp only; omega), htx]
  unfold pctD
  rw [if_neg (show ¬ t.size ≤ 0 by omega)]
  have hfl := flagD_run (t := t) (q := q) hcf fs [37] (g + 1) ⟨(({ s0 with good := true } : PS).put []).setFl {}, 0 + 1, 0, false⟩ (by rw [ht, hcq]; simp) hfs rfl (by omega)
  simp only at hfl ⊢
  rw [hg, hfl]
  simp only [List.length_cons, List.length_nil]
  have hcb := bt_at (t := t) (p := 37 :: fs) (c := c) (q := q) (by rw [ht, hcq]; simp)
  simp only [List.length_cons] at hcb
  unfold dirD
  by_cases fast : 97 ≤ c.toNat ∧ c.toNat ≤ 122
  · -- the short way: no width, no precision
    have hq : ws = [] ∧ pr = none ∧ c = v ∧ q = [] := by
      cases ws with
      | cons x r =>
        exfalso
        have h1 := hws x (List.mem_cons_self ..)
        unfold digitB at h1
        simp only [List.cons_append, List.cons.injEq] at hcq
        rw [← hcq.1] at fast
        omega
      | nil =>
        cases pr with
        | some ds =>
          exfalso
          simp only [precB, List.nil_append, List.cons_append, List.cons.injEq] at hcq
          rw [← hcq.1] at fast
          revert fast; decide
        | none =>
          simp only [precB, List.nil_append, List.cons.injEq] at hcq
          exact ⟨rfl, rfl, hcq.1.symm, hcq.2.symm⟩
    obtain ⟨rfl, rfl, rfl, rfl⟩ := hq
    have e0 : (0 + 1 + fs.length : Nat) = fs.length + 1 := by omega
    rw [e0]
    rw [if_pos (by simp only; rw [hcb.2]; refine ⟨by omega, by omega, by omega, by simp⟩)]
    rw [if_neg (by simp only; rw [hcb.2]; omega)]
    simp only [hcb.2]
    have hsz2 : fs.length + 1 + 1 = t.size := by rw [hsz]; simp [precB]
    rw [hsz2]
    have := harg (flagsF fs {}) ((({ s0 with good := true } : PS).put []).setFl (flagsF fs {})) false (by exact hr) (by simp [PS.setFl, PS.put]) rfl
    have hff : fmtF fs [] none = flagsF fs {} := by
      unfold fmtF
      exact setWid_self _ (flagsF_wid fs {}).1 (flagsF_wid fs {}).2.1
    rw [hff]
    exact this
  · rw [if_neg (by simp only; rw [show (0 + 1 + fs.length : Nat) = fs.length + 1 by omega, hcb.2]; omega)]
    have e1 := idxD_at (t := t) (p := 37 :: fs) (c := c) (q := q) (by rw [ht, hcq]; simp) hc91 [a].length ⟨((({ s0 with good := true } : PS).put []).setFl {}).setFl (flagsF fs ((({ s0 with good := true } : PS).put []).setFl {}).fl), 0 + 1 + fs.length, 0, false⟩ (by simp only [List.length_cons]; omega)
    rw [e1]
    obtain ⟨s1, hs1⟩ : ∃ s1, s1 = ((({ s0 with good := true } : PS).put []).setFl {}).setFl (flagsF fs ((({ s0 with good := true } : PS).put []).setFl {}).fl) := ⟨_, rfl⟩
    have h1g : s1.good = true := by rw [hs1]; rfl
    have h1r : s1.reord = false := by rw [hs1]; exact hr
    have h1o : s1.out = s0.out := by rw [hs1]; simp [PS.setFl, PS.put]
    have h1f : s1.fl = flagsF fs {} := by rw [hs1]; rfl
    rw [← hs1]
    clear hs1 e1 hfl htx
    -- the width
    have key : ∀ s2 : PS, s2.good = true → s2.reord = false → s2.out = s0.out → verbD t [a] pa (dpM t [a] pa g) (finD [a] pa) ⟨s2, t.size - 1, 0, false⟩ = (pa a v.toNat (s2.fl.forVerb v.toNat)).map (fun x => s0.out ++ x) := by
      intro s2 h2g h2r h2o
      have hb := bt_at (t := t) (p := 37 :: (fs ++ (ws ++ precB pr))) (c := v) (q := []) (by rw [ht]; simp)
      have hp : (37 :: (fs ++ (ws ++ precB pr)) : Bytes).length = t.size - 1 := by rw [hsz]; simp only [List.length_cons, List.length_append]; omega
      rw [hp] at hb
      unfold verbD
      rw [if_neg (by simp only; omega), if_neg (by simp only; rw [hb.2]; omega)]
      simp only [hb.2, h2g]
      rw [if_neg (by omega), if_neg (by simp), if_neg (by simp), if_neg (by omega)]
      rw [show t.size - 1 + 1 = t.size by omega]
      exact harg s2.fl s2 false h2r h2o rfl
    cases pr with
    | none =>
      have hw := widD_at (t := t) (l := [a]) (p := 37 :: fs) (ws := ws) (c := v) (q := []) (by rw [ht]; simp [precB]) hws hwl hvd (by omega) ⟨s1, 0 + 1 + fs.length, 0, false⟩ (by simp only [List.length_cons]; omega) rfl
      rw [hw]
      have hp := precD_none (t := t) (l := [a]) (p := 37 :: (fs ++ ws)) (c := v) (q := []) (by rw [ht]; simp [precB]) (by omega) ⟨s1.setFl (s1.fl.setWid (numFrom 0 ws) (!ws.isEmpty)), (37 :: fs).length + ws.length, 0, false⟩ (by simp only [List.length_cons, List.length_append]; omega)
      rw [hp]
      have hx := idxD_at (t := t) (p := 37 :: (fs ++ ws)) (c := v) (q := []) (by rw [ht]; simp [precB]) (by omega) [a].length ⟨s1.setFl (s1.fl.setWid (numFrom 0 ws) (!ws.isEmpty)), (37 :: fs).length + ws.length, 0, false⟩ (by simp only [List.length_cons, List.length_append]; omega)
      unfold idx2D
      rw [if_neg (by simp), hx]
      have hi : (37 :: fs : Bytes).length + ws.length = t.size - 1 := by rw [hsz]; simp only [List.length_cons, precB, List.length_nil]; omega
      simp only [hi]
      rw [key _ (by exact h1g) (by exact h1r) (by exact h1o)]
      simp only [PS.setFl, h1f]
      rfl
    | some ds =>
      have hd := hpr ds rfl
      have hw := widD_at (t := t) (l := [a]) (p := 37 :: fs) (ws := ws) (c := 46) (q := ds ++ [v]) (by rw [ht]; simp [precB]) hws hwl (by unfold digitB; decide) (by decide) ⟨s1, 0 + 1 + fs.length, 0, false⟩ (by simp only [List.length_cons]; omega) rfl
      rw [hw]
      have hp := precD_some (t := t) (l := [a]) (p := 37 :: (fs ++ ws)) (ds := ds) (c := v) (q := []) (by rw [ht]; simp [precB]) hd.1 hd.2 hvd (by omega) (by omega) ⟨s1.setFl (s1.fl.setWid (numFrom 0 ws) (!ws.isEmpty)), (37 :: fs).length + ws.length, 0, false⟩ (by simp only [List.length_cons, List.length_append]; omega) rfl
      rw [hp]
      have hx := idxD_at (t := t) (p := 37 :: (fs ++ (ws ++ 46 :: ds))) (c := v) (q := []) (by rw [ht]; simp [precB]) (by omega) [a].length ⟨(s1.setFl (s1.fl.setWid (numFrom 0 ws) (!ws.isEmpty))).setFl ((s1.setFl (s1.fl.setWid (numFrom 0 ws) (!ws.isEmpty))).fl.setPrec (numFrom 0 ds) true), (37 :: (fs ++ ws)).length + 1 + ds.length, 0, false⟩ (by simp only [List.length_cons, List.length_append]; omega)
      unfold idx2D
      rw [if_neg (by simp), hx]
      have hi : (37 :: (fs ++ ws) : Bytes).length + 1 + ds.length = t.size - 1 := by rw [hsz]; simp only [List.length_cons, precB, List.length_append]; omega
      simp only [hi]
      rw [key _ (by exact h1g) (by exact h1r) (by exact h1o)]
      simp only [PS.setFl, h1f]
      rfl

end Go.Proofs.YtcbliojofnigdaaGreatDoor
