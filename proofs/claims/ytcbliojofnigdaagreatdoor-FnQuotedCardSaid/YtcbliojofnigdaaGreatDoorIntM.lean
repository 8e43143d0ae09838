/- What fmt.fmtInteger writes, in plain Lean. The reference's Integer, in plain Lean, and the program's by it. -/
import Derived.Test.YtcbliojofnigdaaGreatDoorSpecLaw
import Derived.Laws.BitsLemmas
import Derived.Test.YtcbliojofnigdaaGreatDoorRepPad
namespace Go.Proofs.YtcbliojofnigdaaGreatDoor
open Go Go.Proofs Go.RowKit

/-- the digits' letters -/
def digS (up : Bool) : ByteArray := if up then ⟨#[48, 49, 50, 51, 52, 53, 54, 55, 56, 57, 65, 66, 67, 68, 69, 70, 88]⟩ else ⟨#[48, 49, 50, 51, 52, 53, 54, 55, 56, 57, 97, 98, 99, 100, 101, 102, 120]⟩
/-- a number is below 0, its size -/
def negU (sg : Bool) (u : Int) : Bool := sg && decide (9223372036854775808 ≤ u)
def absU (sg : Bool) (u : Int) : Nat := if negU sg u then (18446744073709551616 - u).toNat else u.toNat

def Fl.noZero (f : Fl) : Fl := { f with zero := false }
/-- how many digits are asked for -/
def intPrec (f : Fl) (neg : Bool) : Int :=
  if f.precP then f.prec
  else if f.zero && !f.minus && f.widP then f.wid - (if neg || f.plus || f.space then 1 else 0) else 0
/-- noughts ahead of the digits -/
def intZeros (p : Int) (ds : Bytes) : Bytes := List.replicate (p.toNat - ds.length) 48 ++ ds
/-- what the sharp flag sets ahead -/
def intSharp (base : Nat) (up : Bool) (x : Bytes) : Bytes :=
  if base = 2 then 48 :: 98 :: x else if base = 8 then (if x.head? = some 48 then x else 48 :: x) else if base = 16 then 48 :: (if up then 88 else 120) :: x else x
/-- what the verb O sets ahead -/
def intO (verb : Int) (x : Bytes) : Bytes := if verb = 79 then 48 :: 111 :: x else x
/-- the sign -/
def intSign (f : Fl) (neg : Bool) (x : Bytes) : Bytes := if neg then 45 :: x else if f.plus then 43 :: x else if f.space then 32 :: x else x
/-- the number, not filled up -/
def intBody (f : Fl) (u : Nat) (neg : Bool) (base : Nat) (verb : Int) (up : Bool) : Bytes :=
  let x := intZeros (intPrec f neg) (digits base up 64 u)
  intSign f neg (intO verb (if f.sharp then intSharp base up x else x))
/-- fmtInteger -/
def fmtIntM (f : Fl) (u : Nat) (neg : Bool) (base : Nat) (verb : Int) (up : Bool) : Bytes :=
  if f.precP = true ∧ f.prec = 0 ∧ u = 0 then padding f.noZero f.wid else padM f.noZero (intBody f u neg base verb up)

theorem digC_small (up : Bool) (d : Nat) (h : d < 16) : (digC up d).toNat < 128 ∧ (0 < d → digC up d ≠ 48) := by
  have key : ∀ (u : Bool) (x : Fin 16), (digC u x.val).toNat < 128 ∧ (0 < x.val → digC u x.val ≠ 48) := by decide
  exact key up ⟨d, h⟩
theorem absU_lt (sg : Bool) (u : Int) (h0 : 0 ≤ u) (h1 : u ≤ 18446744073709551615) : absU sg u < 18446744073709551616 := by
  unfold absU negU
  split
  · rename_i h
    simp only [Bool.and_eq_true, decide_eq_true_eq] at h
    omega
  · omega
theorem absU_pos (sg : Bool) (u : Int) (h0 : 0 ≤ u) (h1 : u ≤ 18446744073709551615) (hu : u ≠ 0) : 0 < absU sg u := by
  unfold absU
  split <;> omega


theorem u8_digC0 (up : Bool) (d : Nat) (h : d < 10) : u8 (digC up d) = .int .u8 (48 + (d : Int)) := by
  unfold u8 digC
  rw [if_pos h]
  simp only [UInt8.toNat_ofNat']
  congr 1
  omega
theorem u8_dig8 (up : Bool) (q : Nat) : u8 (digC up (q % 8)) = .int .u8 (48 + (q : Int) % 8) := by
  rw [u8_digC0 up _ (by omega)]
  congr 1
theorem u8_dig2 (up : Bool) (q : Nat) : u8 (digC up (q % 2)) = .int .u8 (48 + (q : Int) % 2) := by
  rw [u8_digC0 up _ (by omega)]
  congr 1
theorem and_u64 (k : Nat) (hk : k ≤ 64) (q : Nat) (h : q < 18446744073709551616) : bits .and .u64 (q : Int) (2 ^ k - 1) = (q : Int) % 2 ^ k :=
  bits_mask .u64 64 (by decide) (fun n h0 h1 => by rw [IntKind.wrap_u64]; omega) k hk _ (by omega) (by omega)
theorem dec_next (q : Nat) (h : q < 18446744073709551616) : IntKind.u64.wrap ((q : Int) / 10) = ((q / 10 : Nat) : Int) := by rw [IntKind.wrap_u64]; omega
theorem dec_byte (up : Bool) (q : Nat) : Value.int .u8 (IntKind.u64.wrap (IntKind.u64.wrap (48 + (q : Int)) - IntKind.u64.wrap (IntKind.u64.wrap ((q : Int) / 10) * 10)) % 256) = u8 (digC up (q % 10)) := by
  rw [u8_digC0 up _ (Nat.mod_lt _ (by decide))]
  congr 1
  simp only [IntKind.wrap_u64]
  omega
theorem digS_size (up : Bool) : (digS up).size = 17 := by cases up <;> rfl
theorem digS_at (up : Bool) {dg : ByteArray} (d : Nat) (h : d < 16) (he : dg = digS up) : u8 (digC up d) = Value.int .u8 (bt dg d) := by
  subst he
  have key : ∀ (u : Bool) (x : Fin 16), digC u x.val = (digS u).get! x.val := by decide
  unfold u8 bt
  rw [key up ⟨d, h⟩]
theorem digS_16 (up : Bool) : u8 (if up then 88 else 120) = Value.int .u8 (bt (digS up) 16) := by cases up <;> rfl

theorem intPrec_le (f : Fl) (neg : Bool) (N : Nat) (h0 : 0 ≤ f.wid) (h1 : 0 ≤ f.prec) (h : (f.widP || f.precP) = true → 3 + f.wid + f.prec ≤ (N : Int)) (hN : 68 ≤ N) : intPrec f neg + 3 ≤ (N : Int) := by
  unfold intPrec
  split
  · rename_i hp
    have := h (by rw [hp]; simp)
    omega
  · split
    · rename_i hw
      simp only [Bool.and_eq_true] at hw
      have := h (by rw [hw.2]; simp)
      split <;> omega
    · omega
theorem intZeros_step (p : Int) (zs : Bytes) (h : (zs.length : Int) < p) : intZeros p zs = intZeros p (48 :: zs) := by
  unfold intZeros
  simp only [List.length_cons]
  rw [show p.toNat - zs.length = (p.toNat - (zs.length + 1)) + 1 by omega, List.replicate_succ', List.append_assoc]
  rfl
theorem intZeros_stop (p : Int) (zs : Bytes) (h : p ≤ (zs.length : Int)) : intZeros p zs = zs := by
  unfold intZeros
  rw [show p.toNat - zs.length = 0 by omega]
  rfl
theorem intZeros_head (p : Int) (zs : Bytes) (h : (intZeros p zs).head? ≠ some 48) : intZeros p zs = zs := by
  by_cases hp : p ≤ (zs.length : Int)
  · exact intZeros_stop p zs hp
  · exfalso
    apply h
    unfold intZeros
    rw [show p.toNat - zs.length = (p.toNat - zs.length - 1) + 1 by omega, List.replicate_succ]
    rfl

theorem intZeros_ne {p : Int} {x : Bytes} (h : x ≠ []) : intZeros p x ≠ [] := by unfold intZeros; simp [h]
theorem intSharp_ne {base : Nat} {up : Bool} {x : Bytes} (h : x ≠ []) : intSharp base up x ≠ [] := by
  unfold intSharp
  split
  · simp
  · split
    · split
      · exact h
      · simp
    · split
      · simp
      · exact h
theorem intO_ne {verb : Int} {x : Bytes} (h : x ≠ []) : intO verb x ≠ [] := by
  unfold intO
  split
  · simp
  · exact h
theorem intSign_ne {f : Fl} {neg : Bool} {x : Bytes} (h : x ≠ []) : intSign f neg x ≠ [] := by
  unfold intSign
  split
  · simp
  · split
    · simp
    · split
      · simp
      · exact h
theorem intBody_ne (f : Fl) (n : Nat) (neg : Bool) (base : Nat) (verb : Int) (up : Bool) : intBody f n neg base verb up ≠ [] := by
  unfold intBody
  apply intSign_ne
  apply intO_ne
  have := intZeros_ne (p := intPrec f neg) (digits_ne base up 64 n (by decide))
  split
  · exact intSharp_ne this
  · exact this

/-- the sign that the reference writes -/
def sgnS (f : SF) (neg : Bool) : Bytes := if neg then [45] else if f.plus then [43] else if f.space then [32] else []
/-- what it writes ahead of the digits -/
def headS (f : SF) (base : Nat) (letter : Int) (up : Bool) : Bytes :=
  if letter = 79 then [48, 111] else if f.sharp = true ∧ base = 2 then [48, 98] else if f.sharp = true ∧ base = 8 then [48] else if f.sharp = true ∧ base = 16 ∧ up = true then [48, 88] else if f.sharp = true ∧ base = 16 then [48, 120] else []
/-- Integer (nothing: open) -/
def specInt (f : SF) (u : Int) (base : Nat) (sg : Bool) (letter : Int) (up : Bool) : Option Bytes :=
  if f.hasPrec = true ∨ (f.plus = true ∧ f.space = true) ∨ (f.sharp = true ∧ (letter = 79 ∨ (base = 8 ∧ u = 0))) then none
  else if f.zero = true ∧ f.minus = false ∧ f.hasWid = true then
    if headS f base letter up = [] then some (sgnS f (negU sg u) ++ (rep 48 (f.wid - (sgnS f (negU sg u)).length - (digits base up 64 (absU sg u)).length) ++ digits base up 64 (absU sg u))) else none
  else some (specPad f (sgnS f (negU sg u) ++ (headS f base letter up ++ digits base up 64 (absU sg u))))

theorem runes_asciiL {l : Bytes} (h : ∀ c ∈ l, c.toNat < 128) : runes l = l.length := by
  have hA : Ascii (str l) := by
    intro i hi
    rw [str_size] at hi
    have : (str l).get! i = l[i] := str_get! l i hi
    unfold bt
    rw [this]
    have := h l[i] (List.getElem_mem hi)
    omega
  have := runes_ascii hA
  rw [str_bytes, str_size] at this
  exact this
theorem padM_long {f : Fl} {t : Bytes} (h : f.wid ≤ runes t) : padM f t = t := by
  unfold padM
  split
  · rfl
  · have : padding f (f.wid - runes t) = [] := by unfold padding; rw [Int.toNat_of_nonpos (by omega)]; rfl
    rw [this]
    split <;> simp
theorem digits_small (base : Nat) (up : Bool) (h0 : 0 < base) (hb : base ≤ 16) : ∀ (f n : Nat), ∀ c ∈ digits base up f n, c.toNat < 128
  | 0, _, c, hc => by simp [digits] at hc
  | f + 1, n, c, hc => by
    rw [digits] at hc
    rcases List.mem_append.1 hc with hc | hc
    · split at hc
      · simp at hc
      · exact digits_small base up h0 hb f _ c hc
    · have : c = digC up (n % base) := by simpa using hc
      rw [this]
      have := Nat.mod_lt n h0
      exact (digC_small up _ (by omega)).1
theorem digits_headG (base : Nat) (up : Bool) (h0 : 2 ≤ base) (hb : base ≤ 16) : ∀ (f n : Nat), n < base ^ f → 0 < n → ∀ x r, digits base up f n = x :: r → x ≠ 48
  | 0, n, h, hn, _, _, _ => by simp at h; omega
  | f + 1, n, h, hn, x, r, he => by
    rw [digits] at he
    have hmod := Nat.mod_lt n (show 0 < base by omega)
    split at he
    · rename_i hz
      simp only [List.nil_append, List.cons.injEq] at he
      rw [← he.1]
      refine (digC_small up _ (by omega)).2 ?_
      have := Nat.div_add_mod n base
      rw [hz] at this
      omega
    · rename_i hz
      have hlt : n / base < base ^ f := by
        rw [Nat.pow_succ] at h
        exact Nat.div_lt_of_lt_mul (by rw [Nat.mul_comm]; exact h)
      have hne : digits base up f (n / base) ≠ [] := by
        apply digits_ne
        cases f with
        | zero => rw [Nat.pow_zero] at hlt; exact absurd (Nat.lt_one_iff.1 hlt) hz
        | succ f => omega
      cases hd : digits base up f (n / base) with
      | nil => exact absurd hd hne
      | cons y q =>
        rw [hd] at he
        simp only [List.cons_append, List.cons.injEq] at he
        rw [← he.1]
        exact digits_headG base up h0 hb f (n / base) hlt (Nat.pos_of_ne_zero hz) y q hd

theorem sgnS_small (f : SF) (neg : Bool) : ∀ c ∈ sgnS f neg, c.toNat < 128 := by
  unfold sgnS
  intro c hc
  split at hc
  · simp at hc; subst hc; decide
  · split at hc
    · simp at hc; subst hc; decide
    · split at hc
      · simp at hc; subst hc; decide
      · simp at hc
theorem sgnS_len (f : SF) (neg : Bool) : (sgnS f neg).length = if (neg || f.plus || f.space) = true then 1 else 0 := by
  unfold sgnS
  cases neg <;> cases f.plus <;> cases f.space <;> rfl
theorem intSign_eq (fl : Fl) (f : SF) (neg : Bool) (hp : fl.plus = f.plus) (hsp : fl.space = f.space) (x : Bytes) : intSign fl neg x = sgnS f neg ++ x := by
  unfold intSign sgnS
  rw [hp, hsp]
  cases neg <;> cases f.plus <;> cases f.space <;> rfl
theorem rep_small (n : Int) : ∀ c ∈ rep 48 n, c.toNat < 128 := by
  intro c hc
  unfold rep at hc
  rw [(List.mem_replicate.1 hc).2]
  decide
theorem intM_spec (fl : Fl) (f : SF) (u : Int) (base : Nat) (sg : Bool) (verb : Int) (up : Bool) (out : Bytes) (hbase : base = 2 ∨ base = 8 ∨ base = 10 ∨ base = 16) (h0 : 0 ≤ u) (h1 : u ≤ 18446744073709551615)
    (hw : fl.widP = f.hasWid) (hw2 : f.hasWid = true → fl.wid = f.wid ∧ 0 < f.wid) (hpp : fl.precP = false) (hm : fl.minus = f.minus) (hp : fl.plus = f.plus) (hs : fl.sharp = f.sharp) (hsp : fl.space = f.space) (hz : fl.zero = f.zero)
    (h : specInt f u base sg verb up = some out) : fmtIntM fl (absU sg u) (negU sg u) base verb up = out := by
  have hn := absU_lt sg u h0 h1
  have hpos := absU_pos sg u h0 h1
  unfold specInt at h
  unfold fmtIntM
  rw [if_neg (by rw [hpp]; rintro ⟨h, _⟩; cases h)]
  split at h
  · cases h
  rename_i hno
  have hsharp : f.sharp = true → verb ≠ 79 ∧ (base = 8 → u ≠ 0) := fun hh => ⟨fun hv => hno (.inr (.inr ⟨hh, .inl hv⟩)), fun hb hu => hno (.inr (.inr ⟨hh, .inr ⟨hb, hu⟩⟩))⟩
  clear hno
  obtain ⟨n, hnn⟩ : ∃ n, n = absU sg u := ⟨_, rfl⟩
  obtain ⟨neg, hneg⟩ : ∃ neg, neg = negU sg u := ⟨_, rfl⟩
  rw [← hnn, ← hneg] at h ⊢
  rw [← hnn] at hn hpos
  have hb1 : 2 ≤ base ∧ base ≤ 16 := by omega
  have hds := digits_small base up (by omega) hb1.2 64 n
  have hhd := digits_headG base up hb1.1 hb1.2 64 n
  obtain ⟨ds, hdd⟩ : ∃ ds, ds = digits base up 64 n := ⟨_, rfl⟩
  rw [← hdd] at h hds hhd
  unfold intBody
  rw [← hdd]
  simp only
  rw [intSign_eq fl f neg hp hsp, hs]
  split at h
  · rename_i hA
    obtain ⟨z1, z2, z3⟩ := hA
    split at h
    · rename_i hhead
      cases h
      have hv : verb ≠ 79 := by
        intro hv
        unfold headS at hhead
        rw [if_pos hv] at hhead
        cases hhead
      have hsb : f.sharp = true → base = 10 := by
        intro hh
        unfold headS at hhead
        rw [if_neg hv] at hhead
        rcases hbase with hb | hb | hb | hb
        · rw [if_pos ⟨hh, hb⟩] at hhead; cases hhead
        · rw [if_neg (by omega), if_pos ⟨hh, hb⟩] at hhead; cases hhead
        · exact hb
        · rw [if_neg (by omega), if_neg (by omega)] at hhead
          split at hhead
          · cases hhead
          · rw [if_pos ⟨hh, hb⟩] at hhead; cases hhead
      have e1 : ∀ x, (if f.sharp = true then intSharp base up x else x) = x := by
        intro x
        split
        · rename_i hh
          unfold intSharp
          rw [hsb hh]
          rfl
        · rfl
      have e2 : ∀ x, intO verb x = x := fun x => by unfold intO; rw [if_neg hv]
      rw [e1, e2]
      have hwid := hw2 z3
      have e3 : intPrec fl neg = f.wid - (sgnS f neg).length := by
        unfold intPrec
        rw [hpp, hz, z1, hm, z2, hw, z3, hwid.1, hp, hsp, sgnS_len]
        simp only [Bool.false_eq_true, if_false, Bool.not_false, Bool.and_self, if_true]
        split <;> rfl
      rw [e3]
      have e4 : intZeros (f.wid - (sgnS f neg).length) ds = rep 48 (f.wid - (sgnS f neg).length - ds.length) ++ ds := by
        unfold intZeros rep
        congr 2
        omega
      rw [e4]
      refine padM_long ?_
      rw [runes_asciiL]
      · have e5 : fl.noZero.wid = f.wid := hwid.1
        rw [e5]
        unfold rep
        simp only [List.length_append, List.length_replicate]
        omega
      · intro c hc
        rcases List.mem_append.1 hc with hc | hc
        · exact sgnS_small f neg c hc
        · rcases List.mem_append.1 hc with hc | hc
          · exact rep_small _ c hc
          · exact hds c hc
    · cases h
  · rename_i hA
    cases h
    have e3 : intPrec fl neg = 0 := by
      unfold intPrec
      rw [hpp, hz, hm, hw]
      simp only [Bool.false_eq_true, if_false]
      rw [if_neg]
      intro hh
      simp only [Bool.and_eq_true, Bool.not_eq_true'] at hh
      exact hA ⟨hh.1.1, hh.1.2, hh.2⟩
    have e4 : intZeros 0 ds = ds := by
      unfold intZeros
      simp
    rw [e3, e4]
    have e5 : intO verb (if f.sharp = true then intSharp base up ds else ds) = headS f base verb up ++ ds := by
      unfold headS
      by_cases hh : f.sharp = true
      · have hv := (hsharp hh).1
        rcases hbase with rfl | rfl | rfl | rfl
        · simp [intO, intSharp, hh, hv]
        · have hne : ¬ ds.head? = some 48 := by
            intro he
            cases hq : ds with
            | nil => rw [hq] at he; cases he
            | cons x r =>
              rw [hq] at he
              have hx : x = 48 := by simpa using he
              exact hhd (Nat.lt_of_lt_of_le hn (by decide)) (hpos ((hsharp hh).2 rfl)) x r hq hx
          simp [intO, intSharp, hh, hv, hne]
        · simp [intO, intSharp, hh, hv]
        · cases up <;> simp [intO, intSharp, hh, hv]
      · rw [if_neg hh]
        unfold intO
        split
        · rfl
        · rw [if_neg (fun h => hh h.1), if_neg (fun h => hh h.1), if_neg (fun h => hh h.1), if_neg (fun h => hh h.1)]; rfl
    rw [e5]
    generalize sgnS f neg ++ (headS f base verb up ++ ds) = x
    unfold padM specPad
    have e6 : fl.noZero.widP = f.hasWid := hw
    have e7 : fl.noZero.minus = f.minus := hm
    cases hwid : f.hasWid
    · rw [if_pos (.inl (by rw [e6, hwid])), if_pos rfl]
    · have hq := hw2 hwid
      have e8 : fl.noZero.wid = f.wid := hq.1
      rw [if_neg (by rw [e6, hwid, e8]; rintro (h' | h'); cases h'; omega), if_neg (show ¬ (true = false) by simp), e7, e8]
      have e9 : ∀ k, padding fl.noZero k = rep 32 k := fun k => rfl
      rw [e9]
      cases hmm : f.minus
      · have hz' : f.zero = false := by
          cases hzz : f.zero
          · rfl
          · exact absurd ⟨hzz, hmm, hwid⟩ hA
        rw [hz']
        rfl
      · rfl

end Go.Proofs.YtcbliojofnigdaaGreatDoor
