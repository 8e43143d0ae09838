/- Plain laws of doPrintf's model, and where the arguments lie. -/
import Derived.Test.YtcbliojofnigdaaGreatDoorDp
namespace Go.Proofs.YtcbliojofnigdaaGreatDoor
open Go Go.Proofs Go.RowKit

/-- the arguments lie in the slice a -/
def ArgsAt (b : Nat) (w : World) (v : Value) (a : Value) (l : List Arg) : Prop :=
  (l = [] ∧ a = .slice none 0 0) ∨ ∃ k o c cs e, a = .slice (some ⟨k, o, none⟩) l.length c ∧ w.heap[k]? = some (.cells cs e (0, 0)) ∧ k ≠ b ∧ (∀ o1 c1, place v ≠ some (k, o1, c1)) ∧ l.length ≤ c ∧
    ∀ j y, l[j]? = some y → ∃ x, cs[o + j]? = some x ∧ ArgIs b w v x y

theorem ArgsAt.step {b : Nat} {w w' : World} {v v' a : Value} {l : List Arg} (h : ArgsAt b w v a l) (hf : Fr b w v w' v') : ArgsAt b w' v' a l := by
  rcases h with h | ⟨k, o, c, cs, e, h1, h2, h3, h4, hc, h5⟩
  · exact .inl h
  · refine .inr ⟨k, o, c, cs, e, h1, by rw [hf.same k (lt_of_heap h2) h3 h4]; exact h2, h3, fun o1 c1 hv => ?_, hc, fun j y hy => ?_⟩
    · rcases hf.plc k o1 c1 hv with ⟨o2, c2, h6⟩ | h6
      · exact h4 o2 c2 h6
      · have := lt_of_heap h2
        omega
    · obtain ⟨x, hx, hA⟩ := h5 j y hy
      exact ⟨x, hx, hA.step hf⟩
theorem ArgsAt.slice {b : Nat} {w : World} {v a : Value} {l : List Arg} (h : ArgsAt b w v a l) : ∃ p c, a = .slice p l.length c := by
  rcases h with ⟨rfl, rfl⟩ | ⟨k, o, c, cs, e, h1, _⟩
  · exact ⟨none, 0, rfl⟩
  · exact ⟨_, _, h1⟩
theorem ArgsAt.cap {b : Nat} {w : World} {v : Value} {p : Option Addr} {n c : Nat} {l : List Arg} (h : ArgsAt b w v (.slice p n c) l) : l.length ≤ c := by
  rcases h with ⟨rfl, h⟩ | ⟨k, o, c, cs, e, h1, _, _, _, h5, _⟩
  · exact Nat.zero_le _
  · cases h1; exact h5
/-- the cell of an argument -/
theorem ArgsAt.at {b : Nat} {w : World} {v : Value} {p : Option Addr} {n c : Nat} {l : List Arg} (h : ArgsAt b w v (.slice p n c) l) {j : Nat} (hj : j < l.length) :
    ∃ k o x, p = some ⟨k, o, none⟩ ∧ k ≠ b ∧ w.cell? ⟨k, o + j, none⟩ = some x ∧ ArgIs b w v x l[j] := by
  rcases h with ⟨rfl, _⟩ | ⟨k, o, c, cs, e, h1, h2, h3, _, _, h5⟩
  · simp at hj
  · obtain ⟨x, hx, hA⟩ := h5 j l[j] (by simp [hj])
    cases h1
    exact ⟨k, o, x, rfl, h3, by simp [World.cell?, h2, hx], hA⟩

theorem parsenumM_le (t : ByteArray) (i e : Nat) : (parsenumM t i e).1 ≤ 100000000 ∧ (i ≤ e → (parsenumM t i e).2.2 ≤ e) := by
  have key : ∀ f i n b, n ≤ 10000009 → (pnum t e f i n b).1 ≤ 100000000 ∧ (i ≤ e → (pnum t e f i n b).2.2 ≤ e) := by
    intro f
    induction f with
    | zero => intro i n b hn; exact ⟨by simp only [pnum]; omega, fun h => h⟩
    | succ f ih =>
      intro i n b hn
      rw [pnum]
      split
      · split
        · exact ⟨by simp, fun _ => Nat.le_refl _⟩
        · rename_i h1 h2
          have := ih (i + 1) (n * 10 + (bt t i - 48).toNat) true (by omega)
          exact ⟨this.1, fun _ => this.2 (by omega)⟩
      · exact ⟨by simp only; omega, fun h => h⟩
  unfold parsenumM
  split
  · exact ⟨by simp, fun _ => Nat.le_refl _⟩
  · exact key _ _ _ _ (by omega)

theorem panM_le (u : ByteArray) : 1 ≤ (panM u).2.1 ∧ ((panM u).2.1 ≤ u.size ∨ ((panM u).2.1 = 1)) ∧ (panM u).1 ≤ 100000000 ∧ -1 ≤ (panM u).1 := by
  have key : ∀ f i, 1 ≤ (panFrom u f i).2.1 ∧ ((panFrom u f i).2.1 ≤ u.size ∨ ((panFrom u f i).2.1 = 1)) ∧ (panFrom u f i).1 ≤ 100000000 ∧ -1 ≤ (panFrom u f i).1 := by
    intro f
    induction f with
    | zero => intro i; simp [panFrom]
    | succ f ih =>
      intro i
      rw [panFrom]
      split
      · split
        · have := (parsenumM_le u 1 i).1
          simp only
          split
          · refine ⟨by simp, ?_, by simp, by simp⟩
            simp only; omega
          · refine ⟨by simp, ?_, ?_, ?_⟩ <;> simp only <;> omega
        · exact ih _
      · simp
  unfold panM
  split
  · simp
  · exact key _ _

/-- what holds of the reader wherever it is -/
structure DOk (t : ByteArray) (l : List Arg) (d : D) : Prop where
  i : d.i ≤ t.size
  k : d.k ≤ l.length
  fl : FlOk d.s.fl
  err : d.s.err = false

theorem idxD_ok {t : ByteArray} {l : List Arg} {d : D} (h : DOk t l d) : DOk t l (idxD t l.length d) := by
  unfold idxD
  split
  · exact ⟨h.i, h.k, h.fl, h.err⟩
  · rename_i hc
    have hp := panM_le (t.extract d.i t.size)
    have hsz : (t.extract d.i t.size).size = t.size - d.i := by rw [ByteArray.size_extract]; omega
    rw [hsz] at hp
    simp only
    split
    · refine ⟨?_, ?_, h.fl, h.err⟩ <;> simp only <;> omega
    · refine ⟨?_, h.k, h.fl, h.err⟩
      simp only; omega

theorem intFrom_le (l : List Arg) (k : Nat) (h : k ≤ l.length) : -1000000 ≤ (intFrom l k).1 ∧ (intFrom l k).1 ≤ 1000000 ∧ k ≤ (intFrom l k).2.2 ∧ (intFrom l k).2.2 ≤ l.length := by
  unfold intFrom
  split
  · simp; omega
  · rename_i a ha
    have hk : k < l.length := by
      rcases Nat.lt_or_ge k l.length with h1 | h1
      · exact h1
      · rw [List.getElem?_eq_none h1] at ha; cases ha
    split
    · simp; omega
    · rename_i n hn
      split
      · simp; omega
      · rename_i ht
        have : tooLargeB n = false := by simpa using ht
        simp only [tooLargeB, Bool.or_eq_false_iff, decide_eq_false_iff_not] at this
        simp only
        omega

theorem FlOk.setWid {f : Fl} (h : FlOk f) (n : Int) (p : Bool) (h1 : -100000000 ≤ n) (h2 : n ≤ 100000000) : FlOk (f.setWid n p).negWid := by
  unfold Fl.negWid
  split <;> rename_i hc <;> simp only [Fl.setWid] at hc ⊢ <;> exact ⟨by simp only; omega, by simp only; omega, h.2.2.1, h.2.2.2⟩
theorem FlOk.setPrec {f : Fl} (h : FlOk f) (n : Int) (p : Bool) (h2 : n ≤ 100000000) : FlOk (f.setPrec n p).negPrec := by
  unfold Fl.negPrec
  split <;> rename_i hc <;> simp only [Fl.setPrec] at hc ⊢ <;> exact ⟨h.1, h.2.1, by simp only; omega, by simp only; omega⟩

theorem PS.bad_fl (s : PS) (c : Bool) : (s.bad c).fl = s.fl := by unfold PS.bad; split <;> rfl
theorem PS.bad_err (s : PS) (c : Bool) : (s.bad c).err = s.err := by unfold PS.bad; split <;> rfl
theorem PS.bad_out (s : PS) (c : Bool) : (s.bad c).out = s.out := by unfold PS.bad; split <;> rfl

theorem widD_ok {t : ByteArray} {l : List Arg} {d : D} (h : DOk t l d) : DOk t l (widD t l d) := by
  unfold widD
  split
  · rename_i hc
    have hi := intFrom_le l d.k h.k
    refine ⟨by simp only; omega, by simp only; omega, ?_, ?_⟩
    · simp only [PS.setFl]
      exact h.fl.setWid _ _ (by omega) (by omega)
    · simp only [PS.setFl]
      split <;> exact h.err
  · have hp := parsenumM_le t d.i t.size
    refine ⟨hp.2 h.i, h.k, ?_, ?_⟩
    · simp only [PS.bad_fl, PS.setFl]
      exact ⟨by simp only [Fl.setWid]; omega, by simp only [Fl.setWid]; omega, h.fl.2.2.1, h.fl.2.2.2⟩
    · simp only [PS.bad_err, PS.setFl]
      exact h.err

theorem precD1_ok {t : ByteArray} {l : List Arg} {d : D} (h : DOk t l d) : DOk t l (precD1 t l d) := by
  unfold precD1
  split
  · rename_i hc
    have hi := intFrom_le l d.k h.k
    refine ⟨by simp only; omega, by simp only; omega, ?_, ?_⟩
    · simp only [PS.setFl]
      exact h.fl.setPrec _ _ (by omega)
    · simp only [PS.setFl]
      split <;> exact h.err
  · have hp := parsenumM_le t d.i t.size
    refine ⟨hp.2 h.i, h.k, ?_, h.err⟩
    simp only [PS.setFl]
    split <;> exact ⟨h.fl.1, h.fl.2.1, by simp only [Fl.setPrec]; omega, by simp only [Fl.setPrec]; omega⟩

theorem precD_ok {t : ByteArray} {l : List Arg} {d : D} (h : DOk t l d) : DOk t l (precD t l d) := by
  unfold precD
  split
  · rename_i hc
    refine precD1_ok (idxD_ok ⟨by simp only; omega, h.k, by simp only [PS.bad_fl]; exact h.fl, by simp only [PS.bad_err]; exact h.err⟩)
  · exact h
theorem idx2D_ok {t : ByteArray} {l : List Arg} {d : D} (h : DOk t l d) : DOk t l (idx2D t l.length d) := by
  unfold idx2D
  split
  · exact h
  · exact idxD_ok h

end Go.Proofs.YtcbliojofnigdaaGreatDoor
