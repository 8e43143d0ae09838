/- doPrintf's model only adds to the text. -/
import Derived.Test.YtcbliojofnigdaaGreatDoorDpLaws
namespace Go.Proofs.YtcbliojofnigdaaGreatDoor
open Go Go.Proofs Go.RowKit

/-- a continuation only adds -/
def Grows (next : D → Option Bytes) : Prop := ∀ d x, next d = some x → d.s.out.length ≤ x.length

section
variable {t : ByteArray} {l : List Arg} {pa : Arg → Int → Fl → Option Bytes} {next fin : D → Option Bytes}

theorem put_out (d : D) (x : Bytes) : (d.put x).s.out.length = d.s.out.length + x.length := by simp [D.put, PS.put]
theorem idxD_out (n : Nat) (d : D) : (idxD t n d).s.out = d.s.out := by
  unfold idxD
  split
  · rfl
  · simp only
    split <;> rfl
theorem idx2D_out (n : Nat) (d : D) : (idx2D t n d).s.out = d.s.out := by unfold idx2D; split; rfl; exact idxD_out n d
theorem widD_out (d : D) : d.s.out.length ≤ (widD t l d).s.out.length := by
  unfold widD
  split
  · simp only [PS.setFl]; split
    · exact Nat.le_refl _
    · simp [PS.put]
  · simp [PS.bad_out, PS.setFl]
theorem precD_out (d : D) : d.s.out.length ≤ (precD t l d).s.out.length := by
  unfold precD
  split
  · have e : (idxD t l.length ⟨d.s.bad d.af, d.i + 1, d.k, d.af⟩).s.out = d.s.out := by rw [idxD_out]; exact PS.bad_out _ _
    rw [← e]
    unfold precD1
    split
    · simp only [PS.setFl]; split
      · exact Nat.le_refl _
      · simp [PS.put]
    · simp [PS.setFl]
  · exact Nat.le_refl _

theorem argD_some {r : Int} {d : D} {x : Bytes} (h : argD l pa next r d = some x) : ∃ y u, l[d.k]? = some y ∧ pa y r (d.s.fl.forVerb r) = some u ∧ next ⟨(d.s.setFl (d.s.fl.forVerb r)).put u, d.i, d.k + 1, d.af⟩ = some x := by
  unfold argD at h
  split at h
  · cases h
  · rename_i y hy
    split at h
    · cases h
    · rename_i u hu
      exact ⟨y, u, hy, hu, h⟩

theorem argD_out (hn : Grows next) {r : Int} {d : D} {x : Bytes} (h : argD l pa next r d = some x) : d.s.out.length ≤ x.length := by
  obtain ⟨y, u, _, _, h⟩ := argD_some h
  have := hn _ _ h
  simp only [PS.put, PS.setFl, List.length_append] at this
  omega

theorem verbD_out (hn : Grows next) (hf : Grows fin) {d : D} {x : Bytes} (h : verbD t l pa next fin d = some x) : d.s.out.length ≤ x.length := by
  unfold verbD at h
  split at h
  · have := hf _ _ h; rw [put_out] at this; omega
  · split at h
    · cases h
    · simp only at h
      split at h
      · have := hn _ _ h; rw [put_out] at this; simp only at this; omega
      · split at h
        · have := hn _ _ h; rw [put_out] at this; simp only at this; omega
        · split at h
          · have := hn _ _ h; rw [put_out] at this; simp only at this; omega
          · split at h
            · cases h
            · have := argD_out hn h; exact this

theorem dirD_out (hn : Grows next) (hf : Grows fin) {d : D} {x : Bytes} (h : dirD t l pa next fin d = some x) : d.s.out.length ≤ x.length := by
  unfold dirD at h
  split at h
  · split at h
    · cases h
    · have := argD_out hn h; exact this
  · have h1 := verbD_out hn hf h
    rw [idx2D_out] at h1
    have h2 := precD_out (t := t) (l := l) (widD t l (idxD t l.length d))
    have h3 := widD_out (t := t) (l := l) (idxD t l.length d)
    rw [idxD_out] at h3
    omega
theorem flagD_s (f : Nat) (d : D) : (flagD t f d).s.out = d.s.out := by
  induction f generalizing d with
  | zero => rfl
  | succ f ih =>
    rw [flagD]
    split
    · rw [ih]; rfl
    · rfl
theorem pctD_out (hn : Grows next) (hf : Grows fin) {d : D} {x : Bytes} (h : pctD t l pa next fin d = some x) : d.s.out.length ≤ x.length := by
  unfold pctD at h
  split at h
  · exact hf _ _ h
  · have := dirD_out hn hf h
    rw [flagD_s] at this
    exact this
end

theorem txtEnd_le (t : ByteArray) : ∀ (f i : Nat), i ≤ t.size → i ≤ txtEnd t f i ∧ txtEnd t f i ≤ t.size
  | 0, i, h => ⟨Nat.le_refl _, h⟩
  | f + 1, i, h => by
    rw [txtEnd]
    split
    · rename_i hc
      have := txtEnd_le t f (i + 1) hc.1
      omega
    · exact ⟨Nat.le_refl _, h⟩

theorem finD_grows (l : List Arg) (pa : Arg → Int → Fl → Option Bytes) : Grows (finD l pa) := by
  intro d x h
  unfold finD at h
  split at h
  · cases he : extras pa true (l.drop d.k) with
    | none => rw [he] at h; cases h
    | some y =>
      rw [he] at h
      cases h
      simp only [List.length_append]; omega
  · cases h; exact Nat.le_refl _

theorem dpM_grows (t : ByteArray) (l : List Arg) (pa : Arg → Int → Fl → Option Bytes) : ∀ f, Grows (dpM t l pa f)
  | 0 => by
    intro d x h
    rw [dpM] at h
    split at h
    · cases h
    · exact finD_grows l pa d x h
  | f + 1 => by
    intro d x h
    rw [dpM] at h
    split at h
    · have := pctD_out (dpM_grows t l pa f) (finD_grows l pa) h
      simp only [txtD, PS.put, List.length_append] at this
      omega
    · exact finD_grows l pa d x h

end Go.Proofs.YtcbliojofnigdaaGreatDoor
