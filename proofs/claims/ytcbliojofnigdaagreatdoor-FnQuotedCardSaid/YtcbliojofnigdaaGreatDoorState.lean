/- Laws on slices of bytes that lie anywhere in a block and are appended to; and what stays as it was. No program is named here. More laws on slices of bytes: made, copied into, written byte by byte. No program is named here. The printer's state in memory: one block for the printer, one for its text; and what stays as it was. -/
import Derived.WalkKit
import Derived.Deep.AppendSrc
import Derived.Laws.IdiomCopy
import Derived.Laws.AppendOwn
import Derived.OwnWalk
import Derived.Test.YtcbliojofnigdaaGreatDoorProg
import Derived.WalkSpells
import Derived.WalkLawsBesides
import Derived.Lib.Hide
import Derived.BigGuardPart
import Derived.BigQuiet
import Derived.Deep.QuietTactic
namespace Go.Proofs.YtcbliojofnigdaaGreatDoor
open Go Go.Proofs Go.RowKit

abbrev Bytes := List UInt8
/-- the byte of a number -/
def B (c : Int) : UInt8 := UInt8.ofNat c.toNat
def u8 (b : UInt8) : Value := .int .u8 b.toNat
def u8s (l : Bytes) : List Value := l.map u8

/-- so many bytes find room (a plain name: the walk must not look at the number) -/
def Room (n : Nat) : Prop := n ≤ 140737488355328
theorem Room.le {m n : Nat} (h : Room n) (k : m ≤ n) : Room m := Nat.le_trans k h

theorem B_toNat {c : Int} (h0 : 0 ≤ c) (h1 : c ≤ 255) : ((B c).toNat : Int) = c := by
  unfold B
  rw [UInt8.toNat_ofNat_of_lt' (by have : UInt8.size = 256 := rfl; omega)]
  omega

theorem u8_B {c : Int} (h0 : 0 ≤ c) (h1 : c ≤ 255) : u8 (B c) = .int .u8 c := by unfold u8; rw [B_toNat h0 h1]

theorem u8s_length (l : Bytes) : (u8s l).length = l.length := by simp [u8s]
theorem u8s_one (l : Bytes) : ∀ u ∈ u8s l, u.oneCell' = true := by
  intro u hu
  obtain ⟨_, _, rfl⟩ := List.mem_map.1 hu
  rfl
theorem u8s_at (l : Bytes) (j : Nat) (h : j < l.length) : (u8s l)[j]? = some (u8 l[j]) := by simp [u8s, h]
theorem byteCells_u8s (s : ByteArray) : byteCells s = u8s s.data.toList := rfl

/-- where a slice's array lies: its block, its first cell, how many cells it may use -/
def place : Value → Option (Nat × Nat × Nat)
  | .slice (some a) _ c => some (a.block, a.off, c)
  | _ => none

/-- Only the cells of a place may have changed; new blocks may have come. -/
structure Only (p : Option (Nat × Nat × Nat)) (w w' : World) : Prop where
  os : w'.os = w.os
  tape : w'.tape = w.tape
  output : w'.output = w.output
  size : w.heap.size ≤ w'.heap.size
  other : ∀ k, k < w.heap.size → (∀ b o c, p = some (b, o, c) → k ≠ b) → w'.heap[k]? = w.heap[k]?
  here : ∀ b o c cs e f, p = some (b, o, c) → w.heap[b]? = some (.cells cs e f) → ∃ cs' : Array Value, w'.heap[b]? = some (.cells cs' e f) ∧ cs'.size = cs.size ∧ ∀ j, (j < o ∨ o + c ≤ j) → cs'[j]? = cs[j]?

theorem Only.refl (p : Option (Nat × Nat × Nat)) (w : World) : Only p w w :=
  ⟨rfl, rfl, rfl, Nat.le_refl _, fun _ _ _ => rfl, fun _ _ _ cs _ _ _ h => ⟨cs, h, rfl, fun _ _ => rfl⟩⟩

theorem lt_of_heap {w : World} {k : Nat} {o : Obj} (h : w.heap[k]? = some o) : k < w.heap.size := (Array.getElem?_eq_some_iff.1 h).1

theorem Only.trans {p : Option (Nat × Nat × Nat)} {w w1 w2 : World} (h : Only p w w1) (k : Only p w1 w2) : Only p w w2 := by
  refine ⟨k.os.trans h.os, k.tape.trans h.tape, k.output.trans h.output, Nat.le_trans h.size k.size, fun i hi hne => ?_, fun b o c cs e f hp hb => ?_⟩
  · exact (k.other i (Nat.lt_of_lt_of_le hi h.size) hne).trans (h.other i hi hne)
  · obtain ⟨c1, h1, h2, h3⟩ := h.here b o c cs e f hp hb
    obtain ⟨c2, k1, k2, k3⟩ := k.here b o c c1 e f hp h1
    exact ⟨c2, k1, k2.trans h2, fun j hj => (k3 j hj).trans (h3 j hj)⟩

/-- A place that is new since w: nothing of w is touched by it. -/
theorem Only.fresh {p : Option (Nat × Nat × Nat)} {w w1 w2 : World} {b o c : Nat} (h : Only p w w1) (hb : w.heap.size ≤ b) (k : Only (some (b, o, c)) w1 w2) : Only p w w2 := by
  refine ⟨k.os.trans h.os, k.tape.trans h.tape, k.output.trans h.output, Nat.le_trans h.size k.size, fun i hi hne => ?_, fun b' o' c' cs e f hp hbb => ?_⟩
  · refine (k.other i (Nat.lt_of_lt_of_le hi h.size) (fun b1 _ _ he => ?_)).trans (h.other i hi hne)
    cases he
    omega
  · obtain ⟨c1, h1, h2, h3⟩ := h.here b' o' c' cs e f hp hbb
    refine ⟨c1, ?_, h2, h3⟩
    rw [k.other b' (lt_of_heap h1) (fun b1 _ _ he => ?_)]
    · exact h1
    · cases he
      have := lt_of_heap hbb
      omega

theorem Only.none {p : Option (Nat × Nat × Nat)} {w w1 : World} (h : Only none w w1) : Only p w w1 :=
  ⟨h.os, h.tape, h.output, h.size, fun i hi _ => h.other i hi (fun _ _ _ he => by cases he), fun b _ _ cs _ _ _ hb => ⟨cs, by rw [h.other b (lt_of_heap hb) (fun _ _ _ he => by cases he)]; exact hb, rfl, fun _ _ => rfl⟩⟩

theorem Only.alloc {p : Option (Nat × Nat × Nat)} {w0 w : World} (h : Only p w0 w) (o : Obj) : Only p w0 (w.alloc o) :=
  h.trans (Only.none ⟨rfl, rfl, rfl, by simp, fun k hk _ => heap_alloc_old w o hk, fun _ _ _ _ _ _ he => by cases he⟩)

theorem Only.drew {p : Option (Nat × Nat × Nat)} {w0 w : World} (h : Only p w0 w) : Only p w0 w.drew :=
  h.trans (Only.none ⟨rfl, rfl, rfl, Nat.le_refl _, fun _ _ _ => rfl, fun _ _ _ _ _ _ he => by cases he⟩)

theorem heap_setCell_here {w : World} {a : Addr} {v : Value} {cs : Array Value} {e : TypeId} {f : Nat × Nat} (hs : a.spot = .none) (h : w.heap[a.block]? = some (.cells cs e f)) :
    (w.setCell a v).heap[a.block]? = some (.cells (cs.setIfInBounds a.off v) e f) := by
  simp only [World.setCell, Array.getElem?_modify, if_true, h, Option.map_some, hs, Option.isSome_none, Bool.false_eq_true, if_false]

theorem heap_setCell_else (w : World) (a : Addr) (v : Value) (k : Nat) (h : k ≠ a.block) : (w.setCell a v).heap[k]? = w.heap[k]? := by
  simp only [World.setCell, Array.getElem?_modify]
  rw [if_neg (by omega)]

theorem Only.setCell {b o c : Nat} {w0 w : World} (h : Only (some (b, o, c)) w0 w) (j : Nat) (v : Value) (h1 : o ≤ j) (h2 : j < o + c) : Only (some (b, o, c)) w0 (w.setCell ⟨b, j, .none⟩ v) := by
  refine h.trans ⟨rfl, rfl, rfl, by simp, fun k _ hne => heap_setCell_else _ _ _ _ (hne b o c rfl), fun b' o' c' cs e f he hb => ?_⟩
  cases he
  refine ⟨cs.setIfInBounds j v, heap_setCell_here (a := ⟨b, j, .none⟩) rfl hb, by simp, fun i hi => ?_⟩
  rw [Array.getElem?_setIfInBounds]
  rw [if_neg (by omega)]

/-- An array with some of its cells laid anew. -/
def putAt (cs : Array Value) : Nat → List Value → Array Value
  | _, [] => cs
  | o, v :: r => putAt (cs.setIfInBounds o v) (o + 1) r

theorem putAt_size (vs : List Value) : ∀ (cs : Array Value) (o : Nat), (putAt cs o vs).size = cs.size := by
  induction vs with
  | nil => intro cs o; rfl
  | cons v r ih => intro cs o; simp [putAt, ih]

theorem putAt_out (vs : List Value) : ∀ (cs : Array Value) (o j : Nat), (j < o ∨ o + vs.length ≤ j) → (putAt cs o vs)[j]? = cs[j]? := by
  induction vs with
  | nil => intro cs o j _; rfl
  | cons v r ih =>
    intro cs o j h
    simp only [List.length_cons] at h
    rw [putAt, ih _ _ _ (by omega), Array.getElem?_setIfInBounds, if_neg (by omega)]

theorem putAt_in (vs : List Value) : ∀ (cs : Array Value) (o j : Nat), o + vs.length ≤ cs.size → (h : j < vs.length) → (putAt cs o vs)[o + j]? = some vs[j] := by
  induction vs with
  | nil => intro cs o j _ h; simp at h
  | cons v r ih =>
    intro cs o j hs h
    simp only [List.length_cons] at hs h
    cases j with
    | zero =>
      rw [putAt, putAt_out _ _ _ _ (by omega)]
      have : o < cs.size := by omega
      simp [this]
    | succ j =>
      rw [putAt, show o + (j + 1) = o + 1 + j by omega, ih _ _ _ (by simp; omega) (by omega)]
      simp

theorem heap_setCells_here {b : Nat} {e : TypeId} {f : Nat × Nat} (vs : List Value) : ∀ (o : Nat) (w : World) (cs : Array Value), w.heap[b]? = some (.cells cs e f) → (w.setCells b o vs).heap[b]? = some (.cells (putAt cs o vs) e f) := by
  induction vs with
  | nil => intro o w cs h; exact h
  | cons v r ih =>
    intro o w cs h
    rw [World.setCells, putAt]
    exact ih _ _ _ (heap_setCell_here (a := ⟨b, o, .none⟩) rfl h)

theorem Only.setCells {b o c : Nat} (vs : List Value) : ∀ (j : Nat) {w0 w : World}, Only (some (b, o, c)) w0 w → o ≤ j → j + vs.length ≤ o + c → Only (some (b, o, c)) w0 (w.setCells b j vs) := by
  induction vs with
  | nil => intro j w0 w h _ _; exact h
  | cons v r ih =>
    intro j w0 w h h1 h2
    simp only [List.length_cons] at h2
    rw [World.setCells]
    exact ih (j + 1) (h.setCell j v h1 (by omega)) (by omega) (by omega)

/-- THE SLICE VALUE v HOLDS THE BYTES xs: it is nil, or it lies somewhere in a block that is not frozen. -/
def Buf (w : World) (v : Value) (xs : Bytes) : Prop :=
  (v = .slice .none 0 0 ∧ xs = []) ∨
  ∃ b o c cs e, v = .slice (some ⟨b, o, .none⟩) xs.length c ∧ w.heap[b]? = some (.cells cs e (0, 0)) ∧ o + c ≤ cs.size ∧ xs.length ≤ c ∧ c ≤ maxLen ∧ ∀ j, (h : j < xs.length) → cs[o + j]? = some (u8 xs[j])

theorem Buf.nil (w : World) : Buf w (.slice .none 0 0) [] := .inl ⟨rfl, rfl⟩

theorem Buf.alloc {w : World} {v : Value} {xs : Bytes} (h : Buf w v xs) (o : Obj) : Buf (w.alloc o) v xs := by
  rcases h with h | ⟨b, o', c, cs, e, hv, hb, h⟩
  · exact .inl h
  · exact .inr ⟨b, o', c, cs, e, hv, by rw [heap_alloc_old w o (lt_of_heap hb)]; exact hb, h⟩

theorem Buf.drew {w : World} {v : Value} {xs : Bytes} (h : Buf w v xs) : Buf w.drew v xs := h

theorem Buf.place_lt {w : World} {v : Value} {xs : Bytes} (h : Buf w v xs) {b o c : Nat} (hp : place v = some (b, o, c)) : b < w.heap.size := by
  rcases h with ⟨rfl, _⟩ | ⟨b', o', c', cs, e, rfl, hb, _⟩
  · cases hp
  · cases hp
    exact lt_of_heap hb

/-- what has not been touched keeps its bytes -/
theorem Buf.only {p : Option (Nat × Nat × Nat)} {w w' : World} {v : Value} {xs : Bytes} (h : Buf w v xs) (k : Only p w w') (hne : ∀ b o c b' o' c', p = some (b, o, c) → place v = some (b', o', c') → b' ≠ b) : Buf w' v xs := by
  rcases h with h | ⟨b, o, c, cs, e, hv, hb, h⟩
  · exact .inl h
  · refine .inr ⟨b, o, c, cs, e, hv, ?_, h⟩
    rw [k.other b (lt_of_heap hb) (fun b' o' c' hp => hne b' o' c' b o c hp (by rw [hv]; rfl))]
    exact hb

theorem Buf.cell {w : World} {b o n c : Nat} {xs : Bytes} (h : Buf w (.slice (some ⟨b, o, .none⟩) n c) xs) {j : Nat} (hj : j < xs.length) : w.cell? ⟨b, o + j, .none⟩ = some (u8 xs[j]) := by
  rcases h with ⟨h, _⟩ | ⟨b', o', c', cs, e, hv, hb, _, _, _, h⟩
  · cases h
  · cases hv
    simp [World.cell?, hb, h j hj]

theorem Buf.frozen {w : World} {b o n c : Nat} {xs : Bytes} (h : Buf w (.slice (some ⟨b, o, .none⟩) n c) xs) (j : Nat) : w.frozen? ⟨b, j, .none⟩ = false := by
  rcases h with ⟨h, _⟩ | ⟨b', o', c', cs, e, hv, hb, _⟩
  · cases h
  · cases hv
    simp [World.frozen?, hb]

/-- THE SLICE VALUE v READS AS THE BYTES xs: as Buf, whatever mark its block bears. -/
def RBuf (w : World) (v : Value) (xs : Bytes) : Prop :=
  (v = .slice .none 0 0 ∧ xs = []) ∨
  ∃ b o c cs e fr, v = .slice (some ⟨b, o, .none⟩) xs.length c ∧ w.heap[b]? = some (.cells cs e fr) ∧ o + c ≤ cs.size ∧ xs.length ≤ c ∧ c ≤ maxLen ∧ ∀ j, (h : j < xs.length) → cs[o + j]? = some (u8 xs[j])
theorem Buf.rbuf {w : World} {v : Value} {xs : Bytes} (h : Buf w v xs) : RBuf w v xs := by
  rcases h with h | ⟨b, o, c, cs, e, h⟩
  · exact .inl h
  · exact .inr ⟨b, o, c, cs, e, (0, 0), h⟩
theorem RBuf.only {p : Option (Nat × Nat × Nat)} {w w' : World} {v : Value} {xs : Bytes} (h : RBuf w v xs) (k : Only p w w') (hne : ∀ b o c b' o' c', p = some (b, o, c) → place v = some (b', o', c') → b' ≠ b) : RBuf w' v xs := by
  rcases h with h | ⟨b, o, c, cs, e, fr, hv, hb, h⟩
  · exact .inl h
  · refine .inr ⟨b, o, c, cs, e, fr, hv, ?_, h⟩
    rw [k.other b (lt_of_heap hb) (fun b' o' c' hp => hne b' o' c' b o c hp (by rw [hv]; rfl))]
    exact hb
theorem RBuf.alloc {w : World} {v : Value} {xs : Bytes} (h : RBuf w v xs) (o : Obj) : RBuf (w.alloc o) v xs := h.only ((Only.refl .none w).alloc o) (fun _ _ _ _ _ _ he => by cases he)
theorem RBuf.drew {w : World} {v : Value} {xs : Bytes} (h : RBuf w v xs) : RBuf w.drew v xs := h
theorem RBuf.slice {w : World} {v : Value} {xs : Bytes} (h : RBuf w v xs) : ∃ a c, v = .slice a xs.length c ∧ xs.length ≤ c ∧ c ≤ maxLen := by
  rcases h with ⟨rfl, rfl⟩ | ⟨b, o, c, cs, e, fr, hv, hb, h1, h2, h3, h4⟩
  · exact ⟨.none, 0, rfl, Nat.le_refl _, Nat.zero_le _⟩
  · exact ⟨_, _, hv, h2, h3⟩
theorem RBuf.cell {w : World} {b o n c : Nat} {xs : Bytes} (h : RBuf w (.slice (some ⟨b, o, .none⟩) n c) xs) {j : Nat} (hj : j < xs.length) : w.cell? ⟨b, o + j, .none⟩ = some (u8 xs[j]) := by
  rcases h with ⟨h, _⟩ | ⟨b', o', c', cs, e, fr, hv, hb, _, _, _, h⟩
  · cases h
  · cases hv
    simp [World.cell?, hb, h j hj]
theorem RBuf.place_lt {w : World} {v : Value} {xs : Bytes} (h : RBuf w v xs) {b o c : Nat} (hp : place v = some (b, o, c)) : b < w.heap.size := by
  rcases h with ⟨rfl, _⟩ | ⟨b', o', c', cs, e, fr, rfl, hb, _⟩
  · cases hp
  · cases hp
    exact lt_of_heap hb
/-- a part of it -/
theorem RBuf.part {w : World} {b o n c : Nat} {xs : Bytes} (h : RBuf w (.slice (some ⟨b, o, .none⟩) n c) xs) (i k : Nat) (hik : i + k ≤ n) : RBuf w (.slice (some ⟨b, o + i, .none⟩) k (c - i)) ((xs.drop i).take k) := by
  rcases h with ⟨h, _⟩ | ⟨b', o', c', cs, e, fr, hv, hb, h1, h2, h3, h4⟩
  · cases h
  · cases hv
    refine .inr ⟨b, o + i, c - i, cs, e, fr, ?_, hb, by omega, ?_, by omega, fun j hj => ?_⟩
    · rw [List.length_take, List.length_drop, Nat.min_eq_left (by omega)]
    · rw [List.length_take, List.length_drop]; omega
    · rw [List.length_take, List.length_drop] at hj
      rw [Nat.add_assoc, h4 (i + j) (by omega)]
      simp

/-- v in w has become v' in w', with other bytes: only v's own place was written, or a new one. -/
structure App (w : World) (v : Value) (w' : World) (v' : Value) (ys : Bytes) : Prop where
  buf : Buf w' v' ys
  only : Only (place v) w w'
  plc : place v' = place v ∨ ∃ b o c, place v' = some (b, o, c) ∧ w.heap.size ≤ b

theorem App.refl {w : World} {v : Value} {xs : Bytes} (h : Buf w v xs) : App w v w v xs := ⟨h, Only.refl _ _, .inl rfl⟩

theorem App.alloc {w0 w : World} {v0 v : Value} {xs : Bytes} (h : App w0 v0 w v xs) (o : Obj) : App w0 v0 (w.alloc o) v xs := ⟨h.buf.alloc o, h.only.alloc o, h.plc⟩
theorem App.drew {w0 w : World} {v0 v : Value} {xs : Bytes} (h : App w0 v0 w v xs) : App w0 v0 w.drew v xs := ⟨h.buf.drew, h.only.drew, h.plc⟩

theorem App.trans {w0 w1 w2 : World} {v0 v1 v2 : Value} {xs ys : Bytes} (h : App w0 v0 w1 v1 xs) (k : App w1 v1 w2 v2 ys) : App w0 v0 w2 v2 ys := by
  refine ⟨k.buf, ?_, ?_⟩
  · rcases h.plc with hp | ⟨b, o, c, hp, hb⟩
    · have := k.only
      rw [hp] at this
      exact h.only.trans this
    · have := k.only
      rw [hp] at this
      exact h.only.fresh hb this
  · rcases k.plc with kp | ⟨b, o, c, kp, kb⟩
    · rcases h.plc with hp | ⟨b, o, c, hp, hb⟩
      · exact .inl (kp.trans hp)
      · exact .inr ⟨b, o, c, kp.trans hp, hb⟩
    · exact .inr ⟨b, o, c, kp, Nat.le_trans h.only.size kb⟩

theorem App.same {w0 w : World} {v0 v : Value} {xs ys : Bytes} (h : App w0 v0 w v xs) (e : xs = ys) : App w0 v0 w v ys := e ▸ h

section
variable {P : Program}

/-- APPEND, whatever the slice and whatever is appended. -/
theorem run_append_buf (w : World) (t tx ty e : TypeId) (i : TypeInfo) (ht : P.underlying t = some (.slice e)) (hi : P.info? e = some i) (hz : i.zero = some (.int .u8 0)) (hsize : i.size = 1) (hby : i.bytes = 1)
    (v : Value) (xs : Bytes) (hb : Buf w v xs) (x : Value) (news : Bytes) (hs : Src P 1 tx x news.length (u8s news) w) (hlen : xs.length + news.length ≤ 140737488355328) :
    ∃ v' w', (Builtin.append_ #[t, tx] ty #[v, x]).run P w = .ok v' w' ∧ App w v w' v' (xs ++ news) := by
  have hs' : Src P i.size tx x news.length (u8s news) w := by rw [hsize]; exact hs
  have grown : ∀ (base : Option Addr) (sc : Nat), v = .slice base xs.length sc → sc < xs.length + news.length → (Builtin.firstCells i.size xs.length (.slice base xs.length sc)).run P w.drew = .ok (u8s xs).toArray w.drew →
      ∃ v' w', (Builtin.append_ #[t, tx] ty #[v, x]).run P w = .ok v' w' ∧ App w v w' v' (xs ++ news) := by
    intro base sc hv hlt hold
    subst hv
    have hr := run_append_grow_src (P := P) w t tx ty e i _ ht hi hz base xs.length sc (u8s xs) hold x news.length (u8s news) hs' hlt (by omega) (growslice_fits hlt (by rw [hby]; omega))
    refine ⟨_, _, hr, .inr ⟨w.heap.size, 0, grownCap w (xs.length + news.length) sc e, _, e, by rw [List.length_append], heap_alloc_new w.drew _, ?_, ?_, ?_, ?_⟩, (Only.refl _ w).drew.alloc _, .inr ⟨w.heap.size, 0, _, rfl, Nat.le_refl _⟩⟩
    · have := grownCap_ge w (xs.length + news.length) sc e
      simp only [Array.size_append, List.size_toArray, size_zeroCells, List.length_append, u8s_length, Value.cells, List.size_toArray, List.length_cons, List.length_nil]
      omega
    · have := grownCap_ge w (xs.length + news.length) sc e
      simpa using this
    · exact grownCap_le_maxLen w _ _ _ (by unfold maxLen; omega)
    · intro j hj
      rw [List.length_append] at hj
      rw [Nat.zero_add, Array.getElem?_append_left (by simp [u8s_length]; omega), List.getElem?_toArray]
      have : u8s xs ++ u8s news = u8s (xs ++ news) := by simp [u8s]
      rw [this]
      exact u8s_at _ _ (by rw [List.length_append]; exact hj)
  rcases hb with ⟨rfl, rfl⟩ | ⟨b, o, c, cs, e', rfl, hbb, hoc, hlc, hcm, hcell⟩
  · by_cases h0 : news = []
    · subst h0
      refine ⟨.slice .none 0 0, w, ?_, by simpa using App.refl (Buf.nil w)⟩
      have hcl := hs'.cells
      simp only [List.length_nil, u8s, List.map_nil] at hcl
      rcases hs'.kind with ⟨e', hk⟩ | hk <;> simp [Builtin.append_, run_underlying ht, run_underlying hk, sizeOf, typeInfo, hi, hs'.len, hcl]
    · exact grown .none 0 rfl (by have := List.length_pos_iff.2 h0; simpa using this) (by simpa [u8s] using run_firstCells_none (P := P) w.drew i.size 0 0 0)
  · by_cases hfit : xs.length + news.length ≤ c
    · have hcells : ∀ j, j < (u8s news).length → (w.cell? ⟨b, o + xs.length * i.size + j, .none⟩).isSome = true := by
        intro j hj
        rw [u8s_length] at hj
        rw [hsize, Nat.mul_one]
        simp [World.cell?, hbb]
        omega
      have hr := run_append_room_src (P := P) w t tx ty e i ht hi b o xs.length c x news.length (u8s news) hs' hfit hcells (fun j _ => by simp [World.frozen?, hbb])
      rw [hsize, Nat.mul_one] at hr
      refine ⟨_, _, hr, ⟨.inr ⟨b, o, c, _, e', by rw [List.length_append], heap_setCells_here _ _ _ _ hbb, by rw [putAt_size]; exact hoc, by rw [List.length_append]; exact hfit, hcm, ?_⟩, (show Only (some (b, o, c)) w _ from Only.setCells (u8s news) (o + xs.length) (Only.refl (some (b, o, c)) w) (by omega) (by rw [u8s_length]; omega)), .inl rfl⟩⟩
      intro j hj
      rw [List.length_append] at hj
      by_cases hjx : j < xs.length
      · rw [putAt_out _ _ _ _ (by omega), hcell j hjx, List.getElem_append_left hjx]
      · have := putAt_in (u8s news) cs (o + xs.length) (j - xs.length) (by rw [u8s_length]; omega) (by rw [u8s_length]; omega)
        rw [show o + xs.length + (j - xs.length) = o + j by omega] at this
        rw [this, List.getElem_append_right (by omega)]
        simp [u8s]
    · refine grown (some ⟨b, o, .none⟩) c rfl (by omega) ?_
      refine run_firstCells_some (P := P) w.drew i.size xs.length ⟨b, o, .none⟩ xs.length c (u8s xs) (by rw [u8s_length, hsize, Nat.mul_one]) ?_
      intro j u hu
      have hj : j < xs.length := by
        have := (List.getElem?_eq_some_iff.1 hu).1
        rwa [u8s_length] at this
      rw [Addr.add_lit]
      have : u = u8 xs[j] := by simpa [u8s, hj] using hu.symm
      subst this
      rw [World.cell?_drew]
      simp [World.cell?, hbb, hcell j hj]

theorem wpList_app {ops : Array Oper} {rest : List Oper} {o : Oper} {a : Act} {Q : Exit → Act → World → Prop} {w : World} (hgd : o.guard = .none) (s x : Operand) (t tx : TypeId)
    (ho : o.op = .call { callee := .builtin .append, args := #[s, x], argTypes := #[t, tx] })
    (e : TypeId) (hby : (P.info? e).map (fun i => (i.zero, i.size, i.bytes)) = some (some (.int .u8 0), 1, 1)) (ht : P.underlying t = some (.slice e))
    (v : Value) (xs : Bytes) (hs : a.eval s = v) (xv : Value) (hx : a.eval x = xv) (hb : Buf w v xs) (news : Bytes) (hsrc : Src P 1 tx xv news.length (u8s news) w) (hlen : Room (xs.length + news.length))
    (h : ∀ v' w', App w v w' v' (xs ++ news) → wpList P ops Q rest (a.put o.dst v') w') : wpList P ops Q (o :: rest) a w := by
  refine wpList_plain hgd fun K hK => ?_
  obtain ⟨i, hi, hz0, hz1, hz2⟩ := info_parts hby
  obtain ⟨v', w', hr, happ⟩ := run_append_buf (P := P) w t tx o.type e i ht hi hz0 hz1 hz2 v xs hb xv news hsrc hlen
  unfold Oper.wp execOp
  simp only [ho, resolve, invoke, builtin, Sem.run_bind, Sem.run_pure, Result.andThen_ok, List.map_toArray, List.map_cons, List.map_nil, hs, hx, hr]
  exact hK _ _ (h v' w' happ)

/-- bytes as the walk lays them in a block of their own -/
theorem Src.lit {w : World} {tx e : TypeId} (hk : P.underlying tx = some (.slice e)) (cs : List Int) (h : ∀ c ∈ cs, 0 ≤ c ∧ c ≤ 255) (e' : TypeId) (n : Nat) (hn : cs.length = n) :
    Src P 1 tx (.slice (some ⟨w.heap.size, 0, .none⟩) n n) (cs.map B).length (u8s (cs.map B)) (w.alloc (.cells (cs.map (Value.int .u8)).toArray e')) := by
  have he : u8s (cs.map B) = cs.map (Value.int .u8) := by
    simp only [u8s, List.map_map]
    exact List.map_congr_left fun c hc => u8_B (h c hc).1 (h c hc).2
  subst hn
  rw [List.length_map]
  refine Src.ofSlice _ hk _ _ _ _ (by rw [u8s_length, List.length_map, Nat.mul_one]) ?_ (u8s_one _)
  intro j u hu
  rw [he] at hu
  rw [Addr.add_lit, Nat.zero_add, World.cell?_alloc_new, List.getElem?_toArray]
  exact hu

/-- 'append(dst, c1, c2, ..)': the bytes lie in a block that the statement has just laid. -/
theorem wpList_app_lit {ops : Array Oper} {rest : List Oper} {o : Oper} {a : Act} {Q : Exit → Act → World → Prop} {w : World} (hgd : o.guard = .none) (s x : Operand) (t : TypeId)
    (ho : o.op = .call { callee := .builtin .append, args := #[s, x], argTypes := #[t, t] })
    (e : TypeId) (hby : (P.info? e).map (fun i => (i.zero, i.size, i.bytes)) = some (some (.int .u8 0), 1, 1)) (ht : P.underlying t = some (.slice e))
    (v : Value) (xs : Bytes) (hs : a.eval s = v) (cs : List Int) (n : Nat) (hx : a.eval x = .slice (some ⟨w.heap.size, 0, .none⟩) n n) (hn : cs.length = n) (W0 : World) (V0 : Value) (hb : App W0 V0 w v xs) (e' : TypeId) (vs : List Value) (hvs : vs = cs.map (Value.int .u8))
    (hc : ∀ c ∈ cs, 0 ≤ c ∧ c ≤ 255) (hlen : Room (xs.length + n))
    (h : ∀ v' w', App W0 V0 w' v' (xs ++ cs.map B) → wpList P ops Q rest (a.put o.dst v') w') : wpList P ops Q (o :: rest) a (w.alloc (.cells vs.toArray e')) := by
  subst hvs
  refine wpList_app hgd s x t t ho e hby ht v xs hs _ hx (hb.alloc _).buf (cs.map B) (Src.lit ht cs hc e' n hn) (by rw [List.length_map, hn]; exact hlen) ?_
  intro v' w' k
  exact h v' w' ((hb.alloc _).trans k)

/-- 'append(dst, s...)', s a string. -/
theorem wpList_app_str {ops : Array Oper} {rest : List Oper} {o : Oper} {a : Act} {Q : Exit → Act → World → Prop} {w : World} (hgd : o.guard = .none) (s x : Operand) (t tx : TypeId)
    (ho : o.op = .call { callee := .builtin .append, args := #[s, x], argTypes := #[t, tx] })
    (e : TypeId) (hby : (P.info? e).map (fun i => (i.zero, i.size, i.bytes)) = some (some (.int .u8 0), 1, 1)) (ht : P.underlying t = some (.slice e)) (hk : P.underlying tx = some .string)
    (v : Value) (xs : Bytes) (hs : a.eval s = v) (str : ByteArray) (hx : a.eval x = .string str) (W0 : World) (V0 : Value) (hb : App W0 V0 w v xs) (hlen : Room (xs.length + str.size))
    (h : ∀ v' w', App W0 V0 w' v' (xs ++ str.data.toList) → wpList P ops Q rest (a.put o.dst v') w') : wpList P ops Q (o :: rest) a w := by
  have hsz : str.data.toList.length = str.size := by rw [Array.length_toList]; rfl
  refine wpList_app hgd s x t tx ho e hby ht v xs hs _ hx hb.buf str.data.toList ?_ (by rw [hsz]; exact hlen) ?_
  · have := Src.ofString (P := P) w hk str
    rw [hsz]
    exact this
  · intro v' w' k
    exact h v' w' (hb.trans k)

/-- 'append(dst, b...)', b a slice of bytes. -/
theorem wpList_app_buf {ops : Array Oper} {rest : List Oper} {o : Oper} {a : Act} {Q : Exit → Act → World → Prop} {w : World} (hgd : o.guard = .none) (s x : Operand) (t tx : TypeId)
    (ho : o.op = .call { callee := .builtin .append, args := #[s, x], argTypes := #[t, tx] })
    (e : TypeId) (hby : (P.info? e).map (fun i => (i.zero, i.size, i.bytes)) = some (some (.int .u8 0), 1, 1)) (ht : P.underlying t = some (.slice e)) (htx : P.underlying tx = some (.slice e))
    (v : Value) (xs : Bytes) (hs : a.eval s = v) (xv : Value) (hx : a.eval x = xv) (ys : Bytes) (hxb : RBuf w xv ys) (W0 : World) (V0 : Value) (hb : App W0 V0 w v xs) (hlen : Room (xs.length + ys.length))
    (h : ∀ v' w', App W0 V0 w' v' (xs ++ ys) → wpList P ops Q rest (a.put o.dst v') w') : wpList P ops Q (o :: rest) a w := by
  refine wpList_app hgd s x t tx ho e hby ht v xs hs xv hx hb.buf ys ?_ hlen ?_
  · rcases hxb with ⟨rfl, rfl⟩ | ⟨b, o, c, cs, e', fr, rfl, hbb, _, _, _, hcell⟩
    · exact Src.ofNil w htx 0
    · refine Src.ofSlice w htx _ _ _ _ (by rw [u8s_length, Nat.mul_one]) ?_ (u8s_one _)
      intro j u hu
      have hj : j < ys.length := by
        have := (List.getElem?_eq_some_iff.1 hu).1
        rwa [u8s_length] at this
      have : u = u8 ys[j] := by simpa [u8s, hj] using hu.symm
      subst this
      rw [Addr.add_lit]
      simp [World.cell?, hbb, hcell j hj]
  · intro v' w' k
    exact h v' w' (hb.trans k)
end

theorem Only.size_lt {p : Option (Nat × Nat × Nat)} {w w' : World} (h : Only p w w') {k : Nat} (hk : k < w.heap.size) : k < w'.heap.size := Nat.lt_of_lt_of_le hk h.size

/-- a byte is stored right behind what the slice holds -/
theorem App.store {W w : World} {V : Value} {b o n c : Nat} {xs : Bytes} (h : App W V w (.slice (some ⟨b, o, none⟩) n c) xs) (hn : xs.length = n) (hc : n < c) (x : UInt8) :
    App W V (w.setCell ⟨b, o + n, none⟩ (u8 x)) (.slice (some ⟨b, o, none⟩) (n + 1) c) (xs ++ [x]) := by
  subst hn
  refine h.trans ⟨?_, (show Only (some (b, o, c)) w _ from Only.setCell (Only.refl (some (b, o, c)) w) _ _ (by omega) (by omega)), .inl rfl⟩
  rcases h.buf with ⟨hv, _⟩ | ⟨b', o', c', cs, e, hv, hb, h1, h2, h3, h4⟩
  · cases hv
  · cases hv
    refine .inr ⟨b, o, c, cs.setIfInBounds (o + xs.length) (u8 x), e, by simp, heap_setCell_here (a := ⟨b, o + xs.length, none⟩) rfl hb, by simpa using h1, by simp; omega, h3, ?_⟩
    intro j hj
    simp only [List.length_append, List.length_cons, List.length_nil] at hj
    rw [Array.getElem?_setIfInBounds]
    by_cases hjx : j = xs.length
    · subst hjx
      have : o + xs.length < cs.size := by omega
      simp [this]
    · rw [if_neg (by omega), h4 j (by omega), List.getElem_append_left (by omega)]

theorem App.cellFree {W w : World} {V : Value} {b o n c : Nat} {xs : Bytes} (h : App W V w (.slice (some ⟨b, o, none⟩) n c) xs) (j : Nat) (hj : j < c) : ∃ u, w.cell? ⟨b, o + j, none⟩ = some u := by
  rcases h.buf with ⟨hv, _⟩ | ⟨b', o', c', cs, e, hv, hb, h1, h2, h3, h4⟩
  · cases hv
  · cases hv
    have : o + j < cs.size := by omega
    exact ⟨cs[o + j], by simp [World.cell?, hb, this]⟩

theorem App.frz {W w : World} {V : Value} {b o n c : Nat} {xs : Bytes} (h : App W V w (.slice (some ⟨b, o, none⟩) n c) xs) (j : Nat) : w.frozen? ⟨b, j, none⟩ = false := h.buf.frozen j

theorem Buf.len {w : World} {a : Option Addr} {n c : Nat} {xs : Bytes} (h : Buf w (.slice a n c) xs) : xs.length = n ∧ n ≤ c ∧ c ≤ maxLen := by
  rcases h with ⟨hv, rfl⟩ | ⟨b', o', c', cs, e, hv, hb, h1, h2, h3, h4⟩
  · cases hv; simp
  · cases hv; exact ⟨rfl, h2, h3⟩

/-- the same place, seen as holding less -/
theorem Buf.take {w : World} {b o n c : Nat} {xs : Bytes} (h : Buf w (.slice (some ⟨b, o, none⟩) n c) xs) (k : Nat) (hk : k ≤ n) : Buf w (.slice (some ⟨b, o, none⟩) k c) (xs.take k) := by
  rcases h with ⟨hv, _⟩ | ⟨b', o', c', cs, e, hv, hb, h1, h2, h3, h4⟩
  · cases hv
  · cases hv
    refine .inr ⟨b, o, c, cs, e, by simp; omega, hb, h1, by simp; omega, h3, fun j hj => ?_⟩
    simp only [List.length_take] at hj
    rw [h4 j (by omega)]
    simp

section
variable {P : Program}

/-- 'make([]byte, n)': n zeros in a new block. -/
theorem wpList_mk {ops : Array Oper} {rest : List Oper} {o : Oper} {a : Act} {Q : Exit → Act → World → Prop} {w : World} (hg : o.guard = none) (l c : Operand) (t : TypeId) (hop : o.op = Op.makeSlice t l c)
    (e : TypeId) (h1 : P.underlying t = some (.slice e)) (hby : (P.info? e).map (fun i => (i.zero, i.size, i.bytes)) = some (some (.int .u8 0), 1, 1))
    (kl kc : IntKind) (L C : Int) (n : Nat) (hl : a.eval l = .int kl L) (hc : a.eval c = .int kc C) (hL : L = (n : Int)) (hC : C = (n : Int)) (hr : Room n)
    (hK : ∀ w', Buf w' (.slice (some ⟨w.heap.size, 0, none⟩) n n) (List.replicate n 0) → Only none w w' → w.heap.size < w'.heap.size → wpList P ops Q rest (a.put o.dst (.slice (some ⟨w.heap.size, 0, none⟩) n n)) w') :
    wpList P ops Q (o :: rest) a w := by
  obtain ⟨i, hi, hz0, hz1, hz2⟩ := info_parts hby
  have hn : n ≤ 140737488355328 := hr
  refine wpList_make_full w hg l c t hop w.heap.size e i (.int .u8 0) 1 h1 hi hz0 hz1 kl kc L C n hl hc hL hC (by rw [hz2]; omega) (by unfold maxLen; omega) (Nat.le_refl _) ?_
  intro w' hown hgr
  have hO : Only none w w' := ⟨hgr.os, hgr.tape, hgr.output, hgr.size, fun k hk _ => hgr.block k hk (by simp), fun _ _ _ _ _ _ he => by cases he⟩
  rcases hown.2 with ⟨hv, _⟩ | ⟨g, cap, cur, hv, hb, hh, h2, h3, h4, h5⟩
  · cases hv
  · cases hv
    refine hK w' (.inr ⟨_, 0, n, cur, e, by simp, hh, by omega, by simp, h3, ?_⟩) hO (lt_of_heap hh)
    intro j hj
    rw [List.length_replicate] at hj
    have h6 : cur.toList[j]? = (madeCells (Value.cells (.int .u8 0)) (n * 1)).toList[j]? := by rw [← h5, List.getElem?_take, if_pos (by omega)]
    rw [Nat.zero_add, ← Array.getElem?_toList, h6]
    simp [madeCells, Value.cells, hj, u8, Nat.mod_one]

/-- 'copy(dst, src)' where dst is long enough. -/
theorem wpList_cp {ops : Array Oper} {rest : List Oper} {o : Oper} {a : Act} {Q : Exit → Act → World → Prop} {w : World} (hg : o.guard = none) (d s : Operand) (dT sT : TypeId)
    (ho : o.op = .call { callee := .builtin .copy, args := #[d, s], argTypes := #[dT, sT] }) (e : TypeId) (hu : P.underlying dT = some (.slice e)) (hsz : (P.info? e).map (·.size) = some 1)
    (b of n c : Nat) (xs : Bytes) (hd : a.eval d = .slice (some ⟨b, of, none⟩) n c) (hbuf : Buf w (.slice (some ⟨b, of, none⟩) n c) xs) (x : Value) (ys : Bytes) (hx : a.eval s = x) (hy : Buf w x ys) (hle : ys.length ≤ n)
    (hK : ∀ w', App w (.slice (some ⟨b, of, none⟩) n c) w' (.slice (some ⟨b, of, none⟩) ys.length c) ys → wpList P ops Q rest (a.put o.dst (goInt ys.length)) w') :
    wpList P ops Q (o :: rest) a w := by
  refine wpList_plain hg fun K hK' => ?_
  obtain ⟨b1, o1, c1, cs, e1, hv, hb, h1, h2, h3, h4⟩ := hbuf.resolve_left (by rintro ⟨h, _⟩; cases h)
  cases hv
  have hcs : ∀ j, j < (u8s ys).length → (w.cell? ⟨b, of + j, none⟩).isSome = true := by
    intro j hj
    rw [u8s_length] at hj
    simp [World.cell?, hb]
    omega
  have hfr : ∀ j, j < (u8s ys).length → w.frozen? ⟨b, of + j, none⟩ = false := by intro j _; simp [World.frozen?, hb]
  have hrun : ∃ w', (Builtin.copy_ #[dT, sT] o.type #[.slice (some ⟨b, of, none⟩) xs.length c, x]).run P w = .ok (goInt ys.length) w' ∧ w' = w.setCells b of (u8s ys) := by
    rcases hy with ⟨rfl, rfl⟩ | ⟨b2, o2, c2, cs2, e2, rfl, hb2, _, _, _, hcell⟩
    · exact ⟨w, run_copy_none (P := P) w dT sT o.type e _ _ _ _ _ _ hu hsz (by simp), rfl⟩
    · refine ⟨_, ?_, rfl⟩
      have := run_copy_cells (P := P) w dT sT o.type e b of xs.length c ⟨b2, o2, none⟩ ys.length c2 (u8s ys) hu hsz (by rw [u8s_length]; exact (Nat.min_eq_left hle).symm) ?_ hcs hfr (u8s_one _)
      · rw [u8s_length] at this
        exact this
      · intro j u hju
        have hj : j < ys.length := by
          have := (List.getElem?_eq_some_iff.1 hju).1
          rwa [u8s_length] at this
        rw [u8s_at _ _ hj] at hju
        cases hju
        rw [Addr.add_lit]
        simp [World.cell?, hb2, hcell j hj]
  obtain ⟨w', hrun, rfl⟩ := hrun
  unfold Oper.wp
  simp [execOp, ho, resolve, invoke, builtin, hd, hx, hrun, Result.andThen]
  refine hK' _ _ (hK _ ⟨.inr ⟨b, of, c, putAt cs of (u8s ys), e1, rfl, heap_setCells_here _ _ _ _ hb, by rw [putAt_size]; exact h1, by omega, h3, ?_⟩, ?_, .inl rfl⟩)
  · intro j hj
    rw [putAt_in (u8s ys) cs of j (by rw [u8s_length]; omega) (by rw [u8s_length]; exact hj)]
    simp [u8s]
  · exact (show Only (some (b, of, c)) w _ from Only.setCells (u8s ys) of (Only.refl (some (b, of, c)) w) (by omega) (by rw [u8s_length]; omega))
end

/-- flags, width and precision -/
structure Fl where
  widP : Bool := false
  precP : Bool := false
  minus : Bool := false
  plus : Bool := false
  sharp : Bool := false
  space : Bool := false
  zero : Bool := false
  plusV : Bool := false
  sharpV : Bool := false
  wid : Int := 0
  prec : Int := 0

/-- the printer: its flags, three marks, its text -/
structure PS where
  fl : Fl
  reord : Bool
  good : Bool
  err : Bool
  out : Bytes

def ppCells (v : Value) (b : Nat) (s : PS) (ib : List Value) : List Value :=
  [v, .pointer (some ⟨b, 0, none⟩), .bool s.fl.widP, .bool s.fl.precP, .bool s.fl.minus, .bool s.fl.plus, .bool s.fl.sharp, .bool s.fl.space, .bool s.fl.zero, .bool s.fl.plusV, .bool s.fl.sharpV, .int .i64 s.fl.wid, .int .i64 s.fl.prec]
    ++ ib ++ [.bool s.reord, .bool s.good, .bool false, .bool s.err, .bool false, .slice none 0 0]

/-- In w the printer lies in block b, its text elsewhere. -/
structure PP (b : Nat) (w : World) (s : PS) (v : Value) (ib : List Value) : Prop where
  ibl : ib.length = 68
  blk : w.heap[b]? = some (.cells (ppCells v b s ib).toArray 127 (0, 0))
  buf : Buf w v s.out
  far : ∀ b' o c, place v = some (b', o, c) → b' ≠ b

/-- Nothing has changed but the printer's block and its text's; the text lies where it lay, or in a new block. -/
structure Fr (b : Nat) (w : World) (v : Value) (w' : World) (v' : Value) : Prop where
  os : w'.os = w.os
  tape : w'.tape = w.tape
  output : w'.output = w.output
  size : w.heap.size ≤ w'.heap.size
  same : ∀ k, k < w.heap.size → k ≠ b → (∀ o c, place v ≠ some (k, o, c)) → w'.heap[k]? = w.heap[k]?
  plc : ∀ k o c, place v' = some (k, o, c) → (∃ o1 c1, place v = some (k, o1, c1)) ∨ w.heap.size ≤ k

theorem Fr.refl (b : Nat) (w : World) (v : Value) : Fr b w v w v := ⟨rfl, rfl, rfl, Nat.le_refl _, fun _ _ _ _ => rfl, fun _k o c h => .inl ⟨o, c, h⟩⟩
theorem Fr.trans {b : Nat} {w w1 w2 : World} {v v1 v2 : Value} (h : Fr b w v w1 v1) (k : Fr b w1 v1 w2 v2) : Fr b w v w2 v2 := by
  refine ⟨k.os.trans h.os, k.tape.trans h.tape, k.output.trans h.output, Nat.le_trans h.size k.size, fun i hi hne hv => ?_, fun i o c hp => ?_⟩
  · refine (k.same i (Nat.lt_of_lt_of_le hi h.size) hne (fun o c hp => ?_)).trans (h.same i hi hne hv)
    rcases h.plc i o c hp with ⟨o1, c1, h1⟩ | h1
    · exact hv o1 c1 h1
    · omega
  · rcases k.plc i o c hp with ⟨o1, c1, h1⟩ | h1
    · exact h.plc i o1 c1 h1
    · exact .inr (Nat.le_trans h.size h1)
theorem Fr.only {b : Nat} {w0 w w1 : World} {v0 v : Value} {p : Option (Nat × Nat × Nat)} (h : Fr b w0 v0 w v) (k : Only p w w1) (hp : ∀ b' o c, p = some (b', o, c) → b' = b ∨ (∃ o c, place v = some (b', o, c)) ∨ w0.heap.size ≤ b') : Fr b w0 v0 w1 v := by
  refine ⟨k.os.trans h.os, k.tape.trans h.tape, k.output.trans h.output, Nat.le_trans h.size k.size, fun i hi hne hv => ?_, h.plc⟩
  refine (k.other i (Nat.lt_of_lt_of_le hi h.size) (fun b' o c he => ?_)).trans (h.same i hi hne hv)
  rcases hp b' o c he with h1 | ⟨o1, c1, h1⟩ | h1
  · omega
  · rintro rfl
    rcases h.plc i o1 c1 h1 with ⟨o2, c2, h2⟩ | h2
    · exact hv o2 c2 h2
    · omega
  · omega
theorem Fr.alloc {b : Nat} {w0 w : World} {v0 v : Value} (h : Fr b w0 v0 w v) (o : Obj) : Fr b w0 v0 (w.alloc o) v := h.only ((Only.refl none w).alloc o) (fun _ _ _ he => by cases he)
theorem Only.drewN {p : Option (Nat × Nat × Nat)} {w0 w : World} (h : Only p w0 w) (q : Nat) : Only p w0 (w.drewN q) :=
  h.trans (Only.none ⟨rfl, rfl, rfl, Nat.le_refl _, fun _ _ _ => rfl, fun _ _ _ _ _ _ he => by cases he⟩)
theorem Fr.drew {b : Nat} {w0 w : World} {v0 v : Value} (h : Fr b w0 v0 w v) : Fr b w0 v0 w.drew v := h.only ((Only.refl none w).drew) (fun _ _ _ he => by cases he)
theorem Fr.drewN {b : Nat} {w0 w : World} {v0 v : Value} (h : Fr b w0 v0 w v) (q : Nat) : Fr b w0 v0 (w.drewN q) v := h.only ((Only.refl none w).drewN q) (fun _ _ _ he => by cases he)
theorem Fr.setB {b : Nat} {w0 w : World} {v0 v : Value} (h : Fr b w0 v0 w v) (j : Nat) (u : Value) : Fr b w0 v0 (w.setCell ⟨b, j, none⟩ u) v :=
  h.only (p := some (b, j, 1)) ((Only.refl _ w).setCell j u (by omega) (by omega)) (fun _ _ _ he => by cases he; exact .inl rfl)
theorem Fr.app {b : Nat} {w0 w w1 : World} {v0 v v1 : Value} {ys : Bytes} (h : Fr b w0 v0 w v) (k : App w v w1 v1 ys) : Fr b w0 v0 w1 v1 := by
  have h1 := h.only k.only (fun b' o c hp => .inr (.inl ⟨o, c, hp⟩))
  refine ⟨h1.os, h1.tape, h1.output, h1.size, h1.same, fun i o c hp => ?_⟩
  rcases k.plc with kp | ⟨b2, o2, c2, kp, kb⟩
  · rw [kp] at hp
    exact h.plc i o c hp
  · rw [kp] at hp
    cases hp
    exact .inr (Nat.le_trans h.size kb)
theorem Fr.cell {b : Nat} {w w' : World} {v v' : Value} (h : Fr b w v w' v') {a : Addr} (h1 : a.block < w.heap.size) (h2 : a.block ≠ b) (h3 : ∀ o c, place v ≠ some (a.block, o, c)) : w'.cell? a = w.cell? a := World.cell?_of_block (h.same a.block h1 h2 h3)

section
variable {b : Nat} {w w' : World} {s : PS} {v : Value} {ib : List Value}

theorem PP.lt (h : PP b w s v ib) : b < w.heap.size := lt_of_heap h.blk
theorem PP.cellAt (h : PP b w s v ib) (j : Nat) : w.cell? ⟨b, j, none⟩ = (ppCells v b s ib)[j]? := by
  simp [World.cell?, h.blk]
theorem PP.frz (h : PP b w s v ib) (j : Nat) : w.frozen? ⟨b, j, none⟩ = false := by simp [World.frozen?, h.blk]
theorem PP.c0 (h : PP b w s v ib) : w.cell? ⟨b, 0, none⟩ = some v := h.cellAt 0
theorem PP.c1 (h : PP b w s v ib) : w.cell? ⟨b, 1, none⟩ = some (.pointer (some ⟨b, 0, none⟩)) := h.cellAt 1
theorem PP.c2 (h : PP b w s v ib) : w.cell? ⟨b, 2, none⟩ = some (.bool s.fl.widP) := h.cellAt 2
theorem PP.c3 (h : PP b w s v ib) : w.cell? ⟨b, 3, none⟩ = some (.bool s.fl.precP) := h.cellAt 3
theorem PP.c4 (h : PP b w s v ib) : w.cell? ⟨b, 4, none⟩ = some (.bool s.fl.minus) := h.cellAt 4
theorem PP.c5 (h : PP b w s v ib) : w.cell? ⟨b, 5, none⟩ = some (.bool s.fl.plus) := h.cellAt 5
theorem PP.c6 (h : PP b w s v ib) : w.cell? ⟨b, 6, none⟩ = some (.bool s.fl.sharp) := h.cellAt 6
theorem PP.c7 (h : PP b w s v ib) : w.cell? ⟨b, 7, none⟩ = some (.bool s.fl.space) := h.cellAt 7
theorem PP.c8 (h : PP b w s v ib) : w.cell? ⟨b, 8, none⟩ = some (.bool s.fl.zero) := h.cellAt 8
theorem PP.c9 (h : PP b w s v ib) : w.cell? ⟨b, 9, none⟩ = some (.bool s.fl.plusV) := h.cellAt 9
theorem PP.c10 (h : PP b w s v ib) : w.cell? ⟨b, 10, none⟩ = some (.bool s.fl.sharpV) := h.cellAt 10
theorem PP.c11 (h : PP b w s v ib) : w.cell? ⟨b, 11, none⟩ = some (.int .i64 s.fl.wid) := h.cellAt 11
theorem PP.c12 (h : PP b w s v ib) : w.cell? ⟨b, 12, none⟩ = some (.int .i64 s.fl.prec) := h.cellAt 12
theorem PP.tailAt (h : PP b w s v ib) (j : Nat) : w.cell? ⟨b, 81 + j, none⟩ = [Value.bool s.reord, .bool s.good, .bool false, .bool s.err, .bool false, .slice none 0 0][j]? := by
  rw [h.cellAt, ppCells, List.getElem?_append_right (by simp [h.ibl])]
  simp [h.ibl]
theorem PP.c81 (h : PP b w s v ib) : w.cell? ⟨b, 81, none⟩ = some (.bool s.reord) := h.tailAt 0
theorem PP.c82 (h : PP b w s v ib) : w.cell? ⟨b, 82, none⟩ = some (.bool s.good) := h.tailAt 1
theorem PP.c83 (h : PP b w s v ib) : w.cell? ⟨b, 83, none⟩ = some (.bool false) := h.tailAt 2
theorem PP.c84 (h : PP b w s v ib) : w.cell? ⟨b, 84, none⟩ = some (.bool s.err) := h.tailAt 3
theorem PP.c85 (h : PP b w s v ib) : w.cell? ⟨b, 85, none⟩ = some (.bool false) := h.tailAt 4
theorem PP.c86 (h : PP b w s v ib) : w.cell? ⟨b, 86, none⟩ = some (.slice none 0 0) := h.tailAt 5

/-- a store into the printer's block -/
theorem PP.set (h : PP b w s v ib) (j : Nat) (u : Value) {s' : PS} {v' : Value} {ib' : List Value} (hl : ib'.length = 68) (he : (ppCells v b s ib).set j u = ppCells v' b s' ib') (hb : Buf w v' s'.out)
    (hf : ∀ b' o c, place v' = some (b', o, c) → b' ≠ b) : PP b (w.setCell ⟨b, j, none⟩ u) s' v' ib' := by
  refine ⟨hl, ?_, ?_, hf⟩
  · rw [heap_setCell_here (a := ⟨b, j, none⟩) rfl h.blk, ← he]
    simp
  · rcases hb with hb | ⟨b', o, c, cs, e, hv, hbb, hr⟩
    · exact .inl hb
    · refine .inr ⟨b', o, c, cs, e, hv, ?_, hr⟩
      rw [heap_setCell_else]
      · exact hbb
      · exact hf b' o c (by rw [hv]; rfl)

theorem PP.setHead (h : PP b w s v ib) (j : Nat) (hj : j < 13) (u : Value) {s' : PS} (hout : s'.out = s.out) (he : ([v, .pointer (some ⟨b, 0, none⟩), .bool s.fl.widP, .bool s.fl.precP, .bool s.fl.minus, .bool s.fl.plus, .bool s.fl.sharp, .bool s.fl.space, .bool s.fl.zero, .bool s.fl.plusV, .bool s.fl.sharpV, .int .i64 s.fl.wid, .int .i64 s.fl.prec] : List Value).set j u =
    [v, .pointer (some ⟨b, 0, none⟩), .bool s'.fl.widP, .bool s'.fl.precP, .bool s'.fl.minus, .bool s'.fl.plus, .bool s'.fl.sharp, .bool s'.fl.space, .bool s'.fl.zero, .bool s'.fl.plusV, .bool s'.fl.sharpV, .int .i64 s'.fl.wid, .int .i64 s'.fl.prec])
    (ht : s'.reord = s.reord ∧ s'.good = s.good ∧ s'.err = s.err) : PP b (w.setCell ⟨b, j, none⟩ u) s' v ib := by
  refine h.set j u h.ibl ?_ (by rw [hout]; exact h.buf) h.far
  unfold ppCells
  rw [List.append_assoc, List.append_assoc, List.set_append_left _ _ (by simpa using hj), he, ht.1, ht.2.1, ht.2.2]
theorem PP.setTail (h : PP b w s v ib) (j : Nat) (u : Value) {s' : PS} (hout : s'.out = s.out) (hfl : s'.fl = s.fl) (he : ([.bool s.reord, .bool s.good, .bool false, .bool s.err, .bool false, .slice none 0 0] : List Value).set j u = [.bool s'.reord, .bool s'.good, .bool false, .bool s'.err, .bool false, .slice none 0 0]) :
    PP b (w.setCell ⟨b, 81 + j, none⟩ u) s' v ib := by
  refine h.set (81 + j) u h.ibl ?_ (by rw [hout]; exact h.buf) h.far
  unfold ppCells
  rw [List.set_append_right _ _ (by simp [h.ibl])]
  rw [show 81 + j - ([v, .pointer (some ⟨b, 0, none⟩), .bool s.fl.widP, .bool s.fl.precP, .bool s.fl.minus, .bool s.fl.plus, .bool s.fl.sharp, .bool s.fl.space, .bool s.fl.zero, .bool s.fl.plusV, .bool s.fl.sharpV, .int .i64 s.fl.wid, .int .i64 s.fl.prec] ++ ib).length = j by simp [h.ibl], he, hfl]
theorem PP.setReord (h : PP b w s v ib) (x : Bool) : PP b (w.setCell ⟨b, 81, none⟩ (.bool x)) { s with reord := x } v ib := h.setTail 0 _ rfl rfl rfl
theorem PP.setGood (h : PP b w s v ib) (x : Bool) : PP b (w.setCell ⟨b, 82, none⟩ (.bool x)) { s with good := x } v ib := h.setTail 1 _ rfl rfl rfl
theorem PP.setErr (h : PP b w s v ib) (x : Bool) : PP b (w.setCell ⟨b, 84, none⟩ (.bool x)) { s with err := x } v ib := h.setTail 3 _ rfl rfl rfl
theorem PP.setWidP (h : PP b w s v ib) (x : Bool) : PP b (w.setCell ⟨b, 2, none⟩ (.bool x)) { s with fl := { s.fl with widP := x } } v ib := h.setHead 2 (by decide) _ rfl rfl ⟨rfl, rfl, rfl⟩
theorem PP.setPrecP (h : PP b w s v ib) (x : Bool) : PP b (w.setCell ⟨b, 3, none⟩ (.bool x)) { s with fl := { s.fl with precP := x } } v ib := h.setHead 3 (by decide) _ rfl rfl ⟨rfl, rfl, rfl⟩
theorem PP.setMinus (h : PP b w s v ib) (x : Bool) : PP b (w.setCell ⟨b, 4, none⟩ (.bool x)) { s with fl := { s.fl with minus := x } } v ib := h.setHead 4 (by decide) _ rfl rfl ⟨rfl, rfl, rfl⟩
theorem PP.setPlus (h : PP b w s v ib) (x : Bool) : PP b (w.setCell ⟨b, 5, none⟩ (.bool x)) { s with fl := { s.fl with plus := x } } v ib := h.setHead 5 (by decide) _ rfl rfl ⟨rfl, rfl, rfl⟩
theorem PP.setSharp (h : PP b w s v ib) (x : Bool) : PP b (w.setCell ⟨b, 6, none⟩ (.bool x)) { s with fl := { s.fl with sharp := x } } v ib := h.setHead 6 (by decide) _ rfl rfl ⟨rfl, rfl, rfl⟩
theorem PP.setSpace (h : PP b w s v ib) (x : Bool) : PP b (w.setCell ⟨b, 7, none⟩ (.bool x)) { s with fl := { s.fl with space := x } } v ib := h.setHead 7 (by decide) _ rfl rfl ⟨rfl, rfl, rfl⟩
theorem PP.setZero (h : PP b w s v ib) (x : Bool) : PP b (w.setCell ⟨b, 8, none⟩ (.bool x)) { s with fl := { s.fl with zero := x } } v ib := h.setHead 8 (by decide) _ rfl rfl ⟨rfl, rfl, rfl⟩
theorem PP.setPlusV (h : PP b w s v ib) (x : Bool) : PP b (w.setCell ⟨b, 9, none⟩ (.bool x)) { s with fl := { s.fl with plusV := x } } v ib := h.setHead 9 (by decide) _ rfl rfl ⟨rfl, rfl, rfl⟩
theorem PP.setSharpV (h : PP b w s v ib) (x : Bool) : PP b (w.setCell ⟨b, 10, none⟩ (.bool x)) { s with fl := { s.fl with sharpV := x } } v ib := h.setHead 10 (by decide) _ rfl rfl ⟨rfl, rfl, rfl⟩
theorem PP.setWid (h : PP b w s v ib) (x : Int) : PP b (w.setCell ⟨b, 11, none⟩ (.int .i64 x)) { s with fl := { s.fl with wid := x } } v ib := h.setHead 11 (by decide) _ rfl rfl ⟨rfl, rfl, rfl⟩
theorem PP.setPrec (h : PP b w s v ib) (x : Int) : PP b (w.setCell ⟨b, 12, none⟩ (.int .i64 x)) { s with fl := { s.fl with prec := x } } v ib := h.setHead 12 (by decide) _ rfl rfl ⟨rfl, rfl, rfl⟩

/-- what has been appended to the text -/
theorem PP.text (h : PP b w s v ib) {v' : Value} {ys : Bytes} (k : App w v w' v' ys) : PP b (w'.setCell ⟨b, 0, none⟩ v') { s with out := ys } v' ib ∧ Fr b w v (w'.setCell ⟨b, 0, none⟩ v') v' := by
  have hb : w'.heap[b]? = w.heap[b]? := k.only.other b h.lt (fun b' o c hp => fun e => h.far b' o c hp e.symm)
  have hfar : ∀ b' o c, place v' = some (b', o, c) → b' ≠ b := by
    intro b' o c hp
    rcases k.plc with h1 | ⟨b1, o1, c1, h1, h2⟩
    · exact h.far b' o c (h1.symm.trans hp)
    · rw [h1] at hp
      cases hp
      have := h.lt
      omega
  refine ⟨⟨h.ibl, ?_, ?_, hfar⟩, ((Fr.refl b w v).app k).setB 0 v'⟩
  · rw [heap_setCell_here (a := ⟨b, 0, none⟩) rfl (by rw [hb]; exact h.blk)]
    simp [ppCells]
  · rcases k.buf with hb' | ⟨b', o, c, cs, e, hv, hbb, hr⟩
    · exact .inl hb'
    · refine .inr ⟨b', o, c, cs, e, hv, ?_, hr⟩
      rw [heap_setCell_else]
      · exact hbb
      · exact hfar b' o c (by rw [hv]; rfl)

/-- what lies outside the printer may have grown -/
theorem PP.only (h : PP b w s v ib) {p : Option (Nat × Nat × Nat)} (k : Only p w w') (hp : ∀ b' o c, p = some (b', o, c) → b' ≠ b ∧ ∀ b1 o1 c1, place v = some (b1, o1, c1) → b1 ≠ b') : PP b w' s v ib :=
  ⟨h.ibl, by rw [k.other b h.lt (fun b' o c he => fun e => (hp b' o c he).1 e.symm)]; exact h.blk,
    h.buf.only k (fun b1 o1 c1 b' o' c' he hv => (hp b1 o1 c1 he).2 b' o' c' hv), h.far⟩
theorem PP.alloc (h : PP b w s v ib) (o : Obj) : PP b (w.alloc o) s v ib := h.only ((Only.refl none w).alloc o) (fun _ _ _ he => by cases he)
theorem PP.drew (h : PP b w s v ib) : PP b w.drew s v ib := h.only ((Only.refl none w).drew) (fun _ _ _ he => by cases he)
theorem PP.drewN (h : PP b w s v ib) (q : Nat) : PP b (w.drewN q) s v ib := h.only ((Only.refl none w).drewN q) (fun _ _ _ he => by cases he)
/-- the number buffer alone was written -/
theorem PP.onlyIb (h : PP b w s v ib) {o c : Nat} (k : Only (some (b, o, c)) w w') (h1 : 13 ≤ o) (h2 : o + c ≤ 81) : ∃ ib', PP b w' s v ib' := by
  obtain ⟨cs', g1, g2, g3⟩ := k.here b o c _ _ _ rfl h.blk
  have hlen : (ppCells v b s ib).length = 87 := by simp [ppCells, h.ibl]
  simp only [List.size_toArray, hlen] at g2
  have hget : ∀ j, (j < o ∨ o + c ≤ j) → cs'.toList[j]? = (ppCells v b s ib)[j]? := by
    intro j hj
    have := g3 j hj
    simpa using this
  refine ⟨(cs'.toList.drop 13).take 68, ⟨by simp [g2], ?_, ?_, h.far⟩⟩
  · rw [g1]
    congr 2
    have htl : (ppCells v b s ((cs'.toList.drop 13).take 68)) = cs'.toList := by
      apply List.ext_getElem?
      intro j
      by_cases hj1 : j < 13
      · rw [hget j (by omega)]
        unfold ppCells
        rw [List.append_assoc, List.append_assoc, List.getElem?_append_left (by simpa using hj1), List.getElem?_append_left (by simpa using hj1)]
      · by_cases hj2 : j < 81
        · unfold ppCells
          rw [List.append_assoc, List.getElem?_append_right (by simp; omega), List.getElem?_append_left (by simp [g2]; omega)]
          simp only [List.length_cons, List.length_nil]
          rw [List.getElem?_take, if_pos (by omega), List.getElem?_drop]
          congr 1
          omega
        · rw [hget j (by omega)]
          unfold ppCells
          rw [List.getElem?_append_right (by simp [g2]; omega), List.getElem?_append_right (by simp [h.ibl]; omega)]
          simp [g2, h.ibl]
    rw [htl]
  · exact h.buf.only k (fun b1 o1 c1 b' o' c' he hv => by cases he; exact h.far b' o' c' hv)
end

theorem App.slice {w w' : World} {v v' : Value} {ys : Bytes} (h : App w v w' v' ys) : ∃ a n c, v' = .slice a n c := by
  rcases h.buf with ⟨rfl, rfl⟩ | ⟨b, o, c, cs, e, rfl, _⟩
  · exact ⟨none, 0, 0, rfl⟩
  · exact ⟨_, _, _, rfl⟩
theorem Buf.slice {w : World} {v : Value} {ys : Bytes} (h : Buf w v ys) : ∃ a n c, v = .slice a n c := (App.refl h).slice
/-- the printer's block is as it was behind an append to its text -/
theorem PP.still {b : Nat} {w w' : World} {s : PS} {v v' : Value} {ib : List Value} {ys : Bytes} (h : PP b w s v ib) (k : App w v w' v' ys) : w'.heap[b]? = w.heap[b]? :=
  k.only.other b h.lt (fun b' o c hp => fun e => h.far b' o c hp e.symm)
theorem PP.still0 {b : Nat} {w w' : World} {s : PS} {v v' : Value} {ib : List Value} {ys : Bytes} (h : PP b w s v ib) (k : App w v w' v' ys) : w'.cell? ⟨b, 0, none⟩ = some v := by
  rw [World.cell?_of_block (a := ⟨b, 0, none⟩) (h.still k)]; exact h.c0
theorem PP.stillf {b : Nat} {w w' : World} {s : PS} {v v' : Value} {ib : List Value} {ys : Bytes} (h : PP b w s v ib) (k : App w v w' v' ys) (j : Nat) : w'.frozen? ⟨b, j, none⟩ = false := by
  rw [World.frozen?_of_block (a := ⟨b, j, none⟩) (h.still k)]; exact h.frz j

/-- a slice x that holds the bytes t: it lies neither in the printer's block nor in its text's, or in the printer's number buffer -/
def Held (b : Nat) (w : World) (v : Value) (x : Value) (t : Bytes) : Prop :=
  RBuf w x t ∧ ∀ k o c, place x = some (k, o, c) → (k ≠ b ∧ ∀ o1 c1, place v ≠ some (k, o1, c1)) ∨ (k = b ∧ 13 ≤ o ∧ o + c ≤ 81)

theorem getElem?_mid {A M C : List Value} {j : Nat} (h1 : A.length ≤ j) (h2 : j < A.length + M.length) : (A ++ M ++ C)[j]? = M[j - A.length]? := by
  rw [List.append_assoc, List.getElem?_append_right h1, List.getElem?_append_left (by omega)]

theorem ppCells_mid {v : Value} {b : Nat} {s : PS} {ib : List Value} (hl : ib.length = 68) (j : Nat) (h1 : 13 ≤ j) (h2 : j < 81) : (ppCells v b s ib)[j]? = ib[j - 13]? :=
  getElem?_mid (by simpa using h1) (by simp [hl]; omega)

theorem ppCells_ib {v v' : Value} {b : Nat} {s s' : PS} {ib : List Value} (hl : ib.length = 68) (j : Nat) (h1 : 13 ≤ j) (h2 : j < 81) : (ppCells v' b s' ib)[j]? = (ppCells v b s ib)[j]? := by
  rw [ppCells_mid hl j h1 h2, ppCells_mid hl j h1 h2]

theorem Held.step {b : Nat} {w w' : World} {s s' : PS} {v v' : Value} {ib : List Value} {x : Value} {t : Bytes} (h : Held b w v x t) (hp : PP b w s v ib) (hp' : PP b w' s' v' ib) (hf : Fr b w v w' v') : Held b w' v' x t := by
  obtain ⟨hb, hq⟩ := h
  rcases hb with ⟨rfl, rfl⟩ | ⟨k, o, c, cs, e, fr, rfl, hbb, h1, h2, h3, h4⟩
  · exact ⟨.inl ⟨rfl, rfl⟩, fun _ _ _ he => by cases he⟩
  · rcases hq k o c rfl with ⟨q1, q2⟩ | ⟨q1, q2, q3⟩
    · refine ⟨.inr ⟨k, o, c, cs, e, fr, rfl, by rw [hf.same k (lt_of_heap hbb) q1 q2]; exact hbb, h1, h2, h3, h4⟩, fun k' o' c' he => ?_⟩
      cases he
      refine .inl ⟨q1, fun o1 c1 hv => ?_⟩
      rcases hf.plc k o1 c1 hv with ⟨o2, c2, h5⟩ | h5
      · exact q2 o2 c2 h5
      · have := lt_of_heap hbb
        omega
    · subst q1
      have hbk := hp.blk
      rw [hbb] at hbk
      cases hbk
      refine ⟨.inr ⟨k, o, c, (ppCells v' k s' ib).toArray, 127, (0, 0), rfl, hp'.blk, ?_, h2, h3, fun j hj => ?_⟩, fun k' o' c' he => ?_⟩
      · simp [ppCells, hp.ibl]; omega
      · have := h4 j hj
        simp only [List.getElem?_toArray] at this ⊢
        rw [ppCells_ib (v := v) (s := s) hp.ibl (o + j) (by omega) (by omega)]
        exact this
      · cases he
        exact .inr ⟨rfl, q2, q3⟩

/-- what was appended to the printer's number buffer lies there, or in a new block -/
theorem PP.held {b : Nat} {w w' : World} {s : PS} {v v' : Value} {ib : List Value} {n : Nat} {ys : Bytes} (h : PP b w s v ib) (k : App w (.slice (some ⟨b, 13, none⟩) n 68) w' v' ys) : (∃ ib', PP b w' s v ib') ∧ Held b w' v v' ys ∧ Fr b w v w' v := by
  have ho : Only (some (b, 13, 68)) w w' := k.only
  refine ⟨h.onlyIb ho (by omega) (by omega), ⟨k.buf.rbuf, fun k' o c hp => ?_⟩, (Fr.refl b w v).only ho (fun b' o c he => by cases he; exact .inl rfl)⟩
  rcases k.plc with hk | ⟨b2, o2, c2, hk, hb2⟩
  · rw [hk] at hp
    cases hp
    exact .inr ⟨rfl, Nat.le_refl _, Nat.le_refl _⟩
  · rw [hk] at hp
    cases hp
    refine .inl ⟨by have := h.lt; omega, fun o1 c1 hv => ?_⟩
    have := h.buf.place_lt hv
    omega
/-- the number buffer, as a slice that holds nothing -/
theorem PP.ibBuf {b : Nat} {w : World} {s : PS} {v : Value} {ib : List Value} (h : PP b w s v ib) : Buf w (.slice (some ⟨b, 13, none⟩) 0 68) [] :=
  .inr ⟨b, 13, 68, _, 127, rfl, h.blk, by simp [ppCells, h.ibl], by decide, by decide, fun j hj => by simp at hj⟩

/-- the printer's text has become longer by t; all else of it is as it was -/
def Wrote (b : Nat) (w : World) (s : PS) (v : Value) (ib : List Value) (t : Bytes) (e : Ending) (w' : World) : Prop :=
  e = .returned (.tuple #[]) ∧ ∃ v', PP b w' { s with out := s.out ++ t } v' ib ∧ Fr b w v w' v'
/-- the same; the number buffer may have been written -/
def WroteI (b : Nat) (w : World) (s : PS) (v : Value) (t : Bytes) (e : Ending) (w' : World) : Prop :=
  e = .returned (.tuple #[]) ∧ ∃ v' ib', PP b w' { s with out := s.out ++ t } v' ib' ∧ Fr b w v w' v'

theorem byte5 : (Tryz.prog.info? 5).map (fun i => (i.zero, i.size, i.bytes)) = some (some (.int .u8 0), 1, 1) := by kernel_rfl

end Go.Proofs.YtcbliojofnigdaaGreatDoor
