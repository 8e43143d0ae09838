/- Laws on slices of bytes that lie anywhere in a block and are appended to; and what stays as it was. No program is named here. -/
import Derived.WalkKit
import Derived.Deep.AppendSrc
import Derived.Laws.IdiomCopy
import Derived.Laws.AppendOwn
namespace Go.Proofs.YtcbliojofnigdaaGreatDoor
open Go

abbrev Bytes := List UInt8
/-- the byte of a number -/
def B (c : Int) : UInt8 := UInt8.ofNat c.toNat
def u8 (b : UInt8) : Value := .int .u8 b.toNat
def u8s (l : Bytes) : List Value := l.map u8

/-- so many bytes find room (a plain name: the walk must not look at the number) -/
def Room (n : Nat) : Prop := n ≤ 140737488355328
theorem Room.le {m n : Nat} (h : Room n) (k : m ≤ n) : Room m := Nat.le_trans k h

theorem B_toNat {c : Int} (h0 : 0 ≤ c) (h1 : c ≤ 255) : ((B c).toNat : Int) = c := by
  unfold B
  rw [UInt8.toNat_ofNat_of_lt' (by have : UInt8.size = 256 := rfl; omega)]
  omega

theorem u8_B {c : Int} (h0 : 0 ≤ c) (h1 : c ≤ 255) : u8 (B c) = .int .u8 c := by unfold u8; rw [B_toNat h0 h1]

theorem u8s_length (l : Bytes) : (u8s l).length = l.length := by simp [u8s]
theorem u8s_one (l : Bytes) : ∀ u ∈ u8s l, u.oneCell' = true := by
  intro u hu
  obtain ⟨_, _, rfl⟩ := List.mem_map.1 hu
  rfl
theorem u8s_at (l : Bytes) (j : Nat) (h : j < l.length) : (u8s l)[j]? = some (u8 l[j]) := by simp [u8s, h]
theorem byteCells_u8s (s : ByteArray) : byteCells s = u8s s.data.toList := rfl

/-- where a slice's array lies: its block, its first cell, how many cells it may use -/
def place : Value → Option (Nat × Nat × Nat)
  | .slice (some a) _ c => some (a.block, a.off, c)
  | _ => none

/-- Only the cells of a place may have changed; new blocks may have come. -/
structure Only (p : Option (Nat × Nat × Nat)) (w w' : World) : Prop where
  os : w'.os = w.os
  tape : w'.tape = w.tape
  output : w'.output = w.output
  size : w.heap.size ≤ w'.heap.size
  other : ∀ k, k < w.heap.size → (∀ b o c, p = some (b, o, c) → k ≠ b) → w'.heap[k]? = w.heap[k]?
  here : ∀ b o c cs e f, p = some (b, o, c) → w.heap[b]? = some (.cells cs e f) → ∃ cs' : Array Value, w'.heap[b]? = some (.cells cs' e f) ∧ cs'.size = cs.size ∧ ∀ j, (j < o ∨ o + c ≤ j) → cs'[j]? = cs[j]?

theorem Only.refl (p : Option (Nat × Nat × Nat)) (w : World) : Only p w w :=
  ⟨rfl, rfl, rfl, Nat.le_refl _, fun _ _ _ => rfl, fun _ _ _ cs _ _ _ h => ⟨cs, h, rfl, fun _ _ => rfl⟩⟩

theorem lt_of_heap {w : World} {k : Nat} {o : Obj} (h : w.heap[k]? = some o) : k < w.heap.size := (Array.getElem?_eq_some_iff.1 h).1

theorem Only.trans {p : Option (Nat × Nat × Nat)} {w w1 w2 : World} (h : Only p w w1) (k : Only p w1 w2) : Only p w w2 := by
  refine ⟨k.os.trans h.os, k.tape.trans h.tape, k.output.trans h.output, Nat.le_trans h.size k.size, fun i hi hne => ?_, fun b o c cs e f hp hb => ?_⟩
  · exact (k.other i (Nat.lt_of_lt_of_le hi h.size) hne).trans (h.other i hi hne)
  · obtain ⟨c1, h1, h2, h3⟩ := h.here b o c cs e f hp hb
    obtain ⟨c2, k1, k2, k3⟩ := k.here b o c c1 e f hp h1
    exact ⟨c2, k1, k2.trans h2, fun j hj => (k3 j hj).trans (h3 j hj)⟩

/-- A place that is new since w: nothing of w is touched by it. -/
theorem Only.fresh {p : Option (Nat × Nat × Nat)} {w w1 w2 : World} {b o c : Nat} (h : Only p w w1) (hb : w.heap.size ≤ b) (k : Only (some (b, o, c)) w1 w2) : Only p w w2 := by
  refine ⟨k.os.trans h.os, k.tape.trans h.tape, k.output.trans h.output, Nat.le_trans h.size k.size, fun i hi hne => ?_, fun b' o' c' cs e f hp hbb => ?_⟩
  · refine (k.other i (Nat.lt_of_lt_of_le hi h.size) (fun b1 _ _ he => ?_)).trans (h.other i hi hne)
    cases he
    omega
  · obtain ⟨c1, h1, h2, h3⟩ := h.here b' o' c' cs e f hp hbb
    refine ⟨c1, ?_, h2, h3⟩
    rw [k.other b' (lt_of_heap h1) (fun b1 _ _ he => ?_)]
    · exact h1
    · cases he
      have := lt_of_heap hbb
      omega

theorem Only.none {p : Option (Nat × Nat × Nat)} {w w1 : World} (h : Only none w w1) : Only p w w1 :=
  ⟨h.os, h.tape, h.output, h.size, fun i hi _ => h.other i hi (fun _ _ _ he => by cases he), fun b _ _ cs _ _ _ hb => ⟨cs, by rw [h.other b (lt_of_heap hb) (fun _ _ _ he => by cases he)]; exact hb, rfl, fun _ _ => rfl⟩⟩

theorem Only.alloc {p : Option (Nat × Nat × Nat)} {w0 w : World} (h : Only p w0 w) (o : Obj) : Only p w0 (w.alloc o) :=
  h.trans (Only.none ⟨rfl, rfl, rfl, by simp, fun k hk _ => heap_alloc_old w o hk, fun _ _ _ _ _ _ he => by cases he⟩)

theorem Only.drew {p : Option (Nat × Nat × Nat)} {w0 w : World} (h : Only p w0 w) : Only p w0 w.drew :=
  h.trans (Only.none ⟨rfl, rfl, rfl, Nat.le_refl _, fun _ _ _ => rfl, fun _ _ _ _ _ _ he => by cases he⟩)

theorem heap_setCell_here {w : World} {a : Addr} {v : Value} {cs : Array Value} {e : TypeId} {f : Nat × Nat} (hs : a.spot = .none) (h : w.heap[a.block]? = some (.cells cs e f)) :
    (w.setCell a v).heap[a.block]? = some (.cells (cs.setIfInBounds a.off v) e f) := by
  simp only [World.setCell, Array.getElem?_modify, if_true, h, Option.map_some, hs, Option.isSome_none, Bool.false_eq_true, if_false]

theorem heap_setCell_else (w : World) (a : Addr) (v : Value) (k : Nat) (h : k ≠ a.block) : (w.setCell a v).heap[k]? = w.heap[k]? := by
  simp only [World.setCell, Array.getElem?_modify]
  rw [if_neg (by omega)]

theorem Only.setCell {b o c : Nat} {w0 w : World} (h : Only (some (b, o, c)) w0 w) (j : Nat) (v : Value) (h1 : o ≤ j) (h2 : j < o + c) : Only (some (b, o, c)) w0 (w.setCell ⟨b, j, .none⟩ v) := by
  refine h.trans ⟨rfl, rfl, rfl, by simp, fun k _ hne => heap_setCell_else _ _ _ _ (hne b o c rfl), fun b' o' c' cs e f he hb => ?_⟩
  cases he
  refine ⟨cs.setIfInBounds j v, heap_setCell_here (a := ⟨b, j, .none⟩) rfl hb, by simp, fun i hi => ?_⟩
  rw [Array.getElem?_setIfInBounds]
  rw [if_neg (by omega)]

/-- An array with some of its cells laid anew. -/
def putAt (cs : Array Value) : Nat → List Value → Array Value
  | _, [] => cs
  | o, v :: r => putAt (cs.setIfInBounds o v) (o + 1) r

theorem putAt_size (vs : List Value) : ∀ (cs : Array Value) (o : Nat), (putAt cs o vs).size = cs.size := by
  induction vs with
  | nil => intro cs o; rfl
  | cons v r ih => intro cs o; simp [putAt, ih]

theorem putAt_out (vs : List Value) : ∀ (cs : Array Value) (o j : Nat), (j < o ∨ o + vs.length ≤ j) → (putAt cs o vs)[j]? = cs[j]? := by
  induction vs with
  | nil => intro cs o j _; rfl
  | cons v r ih =>
    intro cs o j h
    simp only [List.length_cons] at h
    rw [putAt, ih _ _ _ (by omega), Array.getElem?_setIfInBounds, if_neg (by omega)]

theorem putAt_in (vs : List Value) : ∀ (cs : Array Value) (o j : Nat), o + vs.length ≤ cs.size → (h : j < vs.length) → (putAt cs o vs)[o + j]? = some vs[j] := by
  induction vs with
  | nil => intro cs o j _ h; simp at h
  | cons v r ih =>
    intro cs o j hs h
    simp only [List.length_cons] at hs h
    cases j with
    | zero =>
      rw [putAt, putAt_out _ _ _ _ (by omega)]
      have : o < cs.size := by omega
      simp [this]
    | succ j =>
      rw [putAt, show o + (j + 1) = o + 1 + j by omega, ih _ _ _ (by simp; omega) (by omega)]
      simp

theorem heap_setCells_here {b : Nat} {e : TypeId} {f : Nat × Nat} (vs : List Value) : ∀ (o : Nat) (w : World) (cs : Array Value), w.heap[b]? = some (.cells cs e f) → (w.setCells b o vs).heap[b]? = some (.cells (putAt cs o vs) e f) := by
  induction vs with
  | nil => intro o w cs h; exact h
  | cons v r ih =>
    intro o w cs h
    rw [World.setCells, putAt]
    exact ih _ _ _ (heap_setCell_here (a := ⟨b, o, .none⟩) rfl h)

theorem Only.setCells {b o c : Nat} (vs : List Value) : ∀ (j : Nat) {w0 w : World}, Only (some (b, o, c)) w0 w → o ≤ j → j + vs.length ≤ o + c → Only (some (b, o, c)) w0 (w.setCells b j vs) := by
  induction vs with
  | nil => intro j w0 w h _ _; exact h
  | cons v r ih =>
    intro j w0 w h h1 h2
    simp only [List.length_cons] at h2
    rw [World.setCells]
    exact ih (j + 1) (h.setCell j v h1 (by omega)) (by omega) (by omega)

/-- THE SLICE VALUE v HOLDS THE BYTES xs: it is nil, or it lies somewhere in a block that is not frozen. -/
def Buf (w : World) (v : Value) (xs : Bytes) : Prop :=
  (v = .slice .none 0 0 ∧ xs = []) ∨
  ∃ b o c cs e, v = .slice (some ⟨b, o, .none⟩) xs.length c ∧ w.heap[b]? = some (.cells cs e (0, 0)) ∧ o + c ≤ cs.size ∧ xs.length ≤ c ∧ c ≤ maxLen ∧ ∀ j, (h : j < xs.length) → cs[o + j]? = some (u8 xs[j])

theorem Buf.nil (w : World) : Buf w (.slice .none 0 0) [] := .inl ⟨rfl, rfl⟩

theorem Buf.alloc {w : World} {v : Value} {xs : Bytes} (h : Buf w v xs) (o : Obj) : Buf (w.alloc o) v xs := by
  rcases h with h | ⟨b, o', c, cs, e, hv, hb, h⟩
  · exact .inl h
  · exact .inr ⟨b, o', c, cs, e, hv, by rw [heap_alloc_old w o (lt_of_heap hb)]; exact hb, h⟩

theorem Buf.drew {w : World} {v : Value} {xs : Bytes} (h : Buf w v xs) : Buf w.drew v xs := h

theorem Buf.place_lt {w : World} {v : Value} {xs : Bytes} (h : Buf w v xs) {b o c : Nat} (hp : place v = some (b, o, c)) : b < w.heap.size := by
  rcases h with ⟨rfl, _⟩ | ⟨b', o', c', cs, e, rfl, hb, _⟩
  · cases hp
  · cases hp
    exact lt_of_heap hb

/-- what has not been touched keeps its bytes -/
theorem Buf.only {p : Option (Nat × Nat × Nat)} {w w' : World} {v : Value} {xs : Bytes} (h : Buf w v xs) (k : Only p w w') (hne : ∀ b o c b' o' c', p = some (b, o, c) → place v = some (b', o', c') → b' ≠ b) : Buf w' v xs := by
  rcases h with h | ⟨b, o, c, cs, e, hv, hb, h⟩
  · exact .inl h
  · refine .inr ⟨b, o, c, cs, e, hv, ?_, h⟩
    rw [k.other b (lt_of_heap hb) (fun b' o' c' hp => hne b' o' c' b o c hp (by rw [hv]; rfl))]
    exact hb

theorem Buf.cell {w : World} {b o n c : Nat} {xs : Bytes} (h : Buf w (.slice (some ⟨b, o, .none⟩) n c) xs) {j : Nat} (hj : j < xs.length) : w.cell? ⟨b, o + j, .none⟩ = some (u8 xs[j]) := by
  rcases h with ⟨h, _⟩ | ⟨b', o', c', cs, e, hv, hb, _, _, _, h⟩
  · cases h
  · cases hv
    simp [World.cell?, hb, h j hj]

theorem Buf.frozen {w : World} {b o n c : Nat} {xs : Bytes} (h : Buf w (.slice (some ⟨b, o, .none⟩) n c) xs) (j : Nat) : w.frozen? ⟨b, j, .none⟩ = false := by
  rcases h with ⟨h, _⟩ | ⟨b', o', c', cs, e, hv, hb, _⟩
  · cases h
  · cases hv
    simp [World.frozen?, hb]

/-- THE SLICE VALUE v READS AS THE BYTES xs: as Buf, whatever mark its block bears. -/
def RBuf (w : World) (v : Value) (xs : Bytes) : Prop :=
  (v = .slice .none 0 0 ∧ xs = []) ∨
  ∃ b o c cs e fr, v = .slice (some ⟨b, o, .none⟩) xs.length c ∧ w.heap[b]? = some (.cells cs e fr) ∧ o + c ≤ cs.size ∧ xs.length ≤ c ∧ c ≤ maxLen ∧ ∀ j, (h : j < xs.length) → cs[o + j]? = some (u8 xs[j])
theorem Buf.rbuf {w : World} {v : Value} {xs : Bytes} (h : Buf w v xs) : RBuf w v xs := by
  rcases h with h | ⟨b, o, c, cs, e, h⟩
  · exact .inl h
  · exact .inr ⟨b, o, c, cs, e, (0, 0), h⟩
theorem RBuf.only {p : Option (Nat × Nat × Nat)} {w w' : World} {v : Value} {xs : Bytes} (h : RBuf w v xs) (k : Only p w w') (hne : ∀ b o c b' o' c', p = some (b, o, c) → place v = some (b', o', c') → b' ≠ b) : RBuf w' v xs := by
  rcases h with h | ⟨b, o, c, cs, e, fr, hv, hb, h⟩
  · exact .inl h
  · refine .inr ⟨b, o, c, cs, e, fr, hv, ?_, h⟩
    rw [k.other b (lt_of_heap hb) (fun b' o' c' hp => hne b' o' c' b o c hp (by rw [hv]; rfl))]
    exact hb
theorem RBuf.alloc {w : World} {v : Value} {xs : Bytes} (h : RBuf w v xs) (o : Obj) : RBuf (w.alloc o) v xs := h.only ((Only.refl .none w).alloc o) (fun _ _ _ _ _ _ he => by cases he)
theorem RBuf.drew {w : World} {v : Value} {xs : Bytes} (h : RBuf w v xs) : RBuf w.drew v xs := h
theorem RBuf.slice {w : World} {v : Value} {xs : Bytes} (h : RBuf w v xs) : ∃ a c, v = .slice a xs.length c ∧ xs.length ≤ c ∧ c ≤ maxLen := by
  rcases h with ⟨rfl, rfl⟩ | ⟨b, o, c, cs, e, fr, hv, hb, h1, h2, h3, h4⟩
  · exact ⟨.none, 0, rfl, Nat.le_refl _, Nat.zero_le _⟩
  · exact ⟨_, _, hv, h2, h3⟩
theorem RBuf.cell {w : World} {b o n c : Nat} {xs : Bytes} (h : RBuf w (.slice (some ⟨b, o, .none⟩) n c) xs) {j : Nat} (hj : j < xs.length) : w.cell? ⟨b, o + j, .none⟩ = some (u8 xs[j]) := by
  rcases h with ⟨h, _⟩ | ⟨b', o', c', cs, e, fr, hv, hb, _, _, _, h⟩
  · cases h
  · cases hv
    simp [World.cell?, hb, h j hj]
theorem RBuf.place_lt {w : World} {v : Value} {xs : Bytes} (h : RBuf w v xs) {b o c : Nat} (hp : place v = some (b, o, c)) : b < w.heap.size := by
  rcases h with ⟨rfl, _⟩ | ⟨b', o', c', cs, e, fr, rfl, hb, _⟩
  · cases hp
  · cases hp
    exact lt_of_heap hb
/-- a part of it -/
theorem RBuf.part {w : World} {b o n c : Nat} {xs : Bytes} (h : RBuf w (.slice (some ⟨b, o, .none⟩) n c) xs) (i k : Nat) (hik : i + k ≤ n) : RBuf w (.slice (some ⟨b, o + i, .none⟩) k (c - i)) ((xs.drop i).take k) := by
  rcases h with ⟨h, _⟩ | ⟨b', o', c', cs, e, fr, hv, hb, h1, h2, h3, h4⟩
  · cases h
  · cases hv
    refine .inr ⟨b, o + i, c - i, cs, e, fr, ?_, hb, by omega, ?_, by omega, fun j hj => ?_⟩
    · rw [List.length_take, List.length_drop, Nat.min_eq_left (by omega)]
    · rw [List.length_take, List.length_drop]; omega
    · rw [List.length_take, List.length_drop] at hj
      rw [Nat.add_assoc, h4 (i + j) (by omega)]
      simp

/-- v in w has become v' in w', with other bytes: only v's own place was written, or a new one. -/
structure App (w : World) (v : Value) (w' : World) (v' : Value) (ys : Bytes) : Prop where
  buf : Buf w' v' ys
  only : Only (place v) w w'
  plc : place v' = place v ∨ ∃ b o c, place v' = some (b, o, c) ∧ w.heap.size ≤ b

theorem App.refl {w : World} {v : Value} {xs : Bytes} (h : Buf w v xs) : App w v w v xs := ⟨h, Only.refl _ _, .inl rfl⟩

theorem App.alloc {w0 w : World} {v0 v : Value} {xs : Bytes} (h : App w0 v0 w v xs) (o : Obj) : App w0 v0 (w.alloc o) v xs := ⟨h.buf.alloc o, h.only.alloc o, h.plc⟩
theorem App.drew {w0 w : World} {v0 v : Value} {xs : Bytes} (h : App w0 v0 w v xs) : App w0 v0 w.drew v xs := ⟨h.buf.drew, h.only.drew, h.plc⟩

theorem App.trans {w0 w1 w2 : World} {v0 v1 v2 : Value} {xs ys : Bytes} (h : App w0 v0 w1 v1 xs) (k : App w1 v1 w2 v2 ys) : App w0 v0 w2 v2 ys := by
  refine ⟨k.buf, ?_, ?_⟩
  · rcases h.plc with hp | ⟨b, o, c, hp, hb⟩
    · have := k.only
      rw [hp] at this
      exact h.only.trans this
    · have := k.only
      rw [hp] at this
      exact h.only.fresh hb this
  · rcases k.plc with kp | ⟨b, o, c, kp, kb⟩
    · rcases h.plc with hp | ⟨b, o, c, hp, hb⟩
      · exact .inl (kp.trans hp)
      · exact .inr ⟨b, o, c, kp.trans hp, hb⟩
    · exact .inr ⟨b, o, c, kp, Nat.le_trans h.only.size kb⟩

theorem App.same {w0 w : World} {v0 v : Value} {xs ys : Bytes} (h : App w0 v0 w v xs) (e : xs = ys) : App w0 v0 w v ys := e ▸ h

section
variable {P : Program}

/-- APPEND, whatever the slice and whatever is appended. -/
theorem run_append_buf (w : World) (t tx ty e : TypeId) (i : TypeInfo) (ht : P.underlying t = some (.slice e)) (hi : P.info? e = some i) (hz : i.zero = some (.int .u8 0)) (hsize : i.size = 1) (hby : i.bytes = 1)
    (v : Value) (xs : Bytes) (hb : Buf w v xs) (x : Value) (news : Bytes) (hs : Src P 1 tx x news.length (u8s news) w) (hlen : xs.length + news.length ≤ 140737488355328) :
    ∃ v' w', (Builtin.append_ #[t, tx] ty #[v, x]).run P w = .ok v' w' ∧ App w v w' v' (xs ++ news) := by
  have hs' : Src P i.size tx x news.length (u8s news) w := by rw [hsize]; exact hs
  have grown : ∀ (base : Option Addr) (sc : Nat), v = .slice base xs.length sc → sc < xs.length + news.length → (Builtin.firstCells i.size xs.length (.slice base xs.length sc)).run P w.drew = .ok (u8s xs).toArray w.drew →
      ∃ v' w', (Builtin.append_ #[t, tx] ty #[v, x]).run P w = .ok v' w' ∧ App w v w' v' (xs ++ news) := by
    intro base sc hv hlt hold
    subst hv
    have hr := run_append_grow_src (P := P) w t tx ty e i _ ht hi hz base xs.length sc (u8s xs) hold x news.length (u8s news) hs' hlt (by omega) (growslice_fits hlt (by rw [hby]; omega))
    refine ⟨_, _, hr, .inr ⟨w.heap.size, 0, grownCap w (xs.length + news.length) sc e, _, e, by rw [List.length_append], heap_alloc_new w.drew _, ?_, ?_, ?_, ?_⟩, (Only.refl _ w).drew.alloc _, .inr ⟨w.heap.size, 0, _, rfl, Nat.le_refl _⟩⟩
    · have := grownCap_ge w (xs.length + news.length) sc e
      simp only [Array.size_append, List.size_toArray, size_zeroCells, List.length_append, u8s_length, Value.cells, List.size_toArray, List.length_cons, List.length_nil]
      omega
    · have := grownCap_ge w (xs.length + news.length) sc e
      simpa using this
    · exact grownCap_le_maxLen w _ _ _ (by unfold maxLen; omega)
    · intro j hj
      rw [List.length_append] at hj
      rw [Nat.zero_add, Array.getElem?_append_left (by simp [u8s_length]; omega), List.getElem?_toArray]
      have : u8s xs ++ u8s news = u8s (xs ++ news) := by simp [u8s]
      rw [this]
      exact u8s_at _ _ (by rw [List.length_append]; exact hj)
  rcases hb with ⟨rfl, rfl⟩ | ⟨b, o, c, cs, e', rfl, hbb, hoc, hlc, hcm, hcell⟩
  · by_cases h0 : news = []
    · subst h0
      refine ⟨.slice .none 0 0, w, ?_, by simpa using App.refl (Buf.nil w)⟩
      have hcl := hs'.cells
      simp only [List.length_nil, u8s, List.map_nil] at hcl
      rcases hs'.kind with ⟨e', hk⟩ | hk <;> simp [Builtin.append_, run_underlying ht, run_underlying hk, sizeOf, typeInfo, hi, hs'.len, hcl]
    · exact grown .none 0 rfl (by have := List.length_pos_iff.2 h0; simpa using this) (by simpa [u8s] using run_firstCells_none (P := P) w.drew i.size 0 0 0)
  · by_cases hfit : xs.length + news.length ≤ c
    · have hcells : ∀ j, j < (u8s news).length → (w.cell? ⟨b, o + xs.length * i.size + j, .none⟩).isSome = true := by
        intro j hj
        rw [u8s_length] at hj
        rw [hsize, Nat.mul_one]
        simp [World.cell?, hbb]
        omega
      have hr := run_append_room_src (P := P) w t tx ty e i ht hi b o xs.length c x news.length (u8s news) hs' hfit hcells (fun j _ => by simp [World.frozen?, hbb])
      rw [hsize, Nat.mul_one] at hr
      refine ⟨_, _, hr, ⟨.inr ⟨b, o, c, _, e', by rw [List.length_append], heap_setCells_here _ _ _ _ hbb, by rw [putAt_size]; exact hoc, by rw [List.length_append]; exact hfit, hcm, ?_⟩, (show Only (some (b, o, c)) w _ from Only.setCells (u8s news) (o + xs.length) (Only.refl (some (b, o, c)) w) (by omega) (by rw [u8s_length]; omega)), .inl rfl⟩⟩
      intro j hj
      rw [List.length_append] at hj
      by_cases hjx : j < xs.length
      · rw [putAt_out _ _ _ _ (by omega), hcell j hjx, List.getElem_append_left hjx]
      · have := putAt_in (u8s news) cs (o + xs.length) (j - xs.length) (by rw [u8s_length]; omega) (by rw [u8s_length]; omega)
        rw [show o + xs.length + (j - xs.length) = o + j by omega] at this
        rw [this, List.getElem_append_right (by omega)]
        simp [u8s]
    · refine grown (some ⟨b, o, .none⟩) c rfl (by omega) ?_
      refine run_firstCells_some (P := P) w.drew i.size xs.length ⟨b, o, .none⟩ xs.length c (u8s xs) (by rw [u8s_length, hsize, Nat.mul_one]) ?_
      intro j u hu
      have hj : j < xs.length := by
        have := (List.getElem?_eq_some_iff.1 hu).1
        rwa [u8s_length] at this
      rw [Addr.add_lit]
      have : u = u8 xs[j] := by simpa [u8s, hj] using hu.symm
      subst this
      rw [World.cell?_drew]
      simp [World.cell?, hbb, hcell j hj]

theorem wpList_app {ops : Array Oper} {rest : List Oper} {o : Oper} {a : Act} {Q : Exit → Act → World → Prop} {w : World} (hgd : o.guard = .none) (s x : Operand) (t tx : TypeId)
    (ho : o.op = .call { callee := .builtin .append, args := #[s, x], argTypes := #[t, tx] })
    (e : TypeId) (hby : (P.info? e).map (fun i => (i.zero, i.size, i.bytes)) = some (some (.int .u8 0), 1, 1)) (ht : P.underlying t = some (.slice e))
    (v : Value) (xs : Bytes) (hs : a.eval s = v) (xv : Value) (hx : a.eval x = xv) (hb : Buf w v xs) (news : Bytes) (hsrc : Src P 1 tx xv news.length (u8s news) w) (hlen : Room (xs.length + news.length))
    (h : ∀ v' w', App w v w' v' (xs ++ news) → wpList P ops Q rest (a.put o.dst v') w') : wpList P ops Q (o :: rest) a w := by
  refine wpList_plain hgd fun K hK => ?_
  obtain ⟨i, hi, hz0, hz1, hz2⟩ := info_parts hby
  obtain ⟨v', w', hr, happ⟩ := run_append_buf (P := P) w t tx o.type e i ht hi hz0 hz1 hz2 v xs hb xv news hsrc hlen
  unfold Oper.wp execOp
  simp only [ho, resolve, invoke, builtin, Sem.run_bind, Sem.run_pure, Result.andThen_ok, List.map_toArray, List.map_cons, List.map_nil, hs, hx, hr]
  exact hK _ _ (h v' w' happ)

/-- bytes as the walk lays them in a block of their own -/
theorem Src.lit {w : World} {tx e : TypeId} (hk : P.underlying tx = some (.slice e)) (cs : List Int) (h : ∀ c ∈ cs, 0 ≤ c ∧ c ≤ 255) (e' : TypeId) (n : Nat) (hn : cs.length = n) :
    Src P 1 tx (.slice (some ⟨w.heap.size, 0, .none⟩) n n) (cs.map B).length (u8s (cs.map B)) (w.alloc (.cells (cs.map (Value.int .u8)).toArray e')) := by
  have he : u8s (cs.map B) = cs.map (Value.int .u8) := by
    simp only [u8s, List.map_map]
    exact List.map_congr_left fun c hc => u8_B (h c hc).1 (h c hc).2
  subst hn
  rw [List.length_map]
  refine Src.ofSlice _ hk _ _ _ _ (by rw [u8s_length, List.length_map, Nat.mul_one]) ?_ (u8s_one _)
  intro j u hu
  rw [he] at hu
  rw [Addr.add_lit, Nat.zero_add, World.cell?_alloc_new, List.getElem?_toArray]
  exact hu

/-- 'append(dst, c1, c2, ..)': the bytes lie in a block that the statement has just laid. -/
theorem wpList_app_lit {ops : Array Oper} {rest : List Oper} {o : Oper} {a : Act} {Q : Exit → Act → World → Prop} {w : World} (hgd : o.guard = .none) (s x : Operand) (t : TypeId)
    (ho : o.op = .call { callee := .builtin .append, args := #[s, x], argTypes := #[t, t] })
    (e : TypeId) (hby : (P.info? e).map (fun i => (i.zero, i.size, i.bytes)) = some (some (.int .u8 0), 1, 1)) (ht : P.underlying t = some (.slice e))
    (v : Value) (xs : Bytes) (hs : a.eval s = v) (cs : List Int) (n : Nat) (hx : a.eval x = .slice (some ⟨w.heap.size, 0, .none⟩) n n) (hn : cs.length = n) (W0 : World) (V0 : Value) (hb : App W0 V0 w v xs) (e' : TypeId) (vs : List Value) (hvs : vs = cs.map (Value.int .u8))
    (hc : ∀ c ∈ cs, 0 ≤ c ∧ c ≤ 255) (hlen : Room (xs.length + n))
    (h : ∀ v' w', App W0 V0 w' v' (xs ++ cs.map B) → wpList P ops Q rest (a.put o.dst v') w') : wpList P ops Q (o :: rest) a (w.alloc (.cells vs.toArray e')) := by
  subst hvs
  refine wpList_app hgd s x t t ho e hby ht v xs hs _ hx (hb.alloc _).buf (cs.map B) (Src.lit ht cs hc e' n hn) (by rw [List.length_map, hn]; exact hlen) ?_
  intro v' w' k
  exact h v' w' ((hb.alloc _).trans k)

/-- 'append(dst, s...)', s a string. -/
theorem wpList_app_str {ops : Array Oper} {rest : List Oper} {o : Oper} {a : Act} {Q : Exit → Act → World → Prop} {w : World} (hgd : o.guard = .none) (s x : Operand) (t tx : TypeId)
    (ho : o.op = .call { callee := .builtin .append, args := #[s, x], argTypes := #[t, tx] })
    (e : TypeId) (hby : (P.info? e).map (fun i => (i.zero, i.size, i.bytes)) = some (some (.int .u8 0), 1, 1)) (ht : P.underlying t = some (.slice e)) (hk : P.underlying tx = some .string)
    (v : Value) (xs : Bytes) (hs : a.eval s = v) (str : ByteArray) (hx : a.eval x = .string str) (W0 : World) (V0 : Value) (hb : App W0 V0 w v xs) (hlen : Room (xs.length + str.size))
    (h : ∀ v' w', App W0 V0 w' v' (xs ++ str.data.toList) → wpList P ops Q rest (a.put o.dst v') w') : wpList P ops Q (o :: rest) a w := by
  have hsz : str.data.toList.length = str.size := by rw [Array.length_toList]; rfl
  refine wpList_app hgd s x t tx ho e hby ht v xs hs _ hx hb.buf str.data.toList ?_ (by rw [hsz]; exact hlen) ?_
  · have := Src.ofString (P := P) w hk str
    rw [hsz]
    exact this
  · intro v' w' k
    exact h v' w' (hb.trans k)

/-- 'append(dst, b...)', b a slice of bytes. -/
theorem wpList_app_buf {ops : Array Oper} {rest : List Oper} {o : Oper} {a : Act} {Q : Exit → Act → World → Prop} {w : World} (hgd : o.guard = .none) (s x : Operand) (t tx : TypeId)
    (ho : o.op = .call { callee := .builtin .append, args := #[s, x], argTypes := #[t, tx] })
    (e : TypeId) (hby : (P.info? e).map (fun i => (i.zero, i.size, i.bytes)) = some (some (.int .u8 0), 1, 1)) (ht : P.underlying t = some (.slice e)) (htx : P.underlying tx = some (.slice e))
    (v : Value) (xs : Bytes) (hs : a.eval s = v) (xv : Value) (hx : a.eval x = xv) (ys : Bytes) (hxb : RBuf w xv ys) (W0 : World) (V0 : Value) (hb : App W0 V0 w v xs) (hlen : Room (xs.length + ys.length))
    (h : ∀ v' w', App W0 V0 w' v' (xs ++ ys) → wpList P ops Q rest (a.put o.dst v') w') : wpList P ops Q (o :: rest) a w := by
  refine wpList_app hgd s x t tx ho e hby ht v xs hs xv hx hb.buf ys ?_ hlen ?_
  · rcases hxb with ⟨rfl, rfl⟩ | ⟨b, o, c, cs, e', fr, rfl, hbb, _, _, _, hcell⟩
    · exact Src.ofNil w htx 0
    · refine Src.ofSlice w htx _ _ _ _ (by rw [u8s_length, Nat.mul_one]) ?_ (u8s_one _)
      intro j u hu
      have hj : j < ys.length := by
        have := (List.getElem?_eq_some_iff.1 hu).1
        rwa [u8s_length] at this
      have : u = u8 ys[j] := by simpa [u8s, hj] using hu.symm
      subst this
      rw [Addr.add_lit]
      simp [World.cell?, hbb, hcell j hj]
  · intro v' w' k
    exact h v' w' (hb.trans k)
end

end Go.Proofs.YtcbliojofnigdaaGreatDoor
