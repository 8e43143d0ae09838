/- The printer's state in memory: one block for the printer, one for its text; and what stays as it was. -/
import Derived.Test.YtcbliojofnigdaaGreatDoorProg
import Derived.Test.YtcbliojofnigdaaGreatDoorMem
import Derived.WalkSpells
import Derived.WalkLawsBesides
import Derived.Lib.Hide
import Derived.BigGuardPart
import Derived.BigQuiet
import Derived.Deep.QuietTactic
namespace Go.Proofs.YtcbliojofnigdaaGreatDoor
open Go Go.Proofs

/-- flags, width and precision -/
structure Fl where
  widP : Bool := false
  precP : Bool := false
  minus : Bool := false
  plus : Bool := false
  sharp : Bool := false
  space : Bool := false
  zero : Bool := false
  plusV : Bool := false
  sharpV : Bool := false
  wid : Int := 0
  prec : Int := 0

/-- the printer: its flags, three marks, its text -/
structure PS where
  fl : Fl
  reord : Bool
  good : Bool
  err : Bool
  out : Bytes

def ppCells (v : Value) (b : Nat) (s : PS) (ib : List Value) : List Value :=
  [v, .pointer (some ⟨b, 0, none⟩), .bool s.fl.widP, .bool s.fl.precP, .bool s.fl.minus, .bool s.fl.plus, .bool s.fl.sharp, .bool s.fl.space, .bool s.fl.zero, .bool s.fl.plusV, .bool s.fl.sharpV, .int .i64 s.fl.wid, .int .i64 s.fl.prec]
    ++ ib ++ [.bool s.reord, .bool s.good, .bool false, .bool s.err, .bool false, .slice none 0 0]

/-- In w the printer lies in block b, its text elsewhere. -/
structure PP (b : Nat) (w : World) (s : PS) (v : Value) (ib : List Value) : Prop where
  ibl : ib.length = 68
  blk : w.heap[b]? = some (.cells (ppCells v b s ib).toArray 127 (0, 0))
  buf : Buf w v s.out
  far : ∀ b' o c, place v = some (b', o, c) → b' ≠ b

/-- Nothing has changed but the printer's block and its text's; the text lies where it lay, or in a new block. -/
structure Fr (b : Nat) (w : World) (v : Value) (w' : World) (v' : Value) : Prop where
  os : w'.os = w.os
  tape : w'.tape = w.tape
  output : w'.output = w.output
  size : w.heap.size ≤ w'.heap.size
  same : ∀ k, k < w.heap.size → k ≠ b → (∀ o c, place v ≠ some (k, o, c)) → w'.heap[k]? = w.heap[k]?
  plc : ∀ k o c, place v' = some (k, o, c) → (∃ o1 c1, place v = some (k, o1, c1)) ∨ w.heap.size ≤ k

theorem Fr.refl (b : Nat) (w : World) (v : Value) : Fr b w v w v := ⟨rfl, rfl, rfl, Nat.le_refl _, fun _ _ _ _ => rfl, fun _k o c h => .inl ⟨o, c, h⟩⟩
theorem Fr.trans {b : Nat} {w w1 w2 : World} {v v1 v2 : Value} (h : Fr b w v w1 v1) (k : Fr b w1 v1 w2 v2) : Fr b w v w2 v2 := by
  refine ⟨k.os.trans h.os, k.tape.trans h.tape, k.output.trans h.output, Nat.le_trans h.size k.size, fun i hi hne hv => ?_, fun i o c hp => ?_⟩
  · refine (k.same i (Nat.lt_of_lt_of_le hi h.size) hne (fun o c hp => ?_)).trans (h.same i hi hne hv)
    rcases h.plc i o c hp with ⟨o1, c1, h1⟩ | h1
    · exact hv o1 c1 h1
    · omega
  · rcases k.plc i o c hp with ⟨o1, c1, h1⟩ | h1
    · exact h.plc i o1 c1 h1
    · exact .inr (Nat.le_trans h.size h1)
theorem Fr.only {b : Nat} {w0 w w1 : World} {v0 v : Value} {p : Option (Nat × Nat × Nat)} (h : Fr b w0 v0 w v) (k : Only p w w1) (hp : ∀ b' o c, p = some (b', o, c) → b' = b ∨ (∃ o c, place v = some (b', o, c)) ∨ w0.heap.size ≤ b') : Fr b w0 v0 w1 v := by
  refine ⟨k.os.trans h.os, k.tape.trans h.tape, k.output.trans h.output, Nat.le_trans h.size k.size, fun i hi hne hv => ?_, h.plc⟩
  refine (k.other i (Nat.lt_of_lt_of_le hi h.size) (fun b' o c he => ?_)).trans (h.same i hi hne hv)
  rcases hp b' o c he with h1 | ⟨o1, c1, h1⟩ | h1
  · omega
  · rintro rfl
    rcases h.plc i o1 c1 h1 with ⟨o2, c2, h2⟩ | h2
    · exact hv o2 c2 h2
    · omega
  · omega
theorem Fr.alloc {b : Nat} {w0 w : World} {v0 v : Value} (h : Fr b w0 v0 w v) (o : Obj) : Fr b w0 v0 (w.alloc o) v := h.only ((Only.refl none w).alloc o) (fun _ _ _ he => by cases he)
theorem Only.drewN {p : Option (Nat × Nat × Nat)} {w0 w : World} (h : Only p w0 w) (q : Nat) : Only p w0 (w.drewN q) :=
  h.trans (Only.none ⟨rfl, rfl, rfl, Nat.le_refl _, fun _ _ _ => rfl, fun _ _ _ _ _ _ he => by cases he⟩)
theorem Fr.drew {b : Nat} {w0 w : World} {v0 v : Value} (h : Fr b w0 v0 w v) : Fr b w0 v0 w.drew v := h.only ((Only.refl none w).drew) (fun _ _ _ he => by cases he)
theorem Fr.drewN {b : Nat} {w0 w : World} {v0 v : Value} (h : Fr b w0 v0 w v) (q : Nat) : Fr b w0 v0 (w.drewN q) v := h.only ((Only.refl none w).drewN q) (fun _ _ _ he => by cases he)
theorem Fr.setB {b : Nat} {w0 w : World} {v0 v : Value} (h : Fr b w0 v0 w v) (j : Nat) (u : Value) : Fr b w0 v0 (w.setCell ⟨b, j, none⟩ u) v :=
  h.only (p := some (b, j, 1)) ((Only.refl _ w).setCell j u (by omega) (by omega)) (fun _ _ _ he => by cases he; exact .inl rfl)
theorem Fr.app {b : Nat} {w0 w w1 : World} {v0 v v1 : Value} {ys : Bytes} (h : Fr b w0 v0 w v) (k : App w v w1 v1 ys) : Fr b w0 v0 w1 v1 := by
  have h1 := h.only k.only (fun b' o c hp => .inr (.inl ⟨o, c, hp⟩))
  refine ⟨h1.os, h1.tape, h1.output, h1.size, h1.same, fun i o c hp => ?_⟩
  rcases k.plc with kp | ⟨b2, o2, c2, kp, kb⟩
  · rw [kp] at hp
    exact h.plc i o c hp
  · rw [kp] at hp
    cases hp
    exact .inr (Nat.le_trans h.size kb)
theorem Fr.cell {b : Nat} {w w' : World} {v v' : Value} (h : Fr b w v w' v') {a : Addr} (h1 : a.block < w.heap.size) (h2 : a.block ≠ b) (h3 : ∀ o c, place v ≠ some (a.block, o, c)) : w'.cell? a = w.cell? a := World.cell?_of_block (h.same a.block h1 h2 h3)

section
variable {b : Nat} {w w' : World} {s : PS} {v : Value} {ib : List Value}

theorem PP.lt (h : PP b w s v ib) : b < w.heap.size := lt_of_heap h.blk
theorem PP.cellAt (h : PP b w s v ib) (j : Nat) : w.cell? ⟨b, j, none⟩ = (ppCells v b s ib)[j]? := by
  simp [World.cell?, h.blk]
theorem PP.frz (h : PP b w s v ib) (j : Nat) : w.frozen? ⟨b, j, none⟩ = false := by simp [World.frozen?, h.blk]
theorem PP.c0 (h : PP b w s v ib) : w.cell? ⟨b, 0, none⟩ = some v := h.cellAt 0
theorem PP.c1 (h : PP b w s v ib) : w.cell? ⟨b, 1, none⟩ = some (.pointer (some ⟨b, 0, none⟩)) := h.cellAt 1
theorem PP.c2 (h : PP b w s v ib) : w.cell? ⟨b, 2, none⟩ = some (.bool s.fl.widP) := h.cellAt 2
theorem PP.c3 (h : PP b w s v ib) : w.cell? ⟨b, 3, none⟩ = some (.bool s.fl.precP) := h.cellAt 3
theorem PP.c4 (h : PP b w s v ib) : w.cell? ⟨b, 4, none⟩ = some (.bool s.fl.minus) := h.cellAt 4
theorem PP.c5 (h : PP b w s v ib) : w.cell? ⟨b, 5, none⟩ = some (.bool s.fl.plus) := h.cellAt 5
theorem PP.c6 (h : PP b w s v ib) : w.cell? ⟨b, 6, none⟩ = some (.bool s.fl.sharp) := h.cellAt 6
theorem PP.c7 (h : PP b w s v ib) : w.cell? ⟨b, 7, none⟩ = some (.bool s.fl.space) := h.cellAt 7
theorem PP.c8 (h : PP b w s v ib) : w.cell? ⟨b, 8, none⟩ = some (.bool s.fl.zero) := h.cellAt 8
theorem PP.c9 (h : PP b w s v ib) : w.cell? ⟨b, 9, none⟩ = some (.bool s.fl.plusV) := h.cellAt 9
theorem PP.c10 (h : PP b w s v ib) : w.cell? ⟨b, 10, none⟩ = some (.bool s.fl.sharpV) := h.cellAt 10
theorem PP.c11 (h : PP b w s v ib) : w.cell? ⟨b, 11, none⟩ = some (.int .i64 s.fl.wid) := h.cellAt 11
theorem PP.c12 (h : PP b w s v ib) : w.cell? ⟨b, 12, none⟩ = some (.int .i64 s.fl.prec) := h.cellAt 12
theorem PP.tailAt (h : PP b w s v ib) (j : Nat) : w.cell? ⟨b, 81 + j, none⟩ = [Value.bool s.reord, .bool s.good, .bool false, .bool s.err, .bool false, .slice none 0 0][j]? := by
  rw [h.cellAt, ppCells, List.getElem?_append_right (by simp [h.ibl])]
  simp [h.ibl]
theorem PP.c81 (h : PP b w s v ib) : w.cell? ⟨b, 81, none⟩ = some (.bool s.reord) := h.tailAt 0
theorem PP.c82 (h : PP b w s v ib) : w.cell? ⟨b, 82, none⟩ = some (.bool s.good) := h.tailAt 1
theorem PP.c83 (h : PP b w s v ib) : w.cell? ⟨b, 83, none⟩ = some (.bool false) := h.tailAt 2
theorem PP.c84 (h : PP b w s v ib) : w.cell? ⟨b, 84, none⟩ = some (.bool s.err) := h.tailAt 3
theorem PP.c85 (h : PP b w s v ib) : w.cell? ⟨b, 85, none⟩ = some (.bool false) := h.tailAt 4
theorem PP.c86 (h : PP b w s v ib) : w.cell? ⟨b, 86, none⟩ = some (.slice none 0 0) := h.tailAt 5

/-- a store into the printer's block -/
theorem PP.set (h : PP b w s v ib) (j : Nat) (u : Value) {s' : PS} {v' : Value} {ib' : List Value} (hl : ib'.length = 68) (he : (ppCells v b s ib).set j u = ppCells v' b s' ib') (hb : Buf w v' s'.out)
    (hf : ∀ b' o c, place v' = some (b', o, c) → b' ≠ b) : PP b (w.setCell ⟨b, j, none⟩ u) s' v' ib' := by
  refine ⟨hl, ?_, ?_, hf⟩
  · rw [heap_setCell_here (a := ⟨b, j, none⟩) rfl h.blk, ← he]
    simp
  · rcases hb with hb | ⟨b', o, c, cs, e, hv, hbb, hr⟩
    · exact .inl hb
    · refine .inr ⟨b', o, c, cs, e, hv, ?_, hr⟩
      rw [heap_setCell_else]
      · exact hbb
      · exact hf b' o c (by rw [hv]; rfl)

theorem PP.setHead (h : PP b w s v ib) (j : Nat) (hj : j < 13) (u : Value) {s' : PS} (hout : s'.out = s.out) (he : ([v, .pointer (some ⟨b, 0, none⟩), .bool s.fl.widP, .bool s.fl.precP, .bool s.fl.minus, .bool s.fl.plus, .bool s.fl.sharp, .bool s.fl.space, .bool s.fl.zero, .bool s.fl.plusV, .bool s.fl.sharpV, .int .i64 s.fl.wid, .int .i64 s.fl.prec] : List Value).set j u =
    [v, .pointer (some ⟨b, 0, none⟩), .bool s'.fl.widP, .bool s'.fl.precP, .bool s'.fl.minus, .bool s'.fl.plus, .bool s'.fl.sharp, .bool s'.fl.space, .bool s'.fl.zero, .bool s'.fl.plusV, .bool s'.fl.sharpV, .int .i64 s'.fl.wid, .int .i64 s'.fl.prec])
    (ht : s'.reord = s.reord ∧ s'.good = s.good ∧ s'.err = s.err) : PP b (w.setCell ⟨b, j, none⟩ u) s' v ib := by
  refine h.set j u h.ibl ?_ (by rw [hout]; exact h.buf) h.far
  unfold ppCells
  rw [List.append_assoc, List.append_assoc, List.set_append_left _ _ (by simpa using hj), he, ht.1, ht.2.1, ht.2.2]
theorem PP.setTail (h : PP b w s v ib) (j : Nat) (u : Value) {s' : PS} (hout : s'.out = s.out) (hfl : s'.fl = s.fl) (he : ([.bool s.reord, .bool s.good, .bool false, .bool s.err, .bool false, .slice none 0 0] : List Value).set j u = [.bool s'.reord, .bool s'.good, .bool false, .bool s'.err, .bool false, .slice none 0 0]) :
    PP b (w.setCell ⟨b, 81 + j, none⟩ u) s' v ib := by
  refine h.set (81 + j) u h.ibl ?_ (by rw [hout]; exact h.buf) h.far
  unfold ppCells
  rw [List.set_append_right _ _ (by simp [h.ibl])]
  rw [show 81 + j - ([v, .pointer (some ⟨b, 0, none⟩), .bool s.fl.widP, .bool s.fl.precP, .bool s.fl.minus, .bool s.fl.plus, .bool s.fl.sharp, .bool s.fl.space, .bool s.fl.zero, .bool s.fl.plusV, .bool s.fl.sharpV, .int .i64 s.fl.wid, .int .i64 s.fl.prec] ++ ib).length = j by simp [h.ibl], he, hfl]
theorem PP.setReord (h : PP b w s v ib) (x : Bool) : PP b (w.setCell ⟨b, 81, none⟩ (.bool x)) { s with reord := x } v ib := h.setTail 0 _ rfl rfl rfl
theorem PP.setGood (h : PP b w s v ib) (x : Bool) : PP b (w.setCell ⟨b, 82, none⟩ (.bool x)) { s with good := x } v ib := h.setTail 1 _ rfl rfl rfl
theorem PP.setErr (h : PP b w s v ib) (x : Bool) : PP b (w.setCell ⟨b, 84, none⟩ (.bool x)) { s with err := x } v ib := h.setTail 3 _ rfl rfl rfl
theorem PP.setWidP (h : PP b w s v ib) (x : Bool) : PP b (w.setCell ⟨b, 2, none⟩ (.bool x)) { s with fl := { s.fl with widP := x } } v ib := h.setHead 2 (by decide) _ rfl rfl ⟨rfl, rfl, rfl⟩
theorem PP.setPrecP (h : PP b w s v ib) (x : Bool) : PP b (w.setCell ⟨b, 3, none⟩ (.bool x)) { s with fl := { s.fl with precP := x } } v ib := h.setHead 3 (by decide) _ rfl rfl ⟨rfl, rfl, rfl⟩
theorem PP.setMinus (h : PP b w s v ib) (x : Bool) : PP b (w.setCell ⟨b, 4, none⟩ (.bool x)) { s with fl := { s.fl with minus := x } } v ib := h.setHead 4 (by decide) _ rfl rfl ⟨rfl, rfl, rfl⟩
theorem PP.setPlus (h : PP b w s v ib) (x : Bool) : PP b (w.setCell ⟨b, 5, none⟩ (.bool x)) { s with fl := { s.fl with plus := x } } v ib := h.setHead 5 (by decide) _ rfl rfl ⟨rfl, rfl, rfl⟩
theorem PP.setSharp (h : PP b w s v ib) (x : Bool) : PP b (w.setCell ⟨b, 6, none⟩ (.bool x)) { s with fl := { s.fl with sharp := x } } v ib := h.setHead 6 (by decide) _ rfl rfl ⟨rfl, rfl, rfl⟩
theorem PP.setSpace (h : PP b w s v ib) (x : Bool) : PP b (w.setCell ⟨b, 7, none⟩ (.bool x)) { s with fl := { s.fl with space := x } } v ib := h.setHead 7 (by decide) _ rfl rfl ⟨rfl, rfl, rfl⟩
theorem PP.setZero (h : PP b w s v ib) (x : Bool) : PP b (w.setCell ⟨b, 8, none⟩ (.bool x)) { s with fl := { s.fl with zero := x } } v ib := h.setHead 8 (by decide) _ rfl rfl ⟨rfl, rfl, rfl⟩
theorem PP.setPlusV (h : PP b w s v ib) (x : Bool) : PP b (w.setCell ⟨b, 9, none⟩ (.bool x)) { s with fl := { s.fl with plusV := x } } v ib := h.setHead 9 (by decide) _ rfl rfl ⟨rfl, rfl, rfl⟩
theorem PP.setSharpV (h : PP b w s v ib) (x : Bool) : PP b (w.setCell ⟨b, 10, none⟩ (.bool x)) { s with fl := { s.fl with sharpV := x } } v ib := h.setHead 10 (by decide) _ rfl rfl ⟨rfl, rfl, rfl⟩
theorem PP.setWid (h : PP b w s v ib) (x : Int) : PP b (w.setCell ⟨b, 11, none⟩ (.int .i64 x)) { s with fl := { s.fl with wid := x } } v ib := h.setHead 11 (by decide) _ rfl rfl ⟨rfl, rfl, rfl⟩
theorem PP.setPrec (h : PP b w s v ib) (x : Int) : PP b (w.setCell ⟨b, 12, none⟩ (.int .i64 x)) { s with fl := { s.fl with prec := x } } v ib := h.setHead 12 (by decide) _ rfl rfl ⟨rfl, rfl, rfl⟩

/-- what has been appended to the text -/
theorem PP.text (h : PP b w s v ib) {v' : Value} {ys : Bytes} (k : App w v w' v' ys) : PP b (w'.setCell ⟨b, 0, none⟩ v') { s with out := ys } v' ib ∧ Fr b w v (w'.setCell ⟨b, 0, none⟩ v') v' := by
  have hb : w'.heap[b]? = w.heap[b]? := k.only.other b h.lt (fun b' o c hp => fun e => h.far b' o c hp e.symm)
  have hfar : ∀ b' o c, place v' = some (b', o, c) → b' ≠ b := by
    intro b' o c hp
    rcases k.plc with h1 | ⟨b1, o1, c1, h1, h2⟩
    · exact h.far b' o c (h1.symm.trans hp)
    · rw [h1] at hp
      cases hp
      have := h.lt
      omega
  refine ⟨⟨h.ibl, ?_, ?_, hfar⟩, ((Fr.refl b w v).app k).setB 0 v'⟩
  · rw [heap_setCell_here (a := ⟨b, 0, none⟩) rfl (by rw [hb]; exact h.blk)]
    simp [ppCells]
  · rcases k.buf with hb' | ⟨b', o, c, cs, e, hv, hbb, hr⟩
    · exact .inl hb'
    · refine .inr ⟨b', o, c, cs, e, hv, ?_, hr⟩
      rw [heap_setCell_else]
      · exact hbb
      · exact hfar b' o c (by rw [hv]; rfl)

/-- what lies outside the printer may have grown -/
theorem PP.only (h : PP b w s v ib) {p : Option (Nat × Nat × Nat)} (k : Only p w w') (hp : ∀ b' o c, p = some (b', o, c) → b' ≠ b ∧ ∀ b1 o1 c1, place v = some (b1, o1, c1) → b1 ≠ b') : PP b w' s v ib :=
  ⟨h.ibl, by rw [k.other b h.lt (fun b' o c he => fun e => (hp b' o c he).1 e.symm)]; exact h.blk,
    h.buf.only k (fun b1 o1 c1 b' o' c' he hv => (hp b1 o1 c1 he).2 b' o' c' hv), h.far⟩
theorem PP.alloc (h : PP b w s v ib) (o : Obj) : PP b (w.alloc o) s v ib := h.only ((Only.refl none w).alloc o) (fun _ _ _ he => by cases he)
theorem PP.drew (h : PP b w s v ib) : PP b w.drew s v ib := h.only ((Only.refl none w).drew) (fun _ _ _ he => by cases he)
theorem PP.drewN (h : PP b w s v ib) (q : Nat) : PP b (w.drewN q) s v ib := h.only ((Only.refl none w).drewN q) (fun _ _ _ he => by cases he)
/-- the number buffer alone was written -/
theorem PP.onlyIb (h : PP b w s v ib) {o c : Nat} (k : Only (some (b, o, c)) w w') (h1 : 13 ≤ o) (h2 : o + c ≤ 81) : ∃ ib', PP b w' s v ib' := by
  obtain ⟨cs', g1, g2, g3⟩ := k.here b o c _ _ _ rfl h.blk
  have hlen : (ppCells v b s ib).length = 87 := by simp [ppCells, h.ibl]
  simp only [List.size_toArray, hlen] at g2
  have hget : ∀ j, (j < o ∨ o + c ≤ j) → cs'.toList[j]? = (ppCells v b s ib)[j]? := by
    intro j hj
    have := g3 j hj
    simpa using this
  refine ⟨(cs'.toList.drop 13).take 68, ⟨by simp [g2], ?_, ?_, h.far⟩⟩
  · rw [g1]
    congr 2
    have htl : (ppCells v b s ((cs'.toList.drop 13).take 68)) = cs'.toList := by
      apply List.ext_getElem?
      intro j
      by_cases hj1 : j < 13
      · rw [hget j (by omega)]
        unfold ppCells
        rw [List.append_assoc, List.append_assoc, List.getElem?_append_left (by simpa using hj1), List.getElem?_append_left (by simpa using hj1)]
      · by_cases hj2 : j < 81
        · unfold ppCells
          rw [List.append_assoc, List.getElem?_append_right (by simp; omega), List.getElem?_append_left (by simp [g2]; omega)]
          simp only [List.length_cons, List.length_nil]
          rw [List.getElem?_take, if_pos (by omega), List.getElem?_drop]
          congr 1
          omega
        · rw [hget j (by omega)]
          unfold ppCells
          rw [List.getElem?_append_right (by simp [g2]; omega), List.getElem?_append_right (by simp [h.ibl]; omega)]
          simp [g2, h.ibl]
    rw [htl]
  · exact h.buf.only k (fun b1 o1 c1 b' o' c' he hv => by cases he; exact h.far b' o' c' hv)
end

theorem App.slice {w w' : World} {v v' : Value} {ys : Bytes} (h : App w v w' v' ys) : ∃ a n c, v' = .slice a n c := by
  rcases h.buf with ⟨rfl, rfl⟩ | ⟨b, o, c, cs, e, rfl, _⟩
  · exact ⟨none, 0, 0, rfl⟩
  · exact ⟨_, _, _, rfl⟩
theorem Buf.slice {w : World} {v : Value} {ys : Bytes} (h : Buf w v ys) : ∃ a n c, v = .slice a n c := (App.refl h).slice
/-- the printer's block is as it was behind an append to its text -/
theorem PP.still {b : Nat} {w w' : World} {s : PS} {v v' : Value} {ib : List Value} {ys : Bytes} (h : PP b w s v ib) (k : App w v w' v' ys) : w'.heap[b]? = w.heap[b]? :=
  k.only.other b h.lt (fun b' o c hp => fun e => h.far b' o c hp e.symm)
theorem PP.still0 {b : Nat} {w w' : World} {s : PS} {v v' : Value} {ib : List Value} {ys : Bytes} (h : PP b w s v ib) (k : App w v w' v' ys) : w'.cell? ⟨b, 0, none⟩ = some v := by
  rw [World.cell?_of_block (a := ⟨b, 0, none⟩) (h.still k)]; exact h.c0
theorem PP.stillf {b : Nat} {w w' : World} {s : PS} {v v' : Value} {ib : List Value} {ys : Bytes} (h : PP b w s v ib) (k : App w v w' v' ys) (j : Nat) : w'.frozen? ⟨b, j, none⟩ = false := by
  rw [World.frozen?_of_block (a := ⟨b, j, none⟩) (h.still k)]; exact h.frz j

/-- a slice x that holds the bytes t: it lies neither in the printer's block nor in its text's, or in the printer's number buffer -/
def Held (b : Nat) (w : World) (v : Value) (x : Value) (t : Bytes) : Prop :=
  RBuf w x t ∧ ∀ k o c, place x = some (k, o, c) → (k ≠ b ∧ ∀ o1 c1, place v ≠ some (k, o1, c1)) ∨ (k = b ∧ 13 ≤ o ∧ o + c ≤ 81)

theorem getElem?_mid {A M C : List Value} {j : Nat} (h1 : A.length ≤ j) (h2 : j < A.length + M.length) : (A ++ M ++ C)[j]? = M[j - A.length]? := by
  rw [List.append_assoc, List.getElem?_append_right h1, List.getElem?_append_left (by omega)]

theorem ppCells_mid {v : Value} {b : Nat} {s : PS} {ib : List Value} (hl : ib.length = 68) (j : Nat) (h1 : 13 ≤ j) (h2 : j < 81) : (ppCells v b s ib)[j]? = ib[j - 13]? :=
  getElem?_mid (by simpa using h1) (by simp [hl]; omega)

theorem ppCells_ib {v v' : Value} {b : Nat} {s s' : PS} {ib : List Value} (hl : ib.length = 68) (j : Nat) (h1 : 13 ≤ j) (h2 : j < 81) : (ppCells v' b s' ib)[j]? = (ppCells v b s ib)[j]? := by
  rw [ppCells_mid hl j h1 h2, ppCells_mid hl j h1 h2]

theorem Held.step {b : Nat} {w w' : World} {s s' : PS} {v v' : Value} {ib : List Value} {x : Value} {t : Bytes} (h : Held b w v x t) (hp : PP b w s v ib) (hp' : PP b w' s' v' ib) (hf : Fr b w v w' v') : Held b w' v' x t := by
  obtain ⟨hb, hq⟩ := h
  rcases hb with ⟨rfl, rfl⟩ | ⟨k, o, c, cs, e, fr, rfl, hbb, h1, h2, h3, h4⟩
  · exact ⟨.inl ⟨rfl, rfl⟩, fun _ _ _ he => by cases he⟩
  · rcases hq k o c rfl with ⟨q1, q2⟩ | ⟨q1, q2, q3⟩
    · refine ⟨.inr ⟨k, o, c, cs, e, fr, rfl, by rw [hf.same k (lt_of_heap hbb) q1 q2]; exact hbb, h1, h2, h3, h4⟩, fun k' o' c' he => ?_⟩
      cases he
      refine .inl ⟨q1, fun o1 c1 hv => ?_⟩
      rcases hf.plc k o1 c1 hv with ⟨o2, c2, h5⟩ | h5
      · exact q2 o2 c2 h5
      · have := lt_of_heap hbb
        omega
    · subst q1
      have hbk := hp.blk
      rw [hbb] at hbk
      cases hbk
      refine ⟨.inr ⟨k, o, c, (ppCells v' k s' ib).toArray, 127, (0, 0), rfl, hp'.blk, ?_, h2, h3, fun j hj => ?_⟩, fun k' o' c' he => ?_⟩
      · simp [ppCells, hp.ibl]; omega
      · have := h4 j hj
        simp only [List.getElem?_toArray] at this ⊢
        rw [ppCells_ib (v := v) (s := s) hp.ibl (o + j) (by omega) (by omega)]
        exact this
      · cases he
        exact .inr ⟨rfl, q2, q3⟩

/-- what was appended to the printer's number buffer lies there, or in a new block -/
theorem PP.held {b : Nat} {w w' : World} {s : PS} {v v' : Value} {ib : List Value} {n : Nat} {ys : Bytes} (h : PP b w s v ib) (k : App w (.slice (some ⟨b, 13, none⟩) n 68) w' v' ys) : (∃ ib', PP b w' s v ib') ∧ Held b w' v v' ys ∧ Fr b w v w' v := by
  have ho : Only (some (b, 13, 68)) w w' := k.only
  refine ⟨h.onlyIb ho (by omega) (by omega), ⟨k.buf.rbuf, fun k' o c hp => ?_⟩, (Fr.refl b w v).only ho (fun b' o c he => by cases he; exact .inl rfl)⟩
  rcases k.plc with hk | ⟨b2, o2, c2, hk, hb2⟩
  · rw [hk] at hp
    cases hp
    exact .inr ⟨rfl, Nat.le_refl _, Nat.le_refl _⟩
  · rw [hk] at hp
    cases hp
    refine .inl ⟨by have := h.lt; omega, fun o1 c1 hv => ?_⟩
    have := h.buf.place_lt hv
    omega
/-- the number buffer, as a slice that holds nothing -/
theorem PP.ibBuf {b : Nat} {w : World} {s : PS} {v : Value} {ib : List Value} (h : PP b w s v ib) : Buf w (.slice (some ⟨b, 13, none⟩) 0 68) [] :=
  .inr ⟨b, 13, 68, _, 127, rfl, h.blk, by simp [ppCells, h.ibl], by decide, by decide, fun j hj => by simp at hj⟩

/-- the printer's text has become longer by t; all else of it is as it was -/
def Wrote (b : Nat) (w : World) (s : PS) (v : Value) (ib : List Value) (t : Bytes) (e : Ending) (w' : World) : Prop :=
  e = .returned (.tuple #[]) ∧ ∃ v', PP b w' { s with out := s.out ++ t } v' ib ∧ Fr b w v w' v'
/-- the same; the number buffer may have been written -/
def WroteI (b : Nat) (w : World) (s : PS) (v : Value) (t : Bytes) (e : Ending) (w' : World) : Prop :=
  e = .returned (.tuple #[]) ∧ ∃ v' ib', PP b w' { s with out := s.out ++ t } v' ib' ∧ Fr b w v w' v'

theorem byte5 : (Tryz.prog.info? 5).map (fun i => (i.zero, i.size, i.bytes)) = some (some (.int .u8 0), 1, 1) := by kernel_rfl

end Go.Proofs.YtcbliojofnigdaaGreatDoor
