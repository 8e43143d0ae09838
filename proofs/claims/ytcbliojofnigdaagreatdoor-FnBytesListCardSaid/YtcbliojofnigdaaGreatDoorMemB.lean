/- More laws on slices of bytes: made, copied into, written byte by byte. No program is named here. -/
import Derived.Test.YtcbliojofnigdaaGreatDoorMem
import Derived.OwnWalk
namespace Go.Proofs.YtcbliojofnigdaaGreatDoor
open Go

theorem Only.size_lt {p : Option (Nat × Nat × Nat)} {w w' : World} (h : Only p w w') {k : Nat} (hk : k < w.heap.size) : k < w'.heap.size := Nat.lt_of_lt_of_le hk h.size

/-- a byte is stored right behind what the slice holds -/
theorem App.store {W w : World} {V : Value} {b o n c : Nat} {xs : Bytes} (h : App W V w (.slice (some ⟨b, o, none⟩) n c) xs) (hn : xs.length = n) (hc : n < c) (x : UInt8) :
    App W V (w.setCell ⟨b, o + n, none⟩ (u8 x)) (.slice (some ⟨b, o, none⟩) (n + 1) c) (xs ++ [x]) := by
  subst hn
  refine h.trans ⟨?_, (show Only (some (b, o, c)) w _ from Only.setCell (Only.refl (some (b, o, c)) w) _ _ (by omega) (by omega)), .inl rfl⟩
  rcases h.buf with ⟨hv, _⟩ | ⟨b', o', c', cs, e, hv, hb, h1, h2, h3, h4⟩
  · cases hv
  · cases hv
    refine .inr ⟨b, o, c, cs.setIfInBounds (o + xs.length) (u8 x), e, by simp, heap_setCell_here (a := ⟨b, o + xs.length, none⟩) rfl hb, by simpa using h1, by simp; omega, h3, ?_⟩
    intro j hj
    simp only [List.length_append, List.length_cons, List.length_nil] at hj
    rw [Array.getElem?_setIfInBounds]
    by_cases hjx : j = xs.length
    · subst hjx
      have : o + xs.length < cs.size := by omega
      simp [this]
    · rw [if_neg (by omega), h4 j (by omega), List.getElem_append_left (by omega)]

theorem App.cellFree {W w : World} {V : Value} {b o n c : Nat} {xs : Bytes} (h : App W V w (.slice (some ⟨b, o, none⟩) n c) xs) (j : Nat) (hj : j < c) : ∃ u, w.cell? ⟨b, o + j, none⟩ = some u := by
  rcases h.buf with ⟨hv, _⟩ | ⟨b', o', c', cs, e, hv, hb, h1, h2, h3, h4⟩
  · cases hv
  · cases hv
    have : o + j < cs.size := by omega
    exact ⟨cs[o + j], by simp [World.cell?, hb, this]⟩

theorem App.frz {W w : World} {V : Value} {b o n c : Nat} {xs : Bytes} (h : App W V w (.slice (some ⟨b, o, none⟩) n c) xs) (j : Nat) : w.frozen? ⟨b, j, none⟩ = false := h.buf.frozen j

theorem Buf.len {w : World} {a : Option Addr} {n c : Nat} {xs : Bytes} (h : Buf w (.slice a n c) xs) : xs.length = n ∧ n ≤ c ∧ c ≤ maxLen := by
  rcases h with ⟨hv, rfl⟩ | ⟨b', o', c', cs, e, hv, hb, h1, h2, h3, h4⟩
  · cases hv; simp
  · cases hv; exact ⟨rfl, h2, h3⟩

/-- the same place, seen as holding less -/
theorem Buf.take {w : World} {b o n c : Nat} {xs : Bytes} (h : Buf w (.slice (some ⟨b, o, none⟩) n c) xs) (k : Nat) (hk : k ≤ n) : Buf w (.slice (some ⟨b, o, none⟩) k c) (xs.take k) := by
  rcases h with ⟨hv, _⟩ | ⟨b', o', c', cs, e, hv, hb, h1, h2, h3, h4⟩
  · cases hv
  · cases hv
    refine .inr ⟨b, o, c, cs, e, by simp; omega, hb, h1, by simp; omega, h3, fun j hj => ?_⟩
    simp only [List.length_take] at hj
    rw [h4 j (by omega)]
    simp

section
variable {P : Program}

/-- 'make([]byte, n)': n zeros in a new block. -/
theorem wpList_mk {ops : Array Oper} {rest : List Oper} {o : Oper} {a : Act} {Q : Exit → Act → World → Prop} {w : World} (hg : o.guard = none) (l c : Operand) (t : TypeId) (hop : o.op = Op.makeSlice t l c)
    (e : TypeId) (h1 : P.underlying t = some (.slice e)) (hby : (P.info? e).map (fun i => (i.zero, i.size, i.bytes)) = some (some (.int .u8 0), 1, 1))
    (kl kc : IntKind) (L C : Int) (n : Nat) (hl : a.eval l = .int kl L) (hc : a.eval c = .int kc C) (hL : L = (n : Int)) (hC : C = (n : Int)) (hr : Room n)
    (hK : ∀ w', Buf w' (.slice (some ⟨w.heap.size, 0, none⟩) n n) (List.replicate n 0) → Only none w w' → w.heap.size < w'.heap.size → wpList P ops Q rest (a.put o.dst (.slice (some ⟨w.heap.size, 0, none⟩) n n)) w') :
    wpList P ops Q (o :: rest) a w := by
  obtain ⟨i, hi, hz0, hz1, hz2⟩ := info_parts hby
  have hn : n ≤ 140737488355328 := hr
  refine wpList_make_full w hg l c t hop w.heap.size e i (.int .u8 0) 1 h1 hi hz0 hz1 kl kc L C n hl hc hL hC (by rw [hz2]; omega) (by unfold maxLen; omega) (Nat.le_refl _) ?_
  intro w' hown hgr
  have hO : Only none w w' := ⟨hgr.os, hgr.tape, hgr.output, hgr.size, fun k hk _ => hgr.block k hk (by simp), fun _ _ _ _ _ _ he => by cases he⟩
  rcases hown.2 with ⟨hv, _⟩ | ⟨g, cap, cur, hv, hb, hh, h2, h3, h4, h5⟩
  · cases hv
  · cases hv
    refine hK w' (.inr ⟨_, 0, n, cur, e, by simp, hh, by omega, by simp, h3, ?_⟩) hO (lt_of_heap hh)
    intro j hj
    rw [List.length_replicate] at hj
    have h6 : cur.toList[j]? = (madeCells (Value.cells (.int .u8 0)) (n * 1)).toList[j]? := by rw [← h5, List.getElem?_take, if_pos (by omega)]
    rw [Nat.zero_add, ← Array.getElem?_toList, h6]
    simp [madeCells, Value.cells, hj, u8, Nat.mod_one]

/-- 'copy(dst, src)' where dst is long enough. -/
theorem wpList_cp {ops : Array Oper} {rest : List Oper} {o : Oper} {a : Act} {Q : Exit → Act → World → Prop} {w : World} (hg : o.guard = none) (d s : Operand) (dT sT : TypeId)
    (ho : o.op = .call { callee := .builtin .copy, args := #[d, s], argTypes := #[dT, sT] }) (e : TypeId) (hu : P.underlying dT = some (.slice e)) (hsz : (P.info? e).map (·.size) = some 1)
    (b of n c : Nat) (xs : Bytes) (hd : a.eval d = .slice (some ⟨b, of, none⟩) n c) (hbuf : Buf w (.slice (some ⟨b, of, none⟩) n c) xs) (x : Value) (ys : Bytes) (hx : a.eval s = x) (hy : Buf w x ys) (hle : ys.length ≤ n)
    (hK : ∀ w', App w (.slice (some ⟨b, of, none⟩) n c) w' (.slice (some ⟨b, of, none⟩) ys.length c) ys → wpList P ops Q rest (a.put o.dst (goInt ys.length)) w') :
    wpList P ops Q (o :: rest) a w := by
  refine wpList_plain hg fun K hK' => ?_
  obtain ⟨b1, o1, c1, cs, e1, hv, hb, h1, h2, h3, h4⟩ := hbuf.resolve_left (by rintro ⟨h, _⟩; cases h)
  cases hv
  have hcs : ∀ j, j < (u8s ys).length → (w.cell? ⟨b, of + j, none⟩).isSome = true := by
    intro j hj
    rw [u8s_length] at hj
    simp [World.cell?, hb]
    omega
  have hfr : ∀ j, j < (u8s ys).length → w.frozen? ⟨b, of + j, none⟩ = false := by intro j _; simp [World.frozen?, hb]
  have hrun : ∃ w', (Builtin.copy_ #[dT, sT] o.type #[.slice (some ⟨b, of, none⟩) xs.length c, x]).run P w = .ok (goInt ys.length) w' ∧ w' = w.setCells b of (u8s ys) := by
    rcases hy with ⟨rfl, rfl⟩ | ⟨b2, o2, c2, cs2, e2, rfl, hb2, _, _, _, hcell⟩
    · exact ⟨w, run_copy_none (P := P) w dT sT o.type e _ _ _ _ _ _ hu hsz (by simp), rfl⟩
    · refine ⟨_, ?_, rfl⟩
      have := run_copy_cells (P := P) w dT sT o.type e b of xs.length c ⟨b2, o2, none⟩ ys.length c2 (u8s ys) hu hsz (by rw [u8s_length]; exact (Nat.min_eq_left hle).symm) ?_ hcs hfr (u8s_one _)
      · rw [u8s_length] at this
        exact this
      · intro j u hju
        have hj : j < ys.length := by
          have := (List.getElem?_eq_some_iff.1 hju).1
          rwa [u8s_length] at this
        rw [u8s_at _ _ hj] at hju
        cases hju
        rw [Addr.add_lit]
        simp [World.cell?, hb2, hcell j hj]
  obtain ⟨w', hrun, rfl⟩ := hrun
  unfold Oper.wp
  simp [execOp, ho, resolve, invoke, builtin, hd, hx, hrun, Result.andThen]
  refine hK' _ _ (hK _ ⟨.inr ⟨b, of, c, putAt cs of (u8s ys), e1, rfl, heap_setCells_here _ _ _ _ hb, by rw [putAt_size]; exact h1, by omega, h3, ?_⟩, ?_, .inl rfl⟩)
  · intro j hj
    rw [putAt_in (u8s ys) cs of j (by rw [u8s_length]; omega) (by rw [u8s_length]; exact hj)]
    simp [u8s]
  · exact (show Only (some (b, of, c)) w _ from Only.setCells (u8s ys) of (Only.refl (some (b, of, c)) w) (by omega) (by rw [u8s_length]; omega))
end

end Go.Proofs.YtcbliojofnigdaaGreatDoor
