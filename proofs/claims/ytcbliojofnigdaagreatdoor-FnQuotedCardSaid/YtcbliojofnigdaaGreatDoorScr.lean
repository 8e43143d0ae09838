/- A number's scratch buffer, written from its end: the printer's own, or a block of its own. fmtInteger's frame: 328 slots, ten of them known, written out again (printed by tools/gen_frame3.py). -/
import Derived.Test.YtcbliojofnigdaaGreatDoorPadB
import Derived.Test.YtcbliojofnigdaaGreatDoorFrame
namespace Go.Proofs.YtcbliojofnigdaaGreatDoor
open Go Go.Proofs Go.RowKit

/-- the scratch buffer of n bytes at place o of block k: from place i on it holds ys -/
structure Scr (b base : Nat) (w : World) (s : PS) (v : Value) (k o n i : Nat) (ys : Bytes) : Prop where
  pp : ∃ ib, PP b w s v ib
  len : i + ys.length = n
  own : (k = b ∧ o = 13 ∧ n = 68) ∨ (k ≠ b ∧ base ≤ k ∧ ∀ o1 c1, place v ≠ some (k, o1, c1))
  blk : ∃ cs e, w.heap[k]? = some (.cells cs e (0, 0)) ∧ o + n ≤ cs.size ∧ ∀ j (h : j < ys.length), cs[o + i + j]? = some (u8 ys[j])

section
variable {b base : Nat} {w : World} {s : PS} {v : Value} {k o n i : Nat} {ys : Bytes}

theorem Scr.free (h : Scr b base w s v k o n i ys) {j : Nat} (hj : j < n) : ∃ u, w.cell? ⟨k, o + j, none⟩ = some u := by
  obtain ⟨cs, e, h1, h2, _⟩ := h.blk
  have : o + j < cs.size := by omega
  exact ⟨cs[o + j], by simp [World.cell?, h1, this]⟩
theorem Scr.frz (h : Scr b base w s v k o n i ys) (j : Nat) : w.frozen? ⟨k, j, none⟩ = false := by
  obtain ⟨cs, e, h1, _⟩ := h.blk
  simp [World.frozen?, h1]
theorem Scr.at (h : Scr b base w s v k o n i ys) {j : Nat} (hj : j < ys.length) : w.cell? ⟨k, o + i + j, none⟩ = some (u8 ys[j]) := by
  obtain ⟨cs, e, h1, _, h3⟩ := h.blk
  simp [World.cell?, h1, h3 j hj]

theorem PP.setIb {ib : List Value} (h : PP b w s v ib) (j : Nat) (hj : j < 68) (u : Value) : PP b (w.setCell ⟨b, 13 + j, none⟩ u) s v (ib.set j u) := by
  refine h.set (13 + j) u (by simp [h.ibl]) ?_ h.buf h.far
  unfold ppCells
  rw [List.append_assoc, List.set_append_right _ _ (by simp), List.set_append_left _ _ (by simp [h.ibl]; omega)]
  simp

theorem Scr.store {i : Nat} (h : Scr b base w s v k o n (i + 1) ys) (y : UInt8) : Scr b base (w.setCell ⟨k, o + i, none⟩ (u8 y)) s v k o n i (y :: ys) := by
  obtain ⟨cs, e, h1, h2, h3⟩ := h.blk
  have hlen := h.len
  refine ⟨?_, by simp only [List.length_cons]; omega, h.own, ⟨cs.setIfInBounds (o + i) (u8 y), e, heap_setCell_here (a := ⟨k, o + i, none⟩) rfl h1, by simpa using h2, fun j hj => ?_⟩⟩
  · obtain ⟨ib, hp⟩ := h.pp
    rcases h.own with ⟨rfl, rfl, rfl⟩ | ⟨hk, _, hv⟩
    · exact ⟨_, hp.setIb i (by omega) (u8 y)⟩
    · exact ⟨ib, hp.only (p := some (k, o + i, 1)) ((Only.refl _ w).setCell (o + i) (u8 y) (Nat.le_refl _) (by omega)) (fun b' o' c' he => by
        cases he
        exact ⟨hk, fun b1 o1 c1 hpl he => hv o1 c1 (by rw [← he]; exact hpl)⟩)⟩
  · rw [Array.getElem?_setIfInBounds]
    cases j with
    | zero =>
      have : o + i < cs.size := by omega
      simp [this]
    | succ j =>
      rw [if_neg (by omega)]
      have := h3 j (by simpa using hj)
      rw [show o + i + (j + 1) = o + (i + 1) + j by omega, this]
      simp

theorem Scr.fr {w0 : World} {v0 : Value} {i : Nat} (h : Scr b w0.heap.size w s v k o n (i + 1) ys) (hf : Fr b w0 v0 w v) (y : UInt8) : Fr b w0 v0 (w.setCell ⟨k, o + i, none⟩ (u8 y)) v := by
  refine hf.only (p := some (k, o + i, 1)) ((Only.refl _ w).setCell (o + i) (u8 y) (Nat.le_refl _) (by omega)) (fun b' o' c' he => ?_)
  cases he
  rcases h.own with ⟨rfl, _, _⟩ | ⟨_, hb, _⟩
  · exact .inl rfl
  · exact .inr (.inr hb)

theorem Scr.start {ib : List Value} (h : PP b w s v ib) : Scr b base w s v b 13 68 68 [] :=
  ⟨⟨ib, h⟩, rfl, .inl ⟨rfl, rfl, rfl⟩, ⟨_, _, h.blk, by simp [ppCells, h.ibl], fun j hj => by simp at hj⟩⟩
theorem Scr.startNew {ib : List Value} {g : Nat} {xs : Bytes} (h : PP b w s v ib) (hb : Buf w (.slice (some ⟨g, 0, none⟩) n n) xs) (hg : g ≠ b) (hbase : base ≤ g) (hv : ∀ o1 c1, place v ≠ some (g, o1, c1)) : Scr b base w s v g 0 n n [] := by
  refine ⟨⟨ib, h⟩, by simp, .inr ⟨hg, hbase, hv⟩, ?_⟩
  rcases hb with ⟨h', _⟩ | ⟨b1, o1, c1, cs, e, h', hbb, h1, h2, h3, h4⟩
  · cases h'
  · cases h'
    exact ⟨cs, e, hbb, h1, fun j hj => by simp at hj⟩

theorem Scr.held (h : Scr b base w s v k o n i ys) (hn : n ≤ maxLen) : Held b w v (.slice (some ⟨k, o + i, none⟩) (n - i) (n - i)) ys := by
  obtain ⟨cs, e, h1, h2, h3⟩ := h.blk
  have hlen := h.len
  have e1 : n - i = ys.length := by omega
  refine ⟨.inr ⟨k, o + i, n - i, cs, e, (0, 0), by rw [e1], h1, by omega, by omega, by omega, fun j hj => h3 j hj⟩, fun k' o' c' he => ?_⟩
  cases he
  rcases h.own with ⟨rfl, rfl, rfl⟩ | ⟨hk, _, hv⟩
  · exact .inr ⟨rfl, show 13 ≤ 13 + i by omega, show 13 + i + (68 - i) ≤ 81 by omega⟩
  · exact .inl ⟨hk, hv⟩

/-- a flag of the printer is turned -/
theorem Scr.flag {s' : PS} {j : Nat} (h : Scr b base w s v k o n i ys) (u : Value) (hj : j < 13) (hp : ∀ ib, PP b w s v ib → PP b (w.setCell ⟨b, j, none⟩ u) s' v ib) : Scr b base (w.setCell ⟨b, j, none⟩ u) s' v k o n i ys := by
  obtain ⟨ib, hpp⟩ := h.pp
  obtain ⟨cs, e, h1, h2, h3⟩ := h.blk
  refine ⟨⟨ib, hp ib hpp⟩, h.len, h.own, ?_⟩
  rcases h.own with ⟨rfl, rfl, rfl⟩ | ⟨hk, _, _⟩
  · refine ⟨cs.setIfInBounds j u, e, heap_setCell_here (a := ⟨k, j, none⟩) rfl h1, by simpa using h2, fun j' hj' => ?_⟩
    rw [Array.getElem?_setIfInBounds, if_neg (by omega)]
    exact h3 j' hj'
  · refine ⟨cs, e, ?_, h2, h3⟩
    rw [heap_setCell_else _ ⟨b, j, none⟩ u k hk]
    exact h1
end

/-- what is known of the frame -/
structure Fi (p0 p1 p2 p3 p4 p5 s12 s13 s15 s17 : Value) (L : List Value) : Prop where
  len : L.length = 328
  h0 : L[0]? = some p0
  h1 : L[1]? = some p1
  h2 : L[2]? = some p2
  h3 : L[3]? = some p3
  h4 : L[4]? = some p4
  h5 : L[5]? = some p5
  h12 : L[12]? = some s12
  h13 : L[13]? = some s13
  h15 : L[15]? = some s15
  h17 : L[17]? = some s17

set_option maxRecDepth 100000 in
theorem spread328 (u : Nat → Value) : (List.range 328).map u = [u 0, u 1, u 2, u 3, u 4, u 5, u 6, u 7, u 8, u 9, u 10, u 11, u 12, u 13, u 14, u 15, u 16, u 17, u 18, u 19, u 20, u 21, u 22, u 23, u 24, u 25, u 26, u 27, u 28, u 29, u 30, u 31, u 32, u 33, u 34, u 35, u 36, u 37, u 38, u 39, u 40, u 41, u 42, u 43, u 44, u 45, u 46, u 47, u 48, u 49, u 50, u 51, u 52, u 53, u 54, u 55, u 56, u 57, u 58, u 59, u 60, u 61, u 62, u 63, u 64, u 65, u 66, u 67, u 68, u 69, u 70, u 71, u 72, u 73, u 74, u 75, u 76, u 77, u 78, u 79, u 80, u 81, u 82, u 83, u 84, u 85, u 86, u 87, u 88, u 89, u 90, u 91, u 92, u 93, u 94, u 95, u 96, u 97, u 98, u 99, u 100, u 101, u 102, u 103, u 104, u 105, u 106, u 107, u 108, u 109, u 110, u 111, u 112, u 113, u 114, u 115, u 116, u 117, u 118, u 119, u 120, u 121, u 122, u 123, u 124, u 125, u 126, u 127, u 128, u 129, u 130, u 131, u 132, u 133, u 134, u 135, u 136, u 137, u 138, u 139, u 140, u 141, u 142, u 143, u 144, u 145, u 146, u 147, u 148, u 149, u 150, u 151, u 152, u 153, u 154, u 155, u 156, u 157, u 158, u 159, u 160, u 161, u 162, u 163, u 164, u 165, u 166, u 167, u 168, u 169, u 170, u 171, u 172, u 173, u 174, u 175, u 176, u 177, u 178, u 179, u 180, u 181, u 182, u 183, u 184, u 185, u 186, u 187, u 188, u 189, u 190, u 191, u 192, u 193, u 194, u 195, u 196, u 197, u 198, u 199, u 200, u 201, u 202, u 203, u 204, u 205, u 206, u 207, u 208, u 209, u 210, u 211, u 212, u 213, u 214, u 215, u 216, u 217, u 218, u 219, u 220, u 221, u 222, u 223, u 224, u 225, u 226, u 227, u 228, u 229, u 230, u 231, u 232, u 233, u 234, u 235, u 236, u 237, u 238, u 239, u 240, u 241, u 242, u 243, u 244, u 245, u 246, u 247, u 248, u 249, u 250, u 251, u 252, u 253, u 254, u 255, u 256, u 257, u 258, u 259, u 260, u 261, u 262, u 263, u 264, u 265, u 266, u 267, u 268, u 269, u 270, u 271, u 272, u 273, u 274, u 275, u 276, u 277, u 278, u 279, u 280, u 281, u 282, u 283, u 284, u 285, u 286, u 287, u 288, u 289, u 290, u 291, u 292, u 293, u 294, u 295, u 296, u 297, u 298, u 299, u 300, u 301, u 302, u 303, u 304, u 305, u 306, u 307, u 308, u 309, u 310, u 311, u 312, u 313, u 314, u 315, u 316, u 317, u 318, u 319, u 320, u 321, u 322, u 323, u 324, u 325, u 326, u 327] := rfl

set_option maxRecDepth 100000 in
theorem Fi.open {p0 p1 p2 p3 p4 p5 s12 s13 s15 s17 : Value} {L : List Value} (h : Fi p0 p1 p2 p3 p4 p5 s12 s13 s15 s17 L) : ∃ u : Nat → Value, L = [p0, p1, p2, p3, p4, p5, u 6, u 7, u 8, u 9, u 10, u 11, s12, s13, u 14, s15, u 16, s17, u 18, u 19, u 20, u 21, u 22, u 23, u 24, u 25, u 26, u 27, u 28, u 29, u 30, u 31, u 32, u 33, u 34, u 35, u 36, u 37, u 38, u 39, u 40, u 41, u 42, u 43, u 44, u 45, u 46, u 47, u 48, u 49, u 50, u 51, u 52, u 53, u 54, u 55, u 56, u 57, u 58, u 59, u 60, u 61, u 62, u 63, u 64, u 65, u 66, u 67, u 68, u 69, u 70, u 71, u 72, u 73, u 74, u 75, u 76, u 77, u 78, u 79, u 80, u 81, u 82, u 83, u 84, u 85, u 86, u 87, u 88, u 89, u 90, u 91, u 92, u 93, u 94, u 95, u 96, u 97, u 98, u 99, u 100, u 101, u 102, u 103, u 104, u 105, u 106, u 107, u 108, u 109, u 110, u 111, u 112, u 113, u 114, u 115, u 116, u 117, u 118, u 119, u 120, u 121, u 122, u 123, u 124, u 125, u 126, u 127, u 128, u 129, u 130, u 131, u 132, u 133, u 134, u 135, u 136, u 137, u 138, u 139, u 140, u 141, u 142, u 143, u 144, u 145, u 146, u 147, u 148, u 149, u 150, u 151, u 152, u 153, u 154, u 155, u 156, u 157, u 158, u 159, u 160, u 161, u 162, u 163, u 164, u 165, u 166, u 167, u 168, u 169, u 170, u 171, u 172, u 173, u 174, u 175, u 176, u 177, u 178, u 179, u 180, u 181, u 182, u 183, u 184, u 185, u 186, u 187, u 188, u 189, u 190, u 191, u 192, u 193, u 194, u 195, u 196, u 197, u 198, u 199, u 200, u 201, u 202, u 203, u 204, u 205, u 206, u 207, u 208, u 209, u 210, u 211, u 212, u 213, u 214, u 215, u 216, u 217, u 218, u 219, u 220, u 221, u 222, u 223, u 224, u 225, u 226, u 227, u 228, u 229, u 230, u 231, u 232, u 233, u 234, u 235, u 236, u 237, u 238, u 239, u 240, u 241, u 242, u 243, u 244, u 245, u 246, u 247, u 248, u 249, u 250, u 251, u 252, u 253, u 254, u 255, u 256, u 257, u 258, u 259, u 260, u 261, u 262, u 263, u 264, u 265, u 266, u 267, u 268, u 269, u 270, u 271, u 272, u 273, u 274, u 275, u 276, u 277, u 278, u 279, u 280, u 281, u 282, u 283, u 284, u 285, u 286, u 287, u 288, u 289, u 290, u 291, u 292, u 293, u 294, u 295, u 296, u 297, u 298, u 299, u 300, u 301, u 302, u 303, u 304, u 305, u 306, u 307, u 308, u 309, u 310, u 311, u 312, u 313, u 314, u 315, u 316, u 317, u 318, u 319, u 320, u 321, u 322, u 323, u 324, u 325, u 326, u 327] := by
  obtain ⟨u, hu⟩ : ∃ u : Nat → Value, ∀ n, n < L.length → L[n]? = some (u n) := ⟨fun n => L[n]?.getD undef, fun n hn => by simp [hn]⟩
  refine ⟨u, ?_⟩
  have hl := h.len
  have e0 : u 0 = p0 := by have := hu 0 (by omega); rw [h.h0] at this; cases this; rfl
  have e1 : u 1 = p1 := by have := hu 1 (by omega); rw [h.h1] at this; cases this; rfl
  have e2 : u 2 = p2 := by have := hu 2 (by omega); rw [h.h2] at this; cases this; rfl
  have e3 : u 3 = p3 := by have := hu 3 (by omega); rw [h.h3] at this; cases this; rfl
  have e4 : u 4 = p4 := by have := hu 4 (by omega); rw [h.h4] at this; cases this; rfl
  have e5 : u 5 = p5 := by have := hu 5 (by omega); rw [h.h5] at this; cases this; rfl
  have e12 : u 12 = s12 := by have := hu 12 (by omega); rw [h.h12] at this; cases this; rfl
  have e13 : u 13 = s13 := by have := hu 13 (by omega); rw [h.h13] at this; cases this; rfl
  have e15 : u 15 = s15 := by have := hu 15 (by omega); rw [h.h15] at this; cases this; rfl
  have e17 : u 17 = s17 := by have := hu 17 (by omega); rw [h.h17] at this; cases this; rfl
  have e := list_spread L u hu
  rw [hl, spread328] at e
  rw [e, e0, e1, e2, e3, e4, e5, e12, e13, e15, e17]

end Go.Proofs.YtcbliojofnigdaaGreatDoor
