/- The printer's four ways to write: a string, a byte, bytes, a rune. -/
import Derived.Test.YtcbliojofnigdaaGreatDoorRune
namespace Go.Proofs.YtcbliojofnigdaaGreatDoor
open Go Go.Proofs

set_option maxRecDepth 100000 in
set_option maxHeartbeats 400000 in
theorem writeString_any {b : Nat} {w : World} {s : PS} {v : Value} {ib : List Value} (h : PP b w s v ib) (t : ByteArray) (hl : Room (s.out.length + t.size)) :
    Calls Tryz.prog 76 #[.pointer (some ⟨b, 0, none⟩), .string t] w (Wrote b w s v ib t.data.toList) := by
  have hc := h.c0
  go_enter Tryz.func76, Tryz.ntmps76
  go_wp2_with (at_builtin; refine wpList_app_str rfl (.tmp 7) (.tmp 8) 119 9 rfl 5 byte5 Tryz.underlying119 Tryz.underlying9 v s.out rfl t rfl w v (App.refl h.buf) hl ?_)
  intro v' w' k
  obtain ⟨a', n', c', rfl⟩ := k.slice
  have hc' := h.still0 k
  have hf' := h.stillf k 0
  have R := h.text k
  clear hc k
  go_wp2
  go_end0
  exact ⟨rfl, _, R.1, R.2⟩

set_option maxRecDepth 100000 in
set_option maxHeartbeats 400000 in
theorem writeByte_any {b : Nat} {w : World} {s : PS} {v : Value} {ib : List Value} (h : PP b w s v ib) (c : Int) (h0 : 0 ≤ c) (h1 : c ≤ 255) (hl : Room (s.out.length + 1)) :
    Calls Tryz.prog 83 #[.pointer (some ⟨b, 0, none⟩), .int .u8 c] w (Wrote b w s v ib [B c]) := by
  have hc := h.c0
  have hcs : ∀ x ∈ [c], 0 ≤ x ∧ x ≤ 255 := by intro x hx; simp at hx; subst hx; exact ⟨h0, h1⟩
  have HC := Lib.hid hcs
  clear hcs
  go_enter Tryz.func83, Tryz.ntmps83
  go_wp2_with (at_builtin; refine wpList_app_lit rfl (.tmp 7) (.tmp 9) 119 rfl 5 byte5 Tryz.underlying119 v s.out rfl [c] 1 rfl rfl w v (App.refl h.buf) 5 _ rfl HC.out hl ?_)
  intro v' w' k
  obtain ⟨a', n', c', rfl⟩ := k.slice
  have hc' := h.still0 k
  have hf' := h.stillf k 0
  have R := h.text k
  clear hc k
  go_wp2
  go_end0
  exact ⟨rfl, _, R.1, R.2⟩

set_option maxRecDepth 100000 in
set_option maxHeartbeats 400000 in
theorem write_any {b : Nat} {w : World} {s : PS} {v : Value} {ib : List Value} (h : PP b w s v ib) (x : Value) (t : Bytes) (hx : RBuf w x t) (hl : Room (s.out.length + t.length)) :
    Calls Tryz.prog 123 #[.pointer (some ⟨b, 0, none⟩), x] w (Wrote b w s v ib t) := by
  have hc := h.c0
  go_enter Tryz.func123, Tryz.ntmps123
  go_wp2_with (at_builtin; refine wpList_app_buf rfl (.tmp 7) (.tmp 8) 119 26 rfl 5 byte5 Tryz.underlying119 Tryz.underlying26 v s.out rfl x rfl t hx w v (App.refl h.buf) hl ?_)
  intro v' w' k
  obtain ⟨a', n', c', rfl⟩ := k.slice
  have hc' := h.still0 k
  have hf' := h.stillf k 0
  have R := h.text k
  clear hc k
  go_wp2
  go_end0
  exact ⟨rfl, _, R.1, R.2⟩

set_option maxRecDepth 100000 in
set_option maxHeartbeats 400000 in
theorem writeRune_any {b : Nat} {w : World} {s : PS} {v : Value} {ib : List Value} (h : PP b w s v ib) (r : Int) (h1 : -2147483648 ≤ r) (h2 : r ≤ 2147483647) (hl : Room (s.out.length + 4)) :
    Calls Tryz.prog 103 #[.pointer (some ⟨b, 0, none⟩), .int .i32 r] w (Wrote b w s v ib (encB r)) := by
  have hc := h.c0
  go_enter Tryz.func103, Tryz.ntmps103
  go_wp2_with (go_at_call 120; refine (AppendRune_any (App.refl h.buf) r h1 h2 hl).mono ?_)
  rintro e w' ⟨v', rfl, k⟩
  obtain ⟨a', n', c', rfl⟩ := k.slice
  have hc' := h.still0 k
  have hf' := h.stillf k 0
  have R := h.text k
  clear hc k
  go_wp2
  go_end0
  exact ⟨rfl, _, R.1, R.2⟩

end Go.Proofs.YtcbliojofnigdaaGreatDoor
