/- arg: an argument's value by its kind. -/
import Derived.Test.YtcbliojofnigdaaGreatDoorArgs
namespace Go.Proofs.YtcbliojofnigdaaGreatDoor
open Go Go.Proofs Go.RowKit

/-- the argument that a kind, bits and a text mean (floats: not here) -/
def argOf (z : LA) : Option Arg :=
  if z.kind = 0 then some .nil else if z.kind = 1 then some (.bool (z.bits != 0)) else if z.kind = 2 then some (.int 3 .i64 (wrap64 z.bits)) else if z.kind = 3 then some (.int 83 .i8 (IntKind.i8.wrap z.bits))
  else if z.kind = 4 then some (.int 84 .i16 (IntKind.i16.wrap z.bits)) else if z.kind = 5 then some (.int 21 .i32 (wrap32 z.bits)) else if z.kind = 6 then some (.int 2 .i64 (wrap64 z.bits)) else if z.kind = 7 then some (.int 88 .u64 z.bits)
  else if z.kind = 8 then some (.int 5 .u8 (IntKind.u8.wrap z.bits)) else if z.kind = 9 then some (.int 156 .u16 (IntKind.u16.wrap z.bits)) else if z.kind = 10 then some (.int 53 .u32 (IntKind.u32.wrap z.bits)) else if z.kind = 11 then some (.int 22 .u64 z.bits)
  else if z.kind = 12 then some (.int 12 .u64 z.bits) else if z.kind = 15 then some (.str z.text) else if z.kind = 16 then (if z.text.size ≤ 1000000 then some (.bytes z.text.data.toList) else none) else if z.kind = 17 then some (.err z.text) else if z.kind = 18 then some (.strg z.text) else none

set_option maxRecDepth 100000 in
set_option maxHeartbeats 2000000 in
theorem arg_0 (bits : Int) (text : ByteArray) (w : World) : Calls Tryz.prog 87 #[(⟨0, bits, text⟩ : LA).val] w fun e w' => e = .returned (.nilIface) ∧ Only none w w' := by
  unfold LA.val
  go_enter Tryz.func87, Tryz.ntmps87
  go_wp2
  go_ret
  exact ⟨rfl, (Only.refl _ _).alloc _⟩

set_option maxRecDepth 100000 in
set_option maxHeartbeats 2000000 in
theorem arg_1 (bits : Int) (text : ByteArray) (w : World) : Calls Tryz.prog 87 #[(⟨1, bits, text⟩ : LA).val] w fun e w' => e = .returned (.iface 4 (.bool (bits != 0))) ∧ Only none w w' := by
  unfold LA.val
  go_enter Tryz.func87, Tryz.ntmps87
  go_wp2
  go_ret
  exact ⟨rfl, (Only.refl _ _).alloc _⟩

set_option maxRecDepth 100000 in
set_option maxHeartbeats 2000000 in
theorem arg_2 (bits : Int) (text : ByteArray) (w : World) : Calls Tryz.prog 87 #[(⟨2, bits, text⟩ : LA).val] w fun e w' => e = .returned (.iface 3 (.int .i64 (wrap64 bits))) ∧ Only none w w' := by
  unfold LA.val
  go_enter Tryz.func87, Tryz.ntmps87
  go_wp2
  go_ret
  exact ⟨rfl, (Only.refl _ _).alloc _⟩

set_option maxRecDepth 100000 in
set_option maxHeartbeats 2000000 in
theorem arg_3 (bits : Int) (text : ByteArray) (w : World) : Calls Tryz.prog 87 #[(⟨3, bits, text⟩ : LA).val] w fun e w' => e = .returned (.iface 83 (.int .i8 (IntKind.i8.wrap bits))) ∧ Only none w w' := by
  unfold LA.val
  go_enter Tryz.func87, Tryz.ntmps87
  go_wp2
  go_ret
  exact ⟨rfl, (Only.refl _ _).alloc _⟩

set_option maxRecDepth 100000 in
set_option maxHeartbeats 2000000 in
theorem arg_4 (bits : Int) (text : ByteArray) (w : World) : Calls Tryz.prog 87 #[(⟨4, bits, text⟩ : LA).val] w fun e w' => e = .returned (.iface 84 (.int .i16 (IntKind.i16.wrap bits))) ∧ Only none w w' := by
  unfold LA.val
  go_enter Tryz.func87, Tryz.ntmps87
  go_wp2
  go_ret
  exact ⟨rfl, (Only.refl _ _).alloc _⟩

set_option maxRecDepth 100000 in
set_option maxHeartbeats 2000000 in
theorem arg_5 (bits : Int) (text : ByteArray) (w : World) : Calls Tryz.prog 87 #[(⟨5, bits, text⟩ : LA).val] w fun e w' => e = .returned (.iface 21 (.int .i32 (wrap32 bits))) ∧ Only none w w' := by
  unfold LA.val
  go_enter Tryz.func87, Tryz.ntmps87
  go_wp2
  go_ret
  exact ⟨rfl, (Only.refl _ _).alloc _⟩

set_option maxRecDepth 100000 in
set_option maxHeartbeats 2000000 in
theorem arg_6 (bits : Int) (text : ByteArray) (w : World) : Calls Tryz.prog 87 #[(⟨6, bits, text⟩ : LA).val] w fun e w' => e = .returned (.iface 2 (.int .i64 (wrap64 bits))) ∧ Only none w w' := by
  unfold LA.val
  go_enter Tryz.func87, Tryz.ntmps87
  go_wp2
  go_ret
  exact ⟨rfl, (Only.refl _ _).alloc _⟩

set_option maxRecDepth 100000 in
set_option maxHeartbeats 2000000 in
theorem arg_7 (bits : Int) (text : ByteArray) (w : World) : Calls Tryz.prog 87 #[(⟨7, bits, text⟩ : LA).val] w fun e w' => e = .returned (.iface 88 (.int .u64 bits)) ∧ Only none w w' := by
  unfold LA.val
  go_enter Tryz.func87, Tryz.ntmps87
  go_wp2
  go_ret
  exact ⟨rfl, (Only.refl _ _).alloc _⟩

set_option maxRecDepth 100000 in
set_option maxHeartbeats 2000000 in
theorem arg_8 (bits : Int) (text : ByteArray) (w : World) : Calls Tryz.prog 87 #[(⟨8, bits, text⟩ : LA).val] w fun e w' => e = .returned (.iface 5 (.int .u8 (IntKind.u8.wrap bits))) ∧ Only none w w' := by
  unfold LA.val
  go_enter Tryz.func87, Tryz.ntmps87
  go_wp2
  go_ret
  exact ⟨rfl, (Only.refl _ _).alloc _⟩

set_option maxRecDepth 100000 in
set_option maxHeartbeats 2000000 in
theorem arg_9 (bits : Int) (text : ByteArray) (w : World) : Calls Tryz.prog 87 #[(⟨9, bits, text⟩ : LA).val] w fun e w' => e = .returned (.iface 156 (.int .u16 (IntKind.u16.wrap bits))) ∧ Only none w w' := by
  unfold LA.val
  go_enter Tryz.func87, Tryz.ntmps87
  go_wp2
  go_ret
  exact ⟨rfl, (Only.refl _ _).alloc _⟩

set_option maxRecDepth 100000 in
set_option maxHeartbeats 2000000 in
theorem arg_10 (bits : Int) (text : ByteArray) (w : World) : Calls Tryz.prog 87 #[(⟨10, bits, text⟩ : LA).val] w fun e w' => e = .returned (.iface 53 (.int .u32 (IntKind.u32.wrap bits))) ∧ Only none w w' := by
  unfold LA.val
  go_enter Tryz.func87, Tryz.ntmps87
  go_wp2
  go_ret
  exact ⟨rfl, (Only.refl _ _).alloc _⟩

set_option maxRecDepth 100000 in
set_option maxHeartbeats 2000000 in
theorem arg_11 (bits : Int) (text : ByteArray) (w : World) : Calls Tryz.prog 87 #[(⟨11, bits, text⟩ : LA).val] w fun e w' => e = .returned (.iface 22 (.int .u64 bits)) ∧ Only none w w' := by
  unfold LA.val
  go_enter Tryz.func87, Tryz.ntmps87
  go_wp2
  go_ret
  exact ⟨rfl, (Only.refl _ _).alloc _⟩

set_option maxRecDepth 100000 in
set_option maxHeartbeats 2000000 in
theorem arg_12 (bits : Int) (text : ByteArray) (w : World) : Calls Tryz.prog 87 #[(⟨12, bits, text⟩ : LA).val] w fun e w' => e = .returned (.iface 12 (.int .u64 bits)) ∧ Only none w w' := by
  unfold LA.val
  go_enter Tryz.func87, Tryz.ntmps87
  go_wp2
  go_ret
  exact ⟨rfl, (Only.refl _ _).alloc _⟩

set_option maxRecDepth 100000 in
set_option maxHeartbeats 2000000 in
theorem arg_15 (bits : Int) (text : ByteArray) (w : World) : Calls Tryz.prog 87 #[(⟨15, bits, text⟩ : LA).val] w fun e w' => e = .returned (.iface 9 (.string text)) ∧ Only none w w' := by
  unfold LA.val
  go_enter Tryz.func87, Tryz.ntmps87
  go_wp2
  go_ret
  exact ⟨rfl, (Only.refl _ _).alloc _⟩

set_option maxRecDepth 100000 in
set_option maxHeartbeats 2000000 in
theorem arg_17 (bits : Int) (text : ByteArray) (w : World) : Calls Tryz.prog 87 #[(⟨17, bits, text⟩ : LA).val] w fun e w' => e = .returned (.iface 164 (.agg #[.string text])) ∧ Only none w w' := by
  unfold LA.val
  go_enter Tryz.func87, Tryz.ntmps87
  go_wp2
  go_ret
  exact ⟨rfl, (Only.refl _ _).alloc _⟩

set_option maxRecDepth 100000 in
set_option maxHeartbeats 2000000 in
theorem arg_18 (bits : Int) (text : ByteArray) (w : World) : Calls Tryz.prog 87 #[(⟨18, bits, text⟩ : LA).val] w fun e w' => e = .returned (.iface 165 (.agg #[.string text])) ∧ Only none w w' := by
  unfold LA.val
  go_enter Tryz.func87, Tryz.ntmps87
  go_wp2
  go_ret
  exact ⟨rfl, (Only.refl _ _).alloc _⟩

/-- new bytes: in a block of bytes at or behind base -/
def NewBytes (base : Nat) (w : World) (u : Value) (t : Bytes) : Prop :=
  ∃ g c cs fr, u = .slice (some ⟨g, 0, none⟩) t.length c ∧ base ≤ g ∧ w.heap[g]? = some (.cells cs 5 fr) ∧ c ≤ cs.size ∧ t.length ≤ c ∧ c ≤ maxLen ∧ ∀ j, (h : j < t.length) → cs[j]? = some (u8 t[j])
/-- a new value x is the argument a, whatever printer lies ahead of it -/
def NewArg (base : Nat) (w : World) (x : Value) (a : Arg) : Prop := (∀ b W v, ArgIs b W v x a) ∨ ∃ u t, a = .bytes t ∧ x = .iface 26 u ∧ NewBytes base w u t
theorem NewArg.form {base : Nat} {w : World} {x : Value} {a : Arg} (h : NewArg base w x a) : x = .nilIface ∨ ∃ t u, x = .iface t u := by
  rcases h with h | ⟨u, t, _, rfl, _⟩
  · have := h 0 w (.slice none 0 0)
    by_cases hn : a = .nil
    · subst hn; exact .inl this
    · exact .inr (this.held hn)
  · exact .inr ⟨_, _, rfl⟩
theorem NewArg.only {base : Nat} {w w' : World} {x : Value} {a : Arg} (h : NewArg base w x a) (k : Only none w w') : NewArg base w' x a := by
  rcases h with h | ⟨u, t, ha, hx, g, c, cs, fr, h1, h2, h3, h4⟩
  · exact .inl h
  · exact .inr ⟨u, t, ha, hx, g, c, cs, fr, h1, h2, by rw [k.other g (lt_of_heap h3) (fun _ _ _ he => by cases he)]; exact h3, h4⟩
/-- what grew is a row of interface values -/
theorem NewArg.grown {base base' n : Nat} {w w' : World} {x v : Value} {a : Arg} {xs : List Value} (h : NewArg base w x a) (ho : w.ownsRow base' 20 1 v n xs) (k : w.grownBy w' v.ownBlock) : NewArg base w' x a := by
  rcases h with h | ⟨u, t, ha, hx, g, c, cs, fr, h1, h2, h3, h4⟩
  · exact .inl h
  · refine .inr ⟨u, t, ha, hx, g, c, cs, fr, h1, h2, ?_, h4⟩
    rw [k.block g (lt_of_heap h3) ?_]
    · exact h3
    · intro he
      rcases ho.2 with ⟨rfl, _⟩ | ⟨g', cap, cur, rfl, _, hg, _⟩
      · cases he
      · cases he
        rw [h3] at hg
        cases hg
theorem NewArg.mono {base base' : Nat} {w : World} {x : Value} {a : Arg} (h : NewArg base w x a) (hb : base' ≤ base) : NewArg base' w x a := by
  rcases h with h | ⟨u, t, ha, hx, g, c, cs, fr, h1, h2, h3⟩
  · exact .inl h
  · exact .inr ⟨u, t, ha, hx, g, c, cs, fr, h1, by omega, h3⟩
theorem newArg_plain {base : Nat} {w : World} {x : Value} {a : Arg} (h : ∀ b w v, ArgIs b w v x a) : NewArg base w x a := .inl h
theorem NewArg.is {base b : Nat} {w : World} {x : Value} {a : Arg} (h : NewArg base w x a) (hb : b < base) : ArgIs b w (.slice none 0 0) x a := by
  rcases h with h | ⟨u, t, rfl, rfl, g, c, cs, fr, rfl, h2, h3, h4, h5, h6, h7⟩
  · exact h b w _
  · refine ⟨_, rfl, .inr ⟨g, 0, c, cs, 5, fr, rfl, h3, by omega, h5, h6, fun j hj => by rw [Nat.zero_add]; exact h7 j hj⟩, fun k o c' hp => ?_⟩
    cases hp
    exact ⟨show g ≠ b by omega, fun _ _ he => by cases he⟩
/-- the bytes of a string, in a new block -/
theorem newBytes_of {W : World} {t : ByteArray} (base g n : Nat) (hg : g = W.heap.size) (h : base ≤ W.heap.size) (hn : t.size ≤ n) (hm : n ≤ maxLen) (fr : Nat × Nat) : NewBytes base (W.alloc (.cells (bytesRow t n) 5 fr)) (.slice (some ⟨g, 0, none⟩) t.size n) t.data.toList := by
  have hl : t.data.toList.length = t.size := by rw [Array.length_toList]; rfl
  subst hg
  refine ⟨W.heap.size, n, _, fr, by rw [hl], h, heap_alloc_new W _, ?_, by omega, hm, fun j hj => ?_⟩
  · unfold bytesRow
    simp only [Array.size_append, Array.size_map, Array.size_replicate]
    have : t.data.size = t.size := rfl
    omega
  · rw [bytesRow_at t n j (by rw [Array.length_toList] at hj; exact hj)]
    simp [u8]
theorem NewBytes.drew {base : Nat} {w : World} {u : Value} {t : Bytes} (h : NewBytes base w u t) : NewBytes base w.drew u t := h

set_option maxRecDepth 100000 in
set_option maxHeartbeats 2000000 in
theorem arg_16 (bits : Int) (text : ByteArray) (ht : text.size ≤ 1000000) (w : World) : Calls Tryz.prog 87 #[(⟨16, bits, text⟩ : LA).val] w fun e w' => ∃ u, e = .returned (.iface 26 u) ∧ Only none w w' ∧ NewBytes w.heap.size w' u text.data.toList := by
  have q := fun W => run_bytes_of_string (P := Tryz.prog) W 9 26 5 text Tryz.underlying9 Tryz.underlying26 Tryz.underlying5
  unfold LA.val
  go_enter Tryz.func87, Tryz.ntmps87
  go_wp2
  go_ret
  refine ⟨_, rfl, ((((Only.refl _ _).alloc _).drew).alloc _), ?_⟩
  exact (newBytes_of (W := w.alloc (.cells #[.int .i64 16, .int .u64 bits, .string text] 128)) w.heap.size (w.heap.size + 1) _ (by simp) (by simp) (grownCap_ge _ _ _ _) (grownCap_le_maxLen _ _ _ _ (by unfold maxLen; omega)) _).drew

theorem wrap_in (k : IntKind) (n : Int) : k.min ≤ k.wrap n ∧ k.wrap n ≤ k.max := wrap_within k n
theorem wrap_in64 (n : Int) : IntKind.i64.min ≤ wrap64 n ∧ wrap64 n ≤ IntKind.i64.max := by
  have := wrap_in .i64 n
  have e : IntKind.i64.wrap n = wrap64 n := by unfold wrap64; exact IntKind.wrap_i64 n
  rw [e] at this
  exact this
theorem wrap_in32 (n : Int) : IntKind.i32.min ≤ wrap32 n ∧ wrap32 n ≤ IntKind.i32.max := by
  have := wrap_in .i32 n
  have e : IntKind.i32.wrap n = wrap32 n := by unfold wrap32; exact IntKind.wrap_i32 n
  rw [e] at this
  exact this
theorem newArg_int {base : Nat} {w : World} (ty : Nat) (k : IntKind) (n : Int) (nm : String) (hm : (ty, k, nm) ∈ intTypes) (h : k.min ≤ n ∧ n ≤ k.max) : NewArg base w (.iface ty (.int k n)) (.int ty k n) :=
  newArg_plain fun _ _ _ => ⟨rfl, ⟨nm, hm⟩, h.1, h.2⟩
theorem u64_in {n : Int} (h0 : 0 ≤ n) (h1 : n ≤ 18446744073709551615) : IntKind.u64.min ≤ n ∧ n ≤ IntKind.u64.max := ⟨h0, h1⟩

theorem arg_any {z : LA} {a : Arg} (h : argOf z = some a) (h0 : 0 ≤ z.bits) (h1 : z.bits ≤ 18446744073709551615) (w : World) :
    Calls Tryz.prog 87 #[z.val] w fun e w' => ∃ x, e = .returned x ∧ Only none w w' ∧ NewArg w.heap.size w' x a := by
  obtain ⟨kind, bits, text⟩ := z
  have hu := u64_in h0 h1
  clear h0 h1
  unfold argOf at h
  dsimp only at h hu
  by_cases k0 : kind = 0
  · rw [if_pos k0] at h
    cases h
    subst k0
    exact (arg_0 bits text w).mono (by rintro e w' ⟨rfl, hO⟩; exact ⟨_, rfl, hO, newArg_plain fun _ _ _ => rfl⟩)
  rw [if_neg k0] at h
  by_cases k1 : kind = 1
  · rw [if_pos k1] at h
    cases h
    subst k1
    exact (arg_1 bits text w).mono (by rintro e w' ⟨rfl, hO⟩; exact ⟨_, rfl, hO, newArg_plain fun _ _ _ => rfl⟩)
  rw [if_neg k1] at h
  by_cases k2 : kind = 2
  · rw [if_pos k2] at h
    cases h
    subst k2
    exact (arg_2 bits text w).mono (by rintro e w' ⟨rfl, hO⟩; exact ⟨_, rfl, hO, newArg_int 3 .i64 _ "int" (by decide) (wrap_in64 bits)⟩)
  rw [if_neg k2] at h
  by_cases k3 : kind = 3
  · rw [if_pos k3] at h
    cases h
    subst k3
    exact (arg_3 bits text w).mono (by rintro e w' ⟨rfl, hO⟩; exact ⟨_, rfl, hO, newArg_int 83 .i8 _ "int8" (by decide) (wrap_in .i8 bits)⟩)
  rw [if_neg k3] at h
  by_cases k4 : kind = 4
  · rw [if_pos k4] at h
    cases h
    subst k4
    exact (arg_4 bits text w).mono (by rintro e w' ⟨rfl, hO⟩; exact ⟨_, rfl, hO, newArg_int 84 .i16 _ "int16" (by decide) (wrap_in .i16 bits)⟩)
  rw [if_neg k4] at h
  by_cases k5 : kind = 5
  · rw [if_pos k5] at h
    cases h
    subst k5
    exact (arg_5 bits text w).mono (by rintro e w' ⟨rfl, hO⟩; exact ⟨_, rfl, hO, newArg_int 21 .i32 _ "int32" (by decide) (wrap_in32 bits)⟩)
  rw [if_neg k5] at h
  by_cases k6 : kind = 6
  · rw [if_pos k6] at h
    cases h
    subst k6
    exact (arg_6 bits text w).mono (by rintro e w' ⟨rfl, hO⟩; exact ⟨_, rfl, hO, newArg_int 2 .i64 _ "int64" (by decide) (wrap_in64 bits)⟩)
  rw [if_neg k6] at h
  by_cases k7 : kind = 7
  · rw [if_pos k7] at h
    cases h
    subst k7
    exact (arg_7 bits text w).mono (by rintro e w' ⟨rfl, hO⟩; exact ⟨_, rfl, hO, newArg_int 88 .u64 _ "uint" (by decide) hu⟩)
  rw [if_neg k7] at h
  by_cases k8 : kind = 8
  · rw [if_pos k8] at h
    cases h
    subst k8
    exact (arg_8 bits text w).mono (by rintro e w' ⟨rfl, hO⟩; exact ⟨_, rfl, hO, newArg_int 5 .u8 _ "uint8" (by decide) (wrap_in .u8 bits)⟩)
  rw [if_neg k8] at h
  by_cases k9 : kind = 9
  · rw [if_pos k9] at h
    cases h
    subst k9
    exact (arg_9 bits text w).mono (by rintro e w' ⟨rfl, hO⟩; exact ⟨_, rfl, hO, newArg_int 156 .u16 _ "uint16" (by decide) (wrap_in .u16 bits)⟩)
  rw [if_neg k9] at h
  by_cases k10 : kind = 10
  · rw [if_pos k10] at h
    cases h
    subst k10
    exact (arg_10 bits text w).mono (by rintro e w' ⟨rfl, hO⟩; exact ⟨_, rfl, hO, newArg_int 53 .u32 _ "uint32" (by decide) (wrap_in .u32 bits)⟩)
  rw [if_neg k10] at h
  by_cases k11 : kind = 11
  · rw [if_pos k11] at h
    cases h
    subst k11
    exact (arg_11 bits text w).mono (by rintro e w' ⟨rfl, hO⟩; exact ⟨_, rfl, hO, newArg_int 22 .u64 _ "uint64" (by decide) hu⟩)
  rw [if_neg k11] at h
  by_cases k12 : kind = 12
  · rw [if_pos k12] at h
    cases h
    subst k12
    exact (arg_12 bits text w).mono (by rintro e w' ⟨rfl, hO⟩; exact ⟨_, rfl, hO, newArg_int 12 .u64 _ "uintptr" (by decide) hu⟩)
  rw [if_neg k12] at h
  by_cases k15 : kind = 15
  · rw [if_pos k15] at h
    cases h
    subst k15
    exact (arg_15 bits text w).mono (by rintro e w' ⟨rfl, hO⟩; exact ⟨_, rfl, hO, newArg_plain fun _ _ _ => rfl⟩)
  rw [if_neg k15] at h
  by_cases k16 : kind = 16
  · rw [if_pos k16] at h
    split at h
    · rename_i hsz
      cases h
      subst k16
      exact (arg_16 bits text hsz w).mono (by rintro e w' ⟨u, rfl, hO, hN⟩; exact ⟨_, rfl, hO, .inr ⟨u, _, rfl, rfl, hN⟩⟩)
    · cases h
  rw [if_neg k16] at h
  by_cases k17 : kind = 17
  · rw [if_pos k17] at h
    cases h
    subst k17
    exact (arg_17 bits text w).mono (by rintro e w' ⟨rfl, hO⟩; exact ⟨_, rfl, hO, newArg_plain fun _ _ _ => rfl⟩)
  rw [if_neg k17] at h
  by_cases k18 : kind = 18
  · rw [if_pos k18] at h
    cases h
    subst k18
    exact (arg_18 bits text w).mono (by rintro e w' ⟨rfl, hO⟩; exact ⟨_, rfl, hO, newArg_plain fun _ _ _ => rfl⟩)
  rw [if_neg k18] at h
  cases h

theorem info20 : (Tryz.prog.info? 20).map (fun i => (i.zero, i.size, i.bytes)) = some (some .nilIface, 1, 16) := by kernel_rfl

/-- values that are the arguments l, one by one -/
def NewArgs (base : Nat) (w : World) (xs : List Value) (l : List Arg) : Prop := xs.length = l.length ∧ ∀ (j : Nat) y, l[j]? = some y → ∃ x, xs[j]? = some x ∧ NewArg base w x y
theorem NewArgs.only {base : Nat} {w w' : World} {xs : List Value} {l : List Arg} (h : NewArgs base w xs l) (k : Only none w w') : NewArgs base w' xs l :=
  ⟨h.1, fun j y hy => by obtain ⟨x, hx, hn⟩ := h.2 j y hy; exact ⟨x, hx, hn.only k⟩⟩
theorem NewArgs.grown {base base' n : Nat} {w w' : World} {xs ys : List Value} {v : Value} {l : List Arg} (h : NewArgs base w xs l) (ho : w.ownsRow base' 20 1 v n ys) (k : w.grownBy w' v.ownBlock) : NewArgs base w' xs l :=
  ⟨h.1, fun j y hy => by obtain ⟨x, hx, hn⟩ := h.2 j y hy; exact ⟨x, hx, hn.grown ho k⟩⟩
theorem NewArgs.snoc {base : Nat} {w : World} {xs : List Value} {l : List Arg} (h : NewArgs base w xs l) {x : Value} {y : Arg} (hn : NewArg base w x y) : NewArgs base w (xs ++ [x]) (l ++ [y]) := by
  refine ⟨by simp [h.1], fun j z hz => ?_⟩
  by_cases hj : j < l.length
  · rw [List.getElem?_append_left hj] at hz
    obtain ⟨x', hx, hn'⟩ := h.2 j z hz
    exact ⟨x', by rw [List.getElem?_append_left (by rw [h.1]; exact hj)]; exact hx, hn'⟩
  · rw [List.getElem?_append_right (by omega)] at hz
    have hj0 : j - l.length = 0 := by
      have := (List.getElem?_eq_some_iff.1 hz).1
      simp at this; omega
    rw [hj0] at hz
    cases hz
    exact ⟨x, by rw [List.getElem?_append_right (by rw [h.1]; omega), h.1, hj0]; rfl, hn⟩
theorem take_arg {l : List Arg} {i : Nat} {y : Arg} (h : l[i]? = some y) : l.take (i + 1) = l.take i ++ [y] := by
  have hi := (List.getElem?_eq_some_iff.1 h).1
  rw [List.take_succ_eq_append_getElem hi]
  rw [List.getElem?_eq_getElem hi] at h
  rw [Option.some.inj h]
/-- all of a list are arguments that are known here -/
def Known (L : List LA) (l : List Arg) : Prop := L.length = l.length ∧ ∀ (j : Nat) z, L[j]? = some z → ∃ a, l[j]? = some a ∧ argOf z = some a ∧ 0 ≤ z.bits ∧ z.bits ≤ 18446744073709551615

theorem ArgsAt.ofRow {base : Nat} {w : World} {v : Value} {xs : List Value} {l : List Arg} (h : w.ownsRow base 20 1 v l.length xs) (k : NewArgs base w xs l) (b : Nat) (hb : b < base) : ArgsAt b w (.slice none 0 0) v l := by
  rcases h.2 with ⟨rfl, h0⟩ | ⟨g, cap, cur, rfl, hbg, hg, hnc, hcm, hcs, htake⟩
  · exact .inl ⟨List.eq_nil_of_length_eq_zero h0, rfl⟩
  · refine .inr ⟨g, 0, cap, cur, 20, rfl, hg, by omega, fun _ _ he => (by cases he), hnc, fun j y hy => ?_⟩
    obtain ⟨x, hx, hn⟩ := k.2 j y hy
    refine ⟨x, ?_, hn.is hb⟩
    have := (List.getElem?_eq_some_iff.1 hx).1
    rw [Nat.zero_add, ← Array.getElem?_toList]
    rw [← htake, List.getElem?_take] at hx
    split at hx
    · exact hx
    · cases hx

theorem own_only {base : Nat} {e : TypeId} {size n : Nat} {w w' : World} {v : Value} {xs : List Value} (h : w.ownsRow base e size v n xs) (k : Only none w w') : w'.ownsRow base e size v n xs :=
  h.kept (row := none) ⟨k.os, k.tape, k.output, k.size, fun i hi _ => k.other i hi (fun _ _ _ he => by cases he)⟩ (by cases hv : v.ownBlock <;> simp)
theorem laCells_at : ∀ (L : List LA) (j : Nat) (h : j < L.length), (laCells L)[j * 3]? = some (.int .i64 L[j].kind) ∧ (laCells L)[j * 3 + 1]? = some (.int .u64 L[j].bits) ∧ (laCells L)[j * 3 + 2]? = some (.string L[j].text)
  | a :: L, 0, _ => ⟨rfl, rfl, rfl⟩
  | a :: L, j + 1, h => by
    have e : laCells (a :: L) = a.cells ++ laCells L := rfl
    have hl : a.cells.length = 3 := rfl
    obtain ⟨h1, h2, h3⟩ := laCells_at L j (by simpa using h)
    rw [e]
    refine ⟨?_, ?_, ?_⟩
    · rw [List.getElem?_append_right (by omega), hl, show (j + 1) * 3 - 3 = j * 3 by omega]; exact h1
    · rw [List.getElem?_append_right (by omega), hl, show (j + 1) * 3 + 1 - 3 = j * 3 + 1 by omega]; exact h2
    · rw [List.getElem?_append_right (by omega), hl, show (j + 1) * 3 + 2 - 3 = j * 3 + 2 by omega]; exact h3

set_option maxRecDepth 100000 in
set_option maxHeartbeats 4000000 in
theorem arguments_any {w : World} {v : Value} {L : List LA} {l : List Arg} (h : w.ownsRow 0 128 3 v L.length (laCells L)) (hk : Known L l) (hL : L.length ≤ 100000000) :
    Calls Tryz.prog 71 #[v] w fun e w' => ∃ a, e = .returned a ∧ Only none w w' ∧ ∀ b, b < w.heap.size → ArgsAt b w' (.slice none 0 0) a l := by
  have hcells : ∀ j, (hj : j < L.length) → ∃ g cap, v = .slice (some ⟨g, 0, none⟩) L.length cap ∧ g < w.heap.size ∧ w.cell? ⟨g, j * 3, none⟩ = some (.int .i64 L[j].kind) ∧ w.cell? ⟨g, j * 3 + 1, none⟩ = some (.int .u64 L[j].bits) ∧ w.cell? ⟨g, j * 3 + 2, none⟩ = some (.string L[j].text) := by
    intro j hj
    obtain ⟨a1, a2, a3⟩ := laCells_at L j hj
    rcases h.2 with ⟨rfl, h0⟩ | ⟨g, cap, cur, rfl, _, hg, _⟩
    · omega
    · have hc := h.cells (g := g) rfl
      refine ⟨g, cap, rfl, lt_of_heap hg, ?_, ?_, ?_⟩
      · have := hc _ _ a1; rwa [Addr.add_lit, Nat.zero_add] at this
      · have := hc _ _ a2; rwa [Addr.add_lit, Nat.zero_add] at this
      · have := hc _ _ a3; rwa [Addr.add_lit, Nat.zero_add] at this
  have hsl : ∃ p c, v = .slice p L.length c := by
    rcases h.2 with ⟨rfl, h0⟩ | ⟨g, cap, cur, rfl, _⟩
    · exact ⟨none, 0, by rw [h0]⟩
    · exact ⟨_, _, rfl⟩
  obtain ⟨p, c, rfl⟩ := hsl
  obtain ⟨i0, hi0, hz0, hz1, hz2⟩ := info_parts info20
  have hL' : (L.length : Int) ≤ 100000000 := by omega
  have HCL := Lib.hid hcells
  have HK := Lib.hid hk
  clear hcells hk h
  go_enter Tryz.func71, Tryz.ntmps71
  go_wp2
  go_loopw [3, 8] (fun a c W => ∃ (i : Nat) (xs : List Value), c = .int .i64 i ∧ i ≤ L.length ∧ Only none w W ∧ W.ownsRow w.heap.size 20 1 a i xs ∧ NewArgs w.heap.size W xs (l.take i)) (fun _ c _ => L.length - (intOf c).toNat)
  case atStart => exact ⟨0, [], rfl, Nat.zero_le _, Only.refl _ _, World.ownsRow_nil _ _ _ _, rfl, fun j y hy => by simp at hy⟩
  case round =>
    obtain ⟨i, xs, rfl, hi, hO, hown, hN⟩ := hrel
    by_cases hlt : i < L.length
    · obtain ⟨k, cap, hv, hk, c0, c1, c2⟩ := HCL.out i hlt
      cases hv
      rw [← only_cellAt hO hk] at c0 c1 c2
      obtain ⟨y, hy, hA, hb0, hb1⟩ := HK.out.2 i L[i] (by simp [hlt])
      have CA := fun W => arg_any hA hb0 hb1 W
      have HCA := Lib.hid CA
      clear CA HCL
      unfold LA.val at HCA
      have hbs : w.heap.size ≤ wr.heap.size := hO.size
      have HN := Lib.hid hN
      have HO := Lib.hid hO
      clear hN hO HK
      go_wp2_with (first
        | (go_at_call 87; refine (HCA.out _).mono ?_; rintro e w2 ⟨x, rfl, hO2, hx2⟩
           have hx3 : NewArg w.heap.size w2 x y := hx2.mono (by simp; omega)
           have hown2 := own_only (hown.alloc _) hO2
           have hs2 : w.heap.size ≤ w2.heap.size := Nat.le_trans hbs (by have := hO2.size; simp at this; omega)
           rcases hx3.form with rfl | ⟨T, u, rfl⟩)
        | (at_builtin; refine wpList_append_own _ rfl _ _ 117 rfl w.heap.size 20 i0 .nilIface 1 16 Tryz.underlying117 hi0 hz0 hz1 hz2 rfl (by decide) _ _ _ rfl (hown2.alloc _) ⟨_, 0, none⟩ 1 1 [_] rfl rfl (fun j u h => cell_new (by simp) j u h) (fun x hx => by simp at hx; subst hx; rfl) (by unfold maxLen; omega) (by omega) (by simp; omega) ?_; intro v' w3 hown' hgrow3 hnil3
           have hO3 := only_grown (((HO.out.alloc _).trans hO2).alloc _) hgrow3 (fun j hj => (hown2.lt j hj).1)
           have hx4 : NewArg w.heap.size w3 _ _ := (hx3.only ((Only.refl _ _).alloc _)).grown (hown2.alloc _) hgrow3
           have hN4 : NewArgs w.heap.size w3 _ _ := (((HN.out.only ((Only.refl _ _).alloc _)).only hO2).only ((Only.refl _ _).alloc _)).grown (hown2.alloc _) hgrow3
           have HX4 := Lib.hid (hN4.snoc hx4)
           have HO3 := Lib.hid hO3
           clear hgrow3 hnil3 hx3 hx2 hown2 hx4 hN4 hO3))
      all_goals
        go_roundw
        case rel => exact ⟨i + 1, _, by go_num, by omega, HO3.out, hown', by rw [take_arg hy]; exact HX4.out⟩
        case measure => simp [intOf]; omega
    · have hie : i = L.length := by omega
      subst hie
      have hll := HK.out.1
      rw [hll] at hown
      rw [List.take_of_length_le (by omega)] at hN
      go_wp2
      go_ret
      exact ⟨_, rfl, hO, fun b hb => ArgsAt.ofRow hown hN b hb⟩
end Go.Proofs.YtcbliojofnigdaaGreatDoor
