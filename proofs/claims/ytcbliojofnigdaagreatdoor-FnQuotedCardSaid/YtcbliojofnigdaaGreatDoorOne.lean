/- Sprintf; one argument. -/
import Derived.Test.YtcbliojofnigdaaGreatDoorArg
namespace Go.Proofs.YtcbliojofnigdaaGreatDoor
open Go Go.Proofs Go.RowKit

theorem own_base0 {base : Nat} {e : TypeId} {size n : Nat} {w : World} {v : Value} {xs : List Value} (h : w.ownsRow base e size v n xs) : w.ownsRow 0 e size v n xs := by
  refine ⟨h.1, ?_⟩
  rcases h.2 with h0 | ⟨g, cap, cur, hv, hb, rest⟩
  · exact .inl h0
  · exact .inr ⟨g, cap, cur, hv, Nat.zero_le _, rest⟩

set_option maxRecDepth 100000 in
set_option maxHeartbeats 4000000 in
theorem Sprintf_rel {w : World} {t : ByteArray} {v : Value} {L : List LA} {l : List Arg} {pa : Arg → Int → Fl → Option Bytes} (hv : Las w v L) (hk : Known L l) (hL : L.length ≤ 100000000) (hpa : ∀ y ∈ l, PaRel w pa y) (ht : Fits t.size)
    (out : Bytes) (hM : dpM t l pa t.size ⟨ps0, 0, 0, false⟩ = some out) (hl : Fits (out.length + 1000000000)) :
    Calls Tryz.prog 37 #[.string t, v] w fun e w' => e = .returned (.string ⟨out.toArray⟩) ∧ Only none w w' := by
  have C1 := args_any hv hL
  have C2 : ∀ w1 v1, Only none w w1 → w1.ownsRow w.heap.size 128 3 v1 L.length (laCells L) → Calls Tryz.prog 53 #[.string t, v1] w1 fun e w' => e = .returned (.string ⟨out.toArray⟩) ∧ Only none w1 w' := by
    intro w1 v1 h0 h1
    refine ZZSprintf_any (fun y hy => (hpa y hy).mono h0) (fun W hO => ?_) ht (by have := hk.1; omega) out hM hl
    exact arguments_any (own_base0 (own_only h1 hO)) hk hL
  have HC1 := Lib.hid C1
  have HC2 := Lib.hid C2
  clear C1 C2 hM hl ht hpa hv hk
  go_enter Tryz.func37, Tryz.ntmps37
  go_wp2_with (first | (go_at_call 54; refine (HC1.out).mono ?_; rintro e w1 ⟨v1, rfl, hO1, hown⟩) | (go_at_call 53; refine (HC2.out _ _ hO1 hown).mono ?_; rintro e w' ⟨rfl, hO⟩))
  go_ret
  exact ⟨rfl, hO1.trans hO⟩

theorem las_one {w : World} (z : LA) : Las (w.alloc (.cells #[.int .i64 z.kind, .int .u64 z.bits, .string z.text] 24)) (.slice (some ⟨w.heap.size, 0, none⟩) 1 1) [z] := by
  refine ⟨_, 1, rfl, fun j hj => ?_⟩
  have hj0 : j = 0 := by simpa using hj
  subst hj0
  refine ⟨w.heap.size, 0, rfl, by simp, ?_, ?_, ?_⟩ <;> rw [World.cell?_alloc_new] <;> rfl

theorem known_one {z : LA} {a : Arg} (hz : argOf z = some a) (h0 : 0 ≤ z.bits) (h1 : z.bits ≤ 18446744073709551615) : Known [z] [a] := by
  refine ⟨rfl, fun j x hx => ?_⟩
  cases j with
  | zero =>
    rw [List.getElem?_cons_zero] at hx
    rw [← Option.some.inj hx]
    exact ⟨a, rfl, hz, h0, h1⟩
  | succ j =>
    rw [List.getElem?_cons_succ, List.getElem?_nil] at hx
    cases hx
theorem one_len (z : LA) : [z].length ≤ 100000000 := by rw [List.length_singleton]; decide
theorem Sprintf_one {W : World} {t : ByteArray} {z : LA} {a : Arg} {pa : Arg → Int → Fl → Option Bytes} (hk : Known [z] [a]) (hpa : PaRel W pa a) (ht : Fits t.size)
    (out : Bytes) (hM : dpM t [a] pa t.size ⟨ps0, 0, 0, false⟩ = some out) (hl : Fits (out.length + 1000000000)) :
    Calls Tryz.prog 37 #[.string t, .slice (some ⟨W.heap.size, 0, none⟩) 1 1] (W.alloc (.cells #[.int .i64 z.kind, .int .u64 z.bits, .string z.text] 24)) fun e w' => e = .returned (.string ⟨out.toArray⟩) ∧ Only none W w' := by
  have C := Sprintf_rel (las_one (w := W) z) hk (one_len z) (fun y hy => by rw [List.mem_singleton.1 hy]; exact hpa.mono ((Only.refl _ _).alloc _)) ht out hM hl
  refine C.mono ?_
  rintro e w' ⟨he, hO⟩
  exact ⟨he, ((Only.refl _ _).alloc _).trans hO⟩

set_option maxRecDepth 100000 in
set_option maxHeartbeats 1000000 in
theorem one_rel {w : World} {t : ByteArray} {z : LA} {a : Arg} {pa : Arg → Int → Fl → Option Bytes} (hk : Known [z] [a]) (hpa : PaRel w pa a) (ht : Fits t.size)
    (out : Bytes) (hM : dpM t [a] pa t.size ⟨ps0, 0, 0, false⟩ = some out) (hl : Fits (out.length + 1000000000)) :
    Calls Tryz.prog 20 #[.string t, z.val] w fun e w' => e = .returned (.string ⟨out.toArray⟩) ∧ Only none w w' := by
  have C : ∀ (b : Nat) (W : World), Only none w W → b = W.heap.size → Calls Tryz.prog 37 #[.string t, .slice (some ⟨b, 0, none⟩) 1 1] (W.alloc (.cells #[.int .i64 z.kind, .int .u64 z.bits, .string z.text] 24)) fun e w' => e = .returned (.string ⟨out.toArray⟩) ∧ Only none W w' := by
    intro b W h0 hb
    subst hb
    exact Sprintf_one hk (hpa.mono h0) ht out hM hl
  have HC := Lib.hid C
  clear C hM hl ht hpa hk
  unfold LA.val
  go_enter Tryz.func20, Tryz.ntmps20
  go_wp2_with (go_at_call 37; refine (HC.out _ _ (by first | exact Only.refl _ _ | exact (Only.refl _ _).alloc _) (by simp)).mono ?_; rintro e w' ⟨rfl, hO⟩)
  go_ret
  exact ⟨rfl, ((Only.refl _ _).alloc _).trans hO⟩
theorem Sprintf_any {w : World} {t : ByteArray} {v : Value} {L : List LA} {l : List Arg} {pa : Arg → Int → Fl → Option Bytes} (hv : Las w v L) (hk : Known L l) (hL : L.length ≤ 100000000) (hpa : ∀ b, ∀ y ∈ l, PaOk b pa y) (ht : Fits t.size)
    (out : Bytes) (hM : dpM t l pa t.size ⟨ps0, 0, 0, false⟩ = some out) (hl : Fits (out.length + 1000000000)) :
    Calls Tryz.prog 37 #[.string t, v] w fun e w' => e = .returned (.string ⟨out.toArray⟩) ∧ Only none w w' :=
  Sprintf_rel hv hk hL (fun y hy => PaOk.rel (fun b => hpa b y hy) w) ht out hM hl
theorem one_any {w : World} {t : ByteArray} {z : LA} {a : Arg} {pa : Arg → Int → Fl → Option Bytes} (hk : Known [z] [a]) (hpa : ∀ b, PaOk b pa a) (ht : Fits t.size)
    (out : Bytes) (hM : dpM t [a] pa t.size ⟨ps0, 0, 0, false⟩ = some out) (hl : Fits (out.length + 1000000000)) :
    Calls Tryz.prog 20 #[.string t, z.val] w fun e w' => e = .returned (.string ⟨out.toArray⟩) ∧ Only none w w' :=
  one_rel hk (PaOk.rel hpa w) ht out hM hl

end Go.Proofs.YtcbliojofnigdaaGreatDoor
