/- The arguments: from the thin package's to the package's. -/
import Derived.Test.YtcbliojofnigdaaGreatDoorSprint
namespace Go.Proofs.YtcbliojofnigdaaGreatDoor
open Go Go.Proofs Go.RowKit

/-- an argument of the thin package -/
structure LA where
  kind : Int
  bits : Int
  text : ByteArray
def LA.val (a : LA) : Value := .agg #[.int .i64 a.kind, .int .u64 a.bits, .string a.text]
def LA.cells (a : LA) : List Value := [.int .i64 a.kind, .int .u64 a.bits, .string a.text]
def laCells (L : List LA) : List Value := L.flatMap LA.cells
theorem laCells_len (L : List LA) : (laCells L).length = L.length * 3 := by
  induction L with
  | nil => rfl
  | cons a L ih => simp only [laCells, List.flatMap_cons, List.length_append, List.length_cons] at ih ⊢; simp only [LA.cells, List.length_cons, List.length_nil]; omega
/-- the arguments lie in a slice -/
def Las (w : World) (v : Value) (L : List LA) : Prop :=
  ∃ p c, v = .slice p L.length c ∧ ∀ j (h : j < L.length), ∃ k o, p = some ⟨k, o, none⟩ ∧ k < w.heap.size ∧
    w.cell? ⟨k, o + j * 3, none⟩ = some (.int .i64 L[j].kind) ∧ w.cell? ⟨k, o + j * 3 + 1, none⟩ = some (.int .u64 L[j].bits) ∧ w.cell? ⟨k, o + j * 3 + 2, none⟩ = some (.string L[j].text)

theorem only_cellAt {w W : World} (h : Only Option.none w W) {k : Nat} (hk : k < w.heap.size) (j : Nat) : W.cell? ⟨k, j, none⟩ = w.cell? ⟨k, j, none⟩ := World.cell?_of_block (a := ⟨k, j, none⟩) (h.other k hk (fun _ _ _ he => by cases he))

/-- what grew by an own row -/
theorem only_grown {w W W' : World} {v : Value} (h : Only Option.none w W) (hg : W.grownBy W' v.ownBlock) (hb : ∀ j, v.ownBlock = some j → w.heap.size ≤ j) : Only Option.none w W' := by
  refine ⟨hg.os.trans h.os, hg.tape.trans h.tape, hg.output.trans h.output, Nat.le_trans h.size hg.size, fun k hk _ => ?_, fun _ _ _ _ _ _ he => by cases he⟩
  rw [hg.block k (Nat.lt_of_lt_of_le hk h.size) (fun he => by have := hb k he.symm; omega)]
  exact h.other k hk (fun _ _ _ he => by cases he)
theorem info128 : (Tryz.prog.info? 128).map (fun i => (i.zero, i.size, i.bytes)) = some (some (.agg #[.int .i64 0, .int .u64 0, .string ⟨#[]⟩]), 3, 32) := by kernel_rfl
theorem laCells_snoc (L : List LA) (i : Nat) (h : i < L.length) : laCells (L.take (i + 1)) = laCells (L.take i) ++ [.int .i64 L[i].kind, .int .u64 L[i].bits, .string L[i].text] := by
  unfold laCells
  rw [List.take_succ_eq_append_getElem h, List.flatMap_append, List.flatMap_cons, List.flatMap_nil]
  rfl
theorem cell_new {w : World} {cs : List Value} {t : TypeId} {b : Nat} (hb : b = w.heap.size) (j : Nat) (u : Value) (h : cs[j]? = some u) : (w.alloc (.cells cs.toArray t)).cell? ((⟨b, 0, none⟩ : Addr).add j) = some u := by
  subst hb
  rw [Addr.add_lit, Nat.zero_add, World.cell?_alloc_new, List.getElem?_toArray]
  exact h

set_option maxRecDepth 100000 in
set_option maxHeartbeats 4000000 in
theorem args_any {w : World} {v : Value} {L : List LA} (h : Las w v L) (hL : L.length ≤ 100000000) :
    Calls Tryz.prog 54 #[v] w fun e w' => ∃ v', e = .returned v' ∧ Only none w w' ∧ w'.ownsRow w.heap.size 128 3 v' L.length (laCells L) := by
  obtain ⟨p, c, rfl, hc⟩ := h
  have HCL := Lib.hid hc
  clear hc
  have hL' : (L.length : Int) ≤ 100000000 := by omega
  obtain ⟨i0, hi0, hz0, hz1, hz2⟩ := info_parts info128
  go_enter Tryz.func54, Tryz.ntmps54
  go_wp2
  go_loopw [3, 8] (fun a c W => ∃ i : Nat, c = .int .i64 i ∧ i ≤ L.length ∧ Only none w W ∧ W.ownsRow w.heap.size 128 3 a i (laCells (L.take i))) (fun _ c _ => L.length - (intOf c).toNat)
  case atStart => exact ⟨0, rfl, Nat.zero_le _, Only.refl _ _, World.ownsRow_nil _ _ _ _⟩
  case round =>
    obtain ⟨i, rfl, hi, hO, hown⟩ := hrel
    by_cases hlt : i < L.length
    · obtain ⟨k, o, rfl, hk, c0, c1, c2⟩ := HCL.out i hlt
      rw [← only_cellAt hO hk] at c0 c1 c2
      clear HCL
      go_wp2_with (at_builtin; refine wpList_append_own _ rfl _ _ 101 rfl w.heap.size 128 i0 (.agg #[.int .i64 0, .int .u64 0, .string ⟨#[]⟩]) 3 32 Tryz.underlying101 hi0 hz0 hz1 hz2 rfl (by decide) _ _ _ rfl ((hown.alloc _).alloc _) ⟨_, 0, none⟩ 1 1 [.int .i64 L[i].kind, .int .u64 L[i].bits, .string L[i].text] rfl rfl (fun j u h => cell_new (by simp) j u h) (fun x hx => by simp at hx; rcases hx with rfl | rfl | rfl <;> rfl) (by unfold maxLen; omega) (by omega) (by have := hO.size; simp; omega) ?_; intro v' w3 hown' hgrow3 hnil3; have hO3 := only_grown ((hO.alloc _).alloc _) hgrow3 (fun j hj => (hown.lt j hj).1); clear hgrow3 hnil3)
      go_roundw
      case rel => exact ⟨i + 1, by go_num, by omega, hO3, by rw [laCells_snoc L i hlt]; exact hown'⟩
      case measure => simp [intOf]; omega
    · have hie : i = L.length := by omega
      subst hie
      rw [List.take_length] at hown
      go_wp2
      go_ret
      exact ⟨_, rfl, hO, hown⟩

end Go.Proofs.YtcbliojofnigdaaGreatDoor
