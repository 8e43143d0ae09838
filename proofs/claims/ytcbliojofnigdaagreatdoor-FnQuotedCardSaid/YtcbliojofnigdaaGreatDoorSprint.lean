/- newPrinter, and Sprintf of no arguments. -/
import Derived.Test.YtcbliojofnigdaaGreatDoorPrintf
import Derived.Lib.BufferRead
namespace Go.Proofs.YtcbliojofnigdaaGreatDoor
open Go Go.Proofs Go.RowKit

/-- the bytes of a text, as a string -/
theorem buf_string {w : World} {v : Value} {xs : Bytes} (h : Buf w v xs) : (convert 119 9 v).run Tryz.prog w = .ok (.string ⟨xs.toArray⟩) w := by
  rcases h with ⟨rfl, rfl⟩ | ⟨b, o, c, cs, e, rfl, hbb, h1, h2, h3, h4⟩
  · exact Lib.run_convert_nil_bytes w 119 9 5 0 Tryz.underlying119 Tryz.underlying5 Tryz.underlying9
  · refine run_convert_bytes_back w 119 9 5 ⟨b, o, none⟩ c xs Tryz.underlying119 Tryz.underlying5 Tryz.underlying9 ?_
    intro j hj
    rw [Addr.add_lit]
    simp [World.cell?, hbb, h4 j hj, u8]

/-- a new printer -/
def ps0 : PS := ⟨{}, false, false, false, []⟩
def ib0 : List Value := List.replicate 68 (.int .u8 0)

theorem PP.first {b : Nat} {w : World} {s : PS} {v : Value} {ib : List Value} (h : w.heap[b]? = some (.cells ((ppCells v b s ib).set 1 (.pointer none)).toArray 127 (0, 0))) (hl : ib.length = 68) (hb : Buf w v s.out) (hf : ∀ b' o c, place v = some (b', o, c) → b' ≠ b) :
    PP b (w.setCell ⟨b, 1, none⟩ (.pointer (some ⟨b, 0, none⟩))) s v ib := by
  refine ⟨hl, ?_, ?_, hf⟩
  · rw [heap_setCell_here (a := ⟨b, 1, none⟩) rfl h]
    simp [ppCells]
  · rcases hb with hb | ⟨b', o, c, cs, e, hv, hbb, hr⟩
    · exact .inl hb
    · refine .inr ⟨b', o, c, cs, e, hv, ?_, hr⟩
      rw [heap_setCell_else]
      · exact hbb
      · exact hf b' o c (by rw [hv]; rfl)

theorem onlyFr {b : Nat} {w0 w w' : World} {v v' : Value} (h : Only none w0 w) (k : Fr b w v w' v') (hb : w0.heap.size ≤ b) (hv : ∀ k o c, place v = some (k, o, c) → w0.heap.size ≤ k) : Only none w0 w' := by
  refine ⟨k.os.trans h.os, k.tape.trans h.tape, k.output.trans h.output, Nat.le_trans h.size k.size, fun i hi hne => ?_, fun _ _ _ _ _ _ he => by cases he⟩
  rw [k.same i (Nat.lt_of_lt_of_le hi h.size) (by omega) (fun o c hp => by have := hv i o c hp; omega)]
  exact h.other i hi hne

set_option maxRecDepth 100000 in
set_option maxHeartbeats 4000000 in
theorem init_any {b : Nat} {w : World} {s : PS} {v : Value} {ib : List Value} (h : w.heap[b]? = some (.cells ((ppCells v b s ib).set 1 (.pointer none)).toArray 127 (0, 0))) (hl : ib.length = 68) (hb : Buf w v s.out) (hf : ∀ b' o c, place v = some (b', o, c) → b' ≠ b) :
    Calls Tryz.prog 75 #[.pointer (some ⟨b, 1, none⟩), .pointer (some ⟨b, 0, none⟩)] w fun e w' => e = .returned (.tuple #[]) ∧ PP b w' { s with fl := {} } v ib ∧ Fr b w v w' v := by
  have c1 : w.cell? ⟨b, 1, none⟩ = some (.pointer none) := by simp [World.cell?, h, ppCells]
  have f1 : w.frozen? ⟨b, 1, none⟩ = false := by simp [World.frozen?, h]
  have hP := PP.first h hl hb hf
  have HP := Lib.hid hP
  clear hP h
  go_enter Tryz.func75, Tryz.ntmps75
  go_wp2_with (go_at_call 77; refine (clearflags_any HP.out).mono ?_; rintro e w' ⟨rfl, hP2, hF2⟩)
  go_end0
  exact ⟨rfl, hP2, ((Fr.refl _ _ _).setB 1 _).trans hF2⟩

theorem zeros127 (b : Nat) : ((Tryz.zeroCells127.setIfInBounds 83 (Value.bool false)).setIfInBounds 84 (Value.bool false)).setIfInBounds 85 (Value.bool false) = ((ppCells (.slice none 0 0) b ps0 ib0).set 1 (.pointer none)).toArray := by kernel_rfl

set_option maxRecDepth 100000 in
set_option maxHeartbeats 4000000 in
theorem newPrinter_any (w : World) : Calls Tryz.prog 69 #[] w fun e w' => e = .returned (.pointer (some ⟨w.heap.size, 0, none⟩)) ∧ PP w.heap.size w' ps0 (.slice none 0 0) ib0 ∧ Only none w w' := by
  have hz := zeros127 w.heap.size
  have C : ∀ W, W.heap[w.heap.size]? = some (.cells ((ppCells (.slice none 0 0) w.heap.size ps0 ib0).set 1 (.pointer none)).toArray 127 (0, 0)) → Only none w W → Calls Tryz.prog 75 #[.pointer (some ⟨w.heap.size, 1, none⟩), .pointer (some ⟨w.heap.size, 0, none⟩)] W fun e w' => e = .returned (.tuple #[]) ∧ PP w.heap.size w' ps0 (.slice none 0 0) ib0 ∧ Only none w w' := by
    intro W h1 h2
    refine (init_any (v := .slice none 0 0) (s := ps0) (ib := ib0) h1 rfl (Buf.nil W) (fun _ _ _ he => by cases he)).mono ?_
    rintro e w' ⟨rfl, hP, hF⟩
    exact ⟨rfl, hP, onlyFr h2 hF (Nat.le_refl _) (fun _ _ _ he => by cases he)⟩
  have HC := Lib.hid C
  have HZ := Lib.hid hz
  clear C hz
  go_enter Tryz.func69, Tryz.ntmps69
  go_wp2_with fail
  rw [HZ.out]
  have C1 := HC.out (w.alloc (.cells ((ppCells (.slice none 0 0) w.heap.size ps0 ib0).set 1 (.pointer none)).toArray 127)).drew (heap_alloc_new w _) ((Only.refl none w).alloc _).drew
  go_region_with (go_at_call 75; refine C1.mono ?_; rintro e w' ⟨rfl, hP, hO⟩)
  all_goals
    go_wp2_with fail
    go_ret
    exact ⟨rfl, hP, hO⟩

set_option maxRecDepth 100000 in
set_option maxHeartbeats 4000000 in
theorem ZZSprintf_any {w : World} {t : ByteArray} {av : Value} {l : List Arg} {pa : Arg → Int → Fl → Option Bytes} (hpa : ∀ y ∈ l, PaRel w pa y)
    (C71 : ∀ W, Only none w W → Calls Tryz.prog 71 #[av] W fun e w' => ∃ a, e = .returned a ∧ Only none W w' ∧ ∀ b, b < W.heap.size → ArgsAt b w' (.slice none 0 0) a l) (ht : Fits t.size) (hn : l.length ≤ 100000000)
    (out : Bytes) (hM : dpM t l pa t.size ⟨ps0, 0, 0, false⟩ = some out) (hl : Fits (out.length + 1000000000)) :
    Calls Tryz.prog 53 #[.string t, av] w fun e w' => e = .returned (.string ⟨out.toArray⟩) ∧ Only none w w' := by
  have HC71 := Lib.hid C71
  have HK := Lib.hid (And.intro hpa (And.intro ht (And.intro hn (And.intro hM hl))))
  clear C71 hpa ht hn hM hl
  go_enter Tryz.func53, Tryz.ntmps53
  go_wp2_with (go_at_call 69; refine (newPrinter_any w).mono ?_; rintro e w1 ⟨rfl, hP1, hO1⟩)
  have hlt := hP1.lt
  have HP1 := Lib.hid hP1
  have HO1 := Lib.hid hO1
  clear hP1 hO1
  go_wp2_with (go_at_call 71; refine (HC71.out _ HO1.out).mono ?_; rintro e w2 ⟨a, rfl, hO2, hA2⟩)
  have hP2 := HP1.out.only hO2 (fun _ _ _ he => by cases he)
  have hA := hA2 _ hlt
  have HP2 := Lib.hid hP2
  have HA := Lib.hid hA
  have HO2 := Lib.hid (HO1.out.trans hO2)
  clear hP2 hA hO2 hA2 HP1 HO1
  go_wp2_with (go_at_call 70; refine (doPrintf_any (fun y hy => (HK.out.1 y hy).at HO2.out (Nat.le_refl _)) HP2.out rfl flOk_zero _ _ HA.out HK.out.2.1 HK.out.2.2.1 out HK.out.2.2.2.1 HK.out.2.2.2.2).mono ?_; rintro e w3 ⟨rfl, s3, v3, ib3, ho3, hP3, hF3⟩; have q := buf_string hP3.buf; have c0 := hP3.c0; obtain ⟨a3, n3, k3, rfl⟩ := hP3.buf.slice; rw [ho3] at q; have HO3 := Lib.hid (onlyFr HO2.out hF3 (Nat.le_refl _) (fun _ _ _ he => by cases he)); clear hP3 hF3 HO2 HP2 HA)
  go_ret
  exact ⟨rfl, HO3.out⟩

set_option maxRecDepth 100000 in
set_option maxHeartbeats 4000000 in
theorem arguments_none (W : World) : Calls Tryz.prog 71 #[.slice none 0 0] W fun e w' => ∃ a, e = .returned a ∧ Only none W w' ∧ ∀ b, b < W.heap.size → ArgsAt b w' (.slice none 0 0) a [] := by
  go_enter Tryz.func71, Tryz.ntmps71
  go_wp2
  refine wp_loop_rounds 1 ?_
  rw [rounds_succ]
  go_wp2
  try rw [Exit.noGoto_ret]
  go_ret
  exact ⟨_, rfl, Only.refl _ _, fun _ _ => .inl ⟨rfl, rfl⟩⟩
set_option maxRecDepth 100000 in
set_option maxHeartbeats 4000000 in
theorem args_none (W : World) : Calls Tryz.prog 54 #[.slice none 0 0] W fun e w' => e = .returned (.slice none 0 0) ∧ W = w' := by
  go_enter Tryz.func54, Tryz.ntmps54
  go_wp2
  refine wp_loop_rounds 1 ?_
  rw [rounds_succ]
  go_wp2
  try rw [Exit.noGoto_ret]
  go_ret
  exact ⟨rfl, rfl⟩

set_option maxRecDepth 100000 in
set_option maxHeartbeats 4000000 in
theorem Sprintf_none (w : World) (t : ByteArray) (ht : Fits t.size) (out : Bytes) (hM : dpM t [] (fun _ _ _ => none) t.size ⟨ps0, 0, 0, false⟩ = some out) (hl : Fits (out.length + 1000000000)) :
    Calls Tryz.prog 37 #[.string t, .slice none 0 0] w fun e w' => e = .returned (.string ⟨out.toArray⟩) ∧ Only none w w' := by
  have C := ZZSprintf_any (w := w) (t := t) (av := .slice none 0 0) (l := []) (pa := fun _ _ _ => none) (fun _ h => by cases h) (fun W _ => arguments_none W) ht (Nat.zero_le _) out hM hl
  have HC := Lib.hid C
  clear C hM hl ht
  go_enter Tryz.func37, Tryz.ntmps37
  go_wp2_with (first | (go_at_call 54; refine (args_none _).mono ?_; rintro e w' ⟨rfl, rfl⟩) | (go_at_call 53; refine (HC.out).mono ?_; rintro e w' ⟨rfl, hO⟩))
  go_ret
  exact ⟨rfl, hO⟩

end Go.Proofs.YtcbliojofnigdaaGreatDoor
