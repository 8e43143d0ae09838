/- unicode/utf8.DecodeRuneInString and strconv.IsPrint by their contracts, at this program's numbers; the tables that they read. -/
import Derived.Shelf.Unicode.DecodeAny
import Derived.Shelf.Strconv.IsPrint32
import Derived.Lib.QuoteLoop
import Derived.Test.YtcbliojofnigdaaGreatDoorTrunc
set_option linter.unusedVariables false
set_option linter.unusedSimpArgs false
namespace Go.Proofs.YtcbliojofnigdaaGreatDoor
open Go Go.Proofs Go.RowKit

def dsRen : Go.Shelf.Ren := ⟨fun | 197 => 82 | 260 => 102 | n => n, fun | 9 => 9 | 21 => 21 | 3 => 3 | 4 => 4 | 5 => 5 | 105 => 138 | 119 => 190 | 0 => 0 | 46 => 88 | 139 => 193 | 138 => 192 | n => n, fun | 3 => 0 | 4 => 1 | n => n⟩
theorem dsLays : Go.Proofs.Lays.n197 Tryz.prog dsRen := {
  mixed := by kernel_rfl
  f197 := Tryz.func82.trans (congrArg some (by kernel_rfl))
  f260 := Tryz.func102.trans (congrArg some (by kernel_rfl))
  t0 := Tryz.underlying0
  a0 := Tryz.isAgg0
  z0 := Tryz.sizeOf0
  v0 := Tryz.zeroValue0
  t3 := Tryz.underlying3
  a3 := Tryz.isAgg3
  z3 := Tryz.sizeOf3
  v3 := Tryz.zeroValue3
  t4 := Tryz.underlying4
  a4 := Tryz.isAgg4
  z4 := Tryz.sizeOf4
  v4 := Tryz.zeroValue4
  t5 := Tryz.underlying5
  a5 := Tryz.isAgg5
  z5 := Tryz.sizeOf5
  v5 := Tryz.zeroValue5
  t9 := Tryz.underlying9
  a9 := Tryz.isAgg9
  z9 := Tryz.sizeOf9
  v9 := Tryz.zeroValue9
  t21 := Tryz.underlying21
  a21 := Tryz.isAgg21
  z21 := Tryz.sizeOf21
  v21 := Tryz.zeroValue21
  t46 := Tryz.underlying88
  a46 := Tryz.isAgg88
  z46 := Tryz.sizeOf88
  v46 := Tryz.zeroValue88
  t105 := Tryz.underlying138
  a105 := Tryz.isAgg138
  z105 := Tryz.sizeOf138
  v105 := Tryz.zeroValue138
  t119 := Tryz.underlying190
  a119 := Tryz.isAgg190
  z119 := Tryz.sizeOf190
  t138 := Tryz.underlying192
  a138 := Tryz.isAgg192
  z138 := Tryz.sizeOf192
  v138 := Tryz.zeroValue192
  t139 := Tryz.underlying193
  a139 := Tryz.isAgg193
  z139 := Tryz.sizeOf193
  v139 := Tryz.zeroValue193
  g3 := by kernel_rfl
  g4 := by kernel_rfl }
def ipRen : Go.Shelf.Ren := ⟨fun | 339 => 126 | 345 => 138 | 346 => 139 | n => n, fun | 21 => 21 | 4 => 4 | 49 => 156 | 234 => 205 | 131 => 111 | 3 => 3 | 0 => 0 | 51 => 53 | 236 => 207 | 46 => 88 | n => n, fun | 20 => 3 | 21 => 4 | 22 => 5 | 23 => 6 | n => n⟩
theorem ipLays : Go.Proofs.Lays.n339 Tryz.prog ipRen := {
  mixed := by kernel_rfl
  f339 := Tryz.func126.trans (congrArg some (by kernel_rfl))
  f345 := Tryz.func138.trans (congrArg some (by kernel_rfl))
  f346 := Tryz.func139.trans (congrArg some (by kernel_rfl))
  t0 := Tryz.underlying0
  a0 := Tryz.isAgg0
  z0 := Tryz.sizeOf0
  v0 := Tryz.zeroValue0
  t3 := Tryz.underlying3
  a3 := Tryz.isAgg3
  z3 := Tryz.sizeOf3
  v3 := Tryz.zeroValue3
  t4 := Tryz.underlying4
  a4 := Tryz.isAgg4
  z4 := Tryz.sizeOf4
  v4 := Tryz.zeroValue4
  t21 := Tryz.underlying21
  a21 := Tryz.isAgg21
  z21 := Tryz.sizeOf21
  v21 := Tryz.zeroValue21
  t46 := Tryz.underlying88
  a46 := Tryz.isAgg88
  z46 := Tryz.sizeOf88
  v46 := Tryz.zeroValue88
  t49 := Tryz.underlying156
  a49 := Tryz.isAgg156
  z49 := Tryz.sizeOf156
  v49 := Tryz.zeroValue156
  t51 := Tryz.underlying53
  a51 := Tryz.isAgg53
  z51 := Tryz.sizeOf53
  v51 := Tryz.zeroValue53
  t131 := Tryz.underlying111
  a131 := Tryz.isAgg111
  z131 := Tryz.sizeOf111
  v131 := Tryz.zeroValue111
  t234 := Tryz.underlying205
  a234 := Tryz.isAgg205
  z234 := Tryz.sizeOf205
  v234 := Tryz.zeroValue205
  t236 := Tryz.underlying207
  a236 := Tryz.isAgg207
  z236 := Tryz.sizeOf207
  v236 := Tryz.zeroValue207
  g20 := by kernel_rfl
  g21 := by kernel_rfl
  g22 := by kernel_rfl
  g23 := by kernel_rfl }

/-- utf8's and strconv's tables -/
def PT (T : Lib.PrintTabs) (w : World) : Prop := Tabs w ∧ Lib.PrintTabsAt 3 4 5 6 T w
theorem TabSlice_keep {g : Nat} {k : IntKind} {t : List Nat} {w w' : World} (h : Lib.TabSlice g k t w) (hk : ∀ b j, b < w.heap.size → w'.cell? ⟨b, j, none⟩ = w.cell? ⟨b, j, none⟩) : Lib.TabSlice g k t w' := by
  obtain ⟨R, o, c, h1, h2⟩ := h
  refine ⟨R, o, c, ?_, fun j hj => ?_⟩
  · rw [hk g 0 (cell_lt h1)]; exact h1
  · rw [hk R (o + j) (cell_lt (h2 j hj))]; exact h2 j hj
theorem Tabs_keep {w w' : World} (h : Tabs w) (hk : ∀ b j, b < w.heap.size → w'.cell? ⟨b, j, none⟩ = w.cell? ⟨b, j, none⟩) : Tabs w' := by
  refine ⟨fun c hc => ?_, fun i hi => ?_⟩
  · have h1 := h.1 c hc
    rw [hk 0 c (cell_lt h1)]; exact h1
  · have h1 := h.2 i hi
    exact ⟨by rw [hk 1 (2 * i) (cell_lt h1.1)]; exact h1.1, by rw [hk 1 (2 * i + 1) (cell_lt h1.2)]; exact h1.2⟩
theorem PT.keep {T : Lib.PrintTabs} {w w' : World} (h : PT T w) (hk : ∀ b j, b < w.heap.size → w'.cell? ⟨b, j, none⟩ = w.cell? ⟨b, j, none⟩) : PT T w' := by
  obtain ⟨h0, h1, h2, h3, h4, h5⟩ := h
  exact ⟨Tabs_keep h0 hk, TabSlice_keep h1 hk, TabSlice_keep h2 hk, TabSlice_keep h3 hk, TabSlice_keep h4 hk, h5⟩
theorem PT.only {T : Lib.PrintTabs} {w w' : World} (h : PT T w) (k : Only Option.none w w') : PT T w' := h.keep fun b j hb => only_cellAt k hb j
theorem PT.old {T : Lib.PrintTabs} {w0 w : World} {b : Nat} {v : Value} (h : PT T w0) (k : Old w0 b w v) : PT T w := h.keep fun b j hb => k.cell (a := ⟨b, j, none⟩) hb
/-- what lay at w0 lies there still, whatever is appended to a slice that lies later -/
theorem PT.app {T : Lib.PrintTabs} {w0 W w' : World} {V v' : Value} {ys : Bytes} (h : PT T w0) (hs : w0.heap.size ≤ W.heap.size) (hk : ∀ b j, b < w0.heap.size → W.cell? ⟨b, j, none⟩ = w0.cell? ⟨b, j, none⟩) (hV : ∀ b o c, place V = some (b, o, c) → w0.heap.size ≤ b) (k : App W V w' v' ys) : PT T w' :=
  h.keep fun b j hb => (World.cell?_of_block (a := ⟨b, j, none⟩) (k.only.other b (Nat.lt_of_lt_of_le hb hs) (fun b1 o1 c1 he => by have := hV b1 o1 c1 he; omega))).trans (hk b j hb)

theorem DecodeInString_any {T : Lib.PrintTabs} (s : ByteArray) (w : World) (hT : PT T w) :
    Calls Tryz.prog 82 #[.string s] w fun e w' => e = .returned (.tuple #[.int .i32 (Lib.decodeGo s).1, .int .i64 (Lib.decodeGo s).2]) ∧ Only Option.none w w' :=
  (Any.utf8_DecodeRuneInString dsLays s w hT.1).mono fun _ _ h => ⟨h.1, Below.onlyNone h.2⟩
theorem IsPrint_any {T : Lib.PrintTabs} (r : Int) (w : World) (h0 : -2147483648 ≤ r) (h1 : r ≤ 2147483647) (hT : PT T w) :
    Calls Tryz.prog 126 #[.int .i32 r] w fun e w' => e = .returned (.bool (Lib.isPrintR T r)) ∧ ∃ q, w' = w.drewN q :=
  Any.strconv_IsPrint ipLays T r w h0 h1 hT.2

end Go.Proofs.YtcbliojofnigdaaGreatDoor
