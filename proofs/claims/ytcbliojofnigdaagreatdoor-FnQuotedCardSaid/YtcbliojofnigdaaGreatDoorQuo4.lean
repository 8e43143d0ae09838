/- fmt.fmtQ (no precision, no sharp, no plus), texts by the verb q: fmtString, fmtBytes, handleMethods, printArg (printed by tools/gen_quo4.py). -/
import Derived.Test.YtcbliojofnigdaaGreatDoorQuo3
import Derived.Test.YtcbliojofnigdaaGreatDoorBytesW
import Derived.Stop.Asserts
import Derived.Deep.RegionWith
set_option linter.unusedVariables false
set_option linter.unusedSimpArgs false
namespace Go.Proofs.YtcbliojofnigdaaGreatDoor
open Go Go.Proofs Go.RowKit

/-- a text, quoted -/
def quoB (T : Lib.PrintTabs) (t : ByteArray) : Bytes := (Lib.quoteZ T t).map B
theorem quoB_len (T : Lib.PrintTabs) (t : ByteArray) : (quoB T t).length ≤ 10 * t.size + 2 := by
  unfold quoB Lib.quoteZ
  have := Lib.quoteFrom_length_le T t.size t
  simp only [List.length_map, List.length_cons, List.length_append, List.length_nil]
  omega
set_option maxRecDepth 100000 in
set_option maxHeartbeats 400000 in
theorem AppendQuote_any {T : Lib.PrintTabs} {W w : World} {V v : Value} (hb : App W V w v []) (s : ByteArray) (hs : s.size ≤ 1000000) (hT : ∀ w' v' ys, App W V w' v' ys → PT T w') :
    Calls Tryz.prog 131 #[v, .string s] w (Apd W V (quoB T s)) := by
  have C := appendQuoted_any hb s hs hT
  have HC := Lib.hid C
  clear C hT hb hs
  go_enter Tryz.func131, Tryz.ntmps131
  go_wp2_with (go_at_call 141; refine (HC.out).mono ?_; rintro e w1 ⟨v1, rfl, hA⟩)
  go_ret
  exact ⟨_, rfl, hA⟩

/-- nothing but a width asked for -/
def PlainQ (f : Fl) : Prop := f.precP = false ∧ f.sharp = false ∧ f.plus = false
set_option maxRecDepth 100000 in
set_option maxHeartbeats 2000000 in
theorem fmtQ_any {T : Lib.PrintTabs} {w0 : World} (hT : PT T w0) {b : Nat} {w : World} {s : PS} {v : Value} {ib : List Value} (h : PP b w s v ib) (hO : Old w0 b w v) (t : ByteArray) (hts : t.size ≤ 1000000) (hf : FlOk s.fl) (hq : PlainQ s.fl) (hl : Fits (s.out.length + 1000000000)) :
    Calls Tryz.prog 115 #[.pointer (some ⟨b, 1, none⟩), .string t] w (WroteI b w s v (padM s.fl (quoB T t))) := by
  have hs0 : w0.heap.size ≤ w.heap.size := by have := h.lt; have := hO.far; omega
  have C107 : Calls Tryz.prog 107 #[.pointer (some ⟨b, 1, none⟩), .string t] w fun e w' => e = .returned (.string t) ∧ (w' = w ∨ ∃ pos, w' = w.iter t pos) := by
    have := truncateString_any h t (by omega) (fun hp => by rw [hq.1] at hp; cases hp)
    have e : (⟨(truncB s.fl t.data.toList).toArray⟩ : ByteArray) = t := by unfold truncB; rw [hq.1]; exact str_eta t
    rw [e] at this
    exact this
  have key : ∀ W, (W = w ∨ ∃ pos, W = w.iter t pos) → PP b W s v ib ∧ Fr b w v W v ∧ PT T W ∧ w0.heap.size ≤ W.heap.size := by
    intro W hW
    rcases hW with rfl | ⟨pos, rfl⟩
    · exact ⟨h, Fr.refl _ _ _, hT.old hO, hs0⟩
    · exact ⟨h.alloc _, (Fr.refl _ _ _).alloc _, (hT.old hO).only ((Only.refl _ _).alloc _), Nat.le_trans hs0 (((Only.refl none w).alloc _).size : w.heap.size ≤ (w.iter t pos).heap.size)⟩
  have C131 : ∀ W, (W = w ∨ ∃ pos, W = w.iter t pos) → Calls Tryz.prog 131 #[.slice (some ⟨b, 13, none⟩) 0 68, .string t] W (Apd W (.slice (some ⟨b, 13, none⟩) 0 68) (quoB T t)) := by
    intro W hW
    obtain ⟨hP, hF, hPT, hs1⟩ := key W hW
    have hO1 := hO.step hs0 hF
    refine AppendQuote_any (App.refl hP.ibBuf) t hts (fun w' v' ys k => hT.app hs1 (fun b' j hb' => hO1.cell (a := ⟨b', j, none⟩) hb') (fun b1 o1 c1 he => ?_) k)
    cases he
    exact hO.far
  have hle := quoB_len T t
  have hK := key
  have HK := Lib.hid hK
  have H107 := Lib.hid C107
  have H131 := Lib.hid C131
  have HF := Lib.hid hf
  have HL := Lib.hid (show Fits (s.out.length + (quoB T t).length + s.fl.wid.toNat) from hl.le (by have := hf.1; have := hf.2.1; omega))
  have c5 : ∀ W, (W = w ∨ ∃ pos, W = w.iter t pos) → W.cell? ⟨b, 5, none⟩ = some (.bool false) := fun W hW => by have := (key W hW).1.c5; rw [hq.2.2] at this; exact this
  have c6 : ∀ W, (W = w ∨ ∃ pos, W = w.iter t pos) → W.cell? ⟨b, 6, none⟩ = some (.bool false) := fun W hW => by have := (key W hW).1.c6; rw [hq.2.1] at this; exact this
  have HC5 := Lib.hid (And.intro c5 c6)
  clear C107 C131 key hK hle c5 c6 hl hq hf hts hs0 hO h hT
  go_enter Tryz.func115, Tryz.ntmps115
  go_wp2_with (first
    | (go_at_call 107; refine (H107.out).mono ?_; rintro e w1 ⟨rfl, hW1⟩; have e5 := HC5.out.1 _ hW1; have e6 := HC5.out.2 _ hW1; have HW := Lib.hid hW1; clear hW1)
    | (go_at_call 131; refine (H131.out _ HW.out).mono ?_; rintro e w2 ⟨v2, rfl, hA⟩; obtain ⟨⟨ib2, hP2⟩, hH2, hF2⟩ := (HK.out _ HW.out).1.held hA; have CP := pad_any hP2 v2 _ hH2 HF.out HL.out; have HCP := Lib.hid CP; have HF2 := Lib.hid ((HK.out _ HW.out).2.1.trans hF2); clear hP2 hH2 hF2 CP hA)
    | (go_at_call 122; refine (HCP.out).mono ?_; rintro e w3 ⟨rfl, v3, hP3, hF3⟩; have HQ := Lib.hid (And.intro hP3 hF3); clear hP3 hF3))
  go_end0
  exact ⟨rfl, v3, ib2, HQ.out.1, HF2.out.trans HQ.out.2⟩

set_option maxRecDepth 100000 in
set_option maxHeartbeats 1000000 in
theorem fmtString_q {T : Lib.PrintTabs} {w0 : World} (hT : PT T w0) {b : Nat} {w : World} {s : PS} {v : Value} {ib : List Value} (h : PP b w s v ib) (hO : Old w0 b w v) (x : Value) (t : ByteArray) (hts : t.size ≤ 1000000) (hf : FlOk s.fl) (hq : PlainQ s.fl) (hl : Fits (s.out.length + 1000000000)) :
    Calls Tryz.prog 95 #[.pointer (some ⟨b, 0, none⟩), x, .agg #[], .string t, .int .i32 113] w (WroteI b w s v (padM s.fl (quoB T t))) := by
  have hblt := h.lt
  have hs0 : w0.heap.size ≤ w.heap.size := by have := hO.far; omega
  have C : ∀ W, Only none w W → Calls Tryz.prog 115 #[.pointer (some ⟨b, 1, none⟩), .string t] W (WroteI b w s v (padM s.fl (quoB T t))) := by
    intro W hW
    have hF : Fr b w v W v := (Fr.refl b w v).only hW (fun _ _ _ he => by cases he)
    exact (fmtQ_any hT (h.only hW (fun _ _ _ he => by cases he)) (hO.step hs0 hF) t hts hf hq hl).mono fun e w' hq => wroteI_from hF hq
  have HC := Lib.hid C
  clear C hl hq hf hts hs0 hO h hT
  go_enter Tryz.func95, Tryz.ntmps95
  go_wp2_with (go_at_call 115; refine (HC.out _ (by first | exact Only.refl _ _ | exact (Only.refl _ _).alloc _)).mono ?_; rintro e w' ⟨rfl, hq⟩)
  go_end0
  exact ⟨rfl, hq⟩

/-- bytes as a string -/
theorem rbuf_string {w : World} {v : Value} {xs : Bytes} (h : RBuf w v xs) (W : World) (hW : W = w ∨ W = w.drew) : (convert 26 9 v).run Tryz.prog W = .ok (.string ⟨xs.toArray⟩) W := by
  have hc : ∀ a, W.cell? a = w.cell? a := by rcases hW with rfl | rfl <;> intro a <;> simp
  rcases h with ⟨rfl, rfl⟩ | ⟨b, o, c, cs, e, fr, rfl, hbb, h1, h2, h3, h4⟩
  · exact Lib.run_convert_nil_bytes W 26 9 5 0 Tryz.underlying26 Tryz.underlying5 Tryz.underlying9
  · refine run_convert_bytes_back W 26 9 5 ⟨b, o, none⟩ c xs Tryz.underlying26 Tryz.underlying5 Tryz.underlying9 ?_
    intro j hj
    rw [Addr.add_lit, hc]
    simp [World.cell?, hbb, h4 j hj, u8]

set_option maxRecDepth 100000 in
set_option maxHeartbeats 1000000 in
theorem fmtBytes_q {T : Lib.PrintTabs} {w0 : World} (hT : PT T w0) {b : Nat} {w : World} {s : PS} {v : Value} {ib : List Value} (h : PP b w s v ib) (hO : Old w0 b w v) (x : Value) (t : Bytes) (hx : Out b w v x t) (hts : t.length ≤ 1000000) (nm : ByteArray) (hf : FlOk s.fl) (hq : PlainQ s.fl) (hl : Fits (s.out.length + 1000000000)) :
    Calls Tryz.prog 96 #[.pointer (some ⟨b, 0, none⟩), x, .int .i32 113, .string nm] w (WroteI b w s v (padM s.fl (quoB T ⟨t.toArray⟩))) := by
  have hblt := h.lt
  have hs0 : w0.heap.size ≤ w.heap.size := by have := hO.far; omega
  have hcv := rbuf_string hx.1 w.drew (.inr rfl)
  have hcv0 := rbuf_string hx.1 w (.inl rfl)
  obtain ⟨X, hX⟩ : ∃ X : ByteArray, X = ⟨t.toArray⟩ := ⟨_, rfl⟩
  have hXs : X.size ≤ 1000000 := by rw [hX, str_size]; exact hts
  rw [← hX] at hcv hcv0 ⊢
  have C : ∀ W, Only none w W → Calls Tryz.prog 115 #[.pointer (some ⟨b, 1, none⟩), .string X] W (WroteI b w s v (padM s.fl (quoB T X))) := by
    intro W hW
    have hF : Fr b w v W v := (Fr.refl b w v).only hW (fun _ _ _ he => by cases he)
    exact (fmtQ_any hT (h.only hW (fun _ _ _ he => by cases he)) (hO.step hs0 hF) X hXs hf hq hl).mono fun e w' hq => wroteI_from hF hq
  have HC := Lib.hid C
  clear C hl hq hf hts hs0 hO h hT hx hX hXs
  go_enter Tryz.func96, Tryz.ntmps96
  go_wp2_with fail
  go_region_with (go_at_call 115; refine (HC.out _ (by first | exact (Only.refl _ _).drew | exact Only.refl _ _)).mono ?_; rintro e w' ⟨rfl, hq⟩; have HQ := Lib.hid hq; clear hq)
  all_goals
    go_wp2_with fail
    go_end0
    exact ⟨rfl, HQ.out⟩
theorem tq_164_182 (v : Value) (w : World) : (Instr.typeAssert (.iface 164 v) 20 182 true).run Tryz.prog w = .ok (.tuple #[.nilIface, .bool false]) w := run_typeAssert_lacksB Tryz.underlying182 (by kernel_rfl) (by kernel_rfl) v 20 w
theorem tq_165_182 (v : Value) (w : World) : (Instr.typeAssert (.iface 165 v) 20 182 true).run Tryz.prog w = .ok (.tuple #[.nilIface, .bool false]) w := run_typeAssert_lacksB Tryz.underlying182 (by kernel_rfl) (by kernel_rfl) v 20 w
theorem tq_165_179 (v : Value) (w : World) : (Instr.typeAssert (.iface 165 v) 20 179 true).run Tryz.prog w = .ok (.tuple #[.nilIface, .bool false]) w := run_typeAssert_lacksB Tryz.underlying179 (by kernel_rfl) (by kernel_rfl) v 20 w
theorem tq_164_179 (v : Value) (w : World) : (Instr.typeAssert (.iface 164 v) 20 179 true).run Tryz.prog w = .ok (.tuple #[.iface 164 v, .bool true]) w := run_typeAssert_hasB Tryz.underlying179 (by kernel_rfl) v 20 w
theorem tq_165_189 (v : Value) (w : World) : (Instr.typeAssert (.iface 165 v) 20 189 true).run Tryz.prog w = .ok (.tuple #[.iface 165 v, .bool true]) w := run_typeAssert_hasB Tryz.underlying189 (by kernel_rfl) v 20 w

set_option maxRecDepth 100000 in
set_option maxHeartbeats 400000 in
theorem ErrorQ_any (t : ByteArray) (w : World) : Calls Tryz.prog 211 #[.agg #[.string t]] w fun e w' => e = .returned (.string t) ∧ Only none w w' := by
  go_enter Tryz.func211, Tryz.ntmps211
  go_wp2
  go_ret
  exact ⟨rfl, by first | exact Only.refl _ _ | exact (Only.refl _ _).alloc _⟩

set_option maxRecDepth 100000 in
set_option maxHeartbeats 400000 in
theorem StringQ_any (t : ByteArray) (w : World) : Calls Tryz.prog 212 #[.agg #[.string t]] w fun e w' => e = .returned (.string t) ∧ Only none w w' := by
  go_enter Tryz.func212, Tryz.ntmps212
  go_wp2
  go_ret
  exact ⟨rfl, by first | exact Only.refl _ _ | exact (Only.refl _ _).alloc _⟩

set_option maxRecDepth 100000 in
set_option maxHeartbeats 1000000 in
theorem handleMethodsQ_164 {b : Nat} {w : World} {s : PS} {v : Value} {ib : List Value} (h : PP b w s v ib) (he : s.err = false) (hsv : s.fl.sharpV = false) (t : ByteArray) {T : Bytes}
    (C : ∀ (W : World) (y : Value), Only none w W → Calls Tryz.prog 95 #[.pointer (some ⟨b, 0, none⟩), y, .agg #[], .string t, .int .i32 113] W (WroteI b w s v T)) :
    Calls Tryz.prog 97 #[.pointer (some ⟨b, 0, none⟩), .iface 164 (.agg #[.string t]), .agg #[], .int .i32 113] w fun e w' => e = .returned (.bool true) ∧ ∃ v' ib', PP b w' { s with out := s.out ++ T } v' ib' ∧ Fr b w v w' v' := by
  have c84 := h.c84
  have c10 := h.c10
  have hblt := h.lt
  rw [he] at c84
  rw [hsv] at c10
  have q182 := tq_164_182
  have q179 := tq_164_179
  have HC := Lib.hid C
  clear C h he hsv
  go_enter Tryz.func97, Tryz.ntmps97
  go_wp2_with fail
  go_region_with (first
    | (go_at_call 211; refine (ErrorQ_any t _).mono ?_; rintro e w1 ⟨rfl, hO1⟩; have HO1 := Lib.hid hO1; clear hO1)
    | (go_at_call 95; refine (HC.out _ _ ((((Only.refl _ _).alloc _).drew).trans HO1.out)).mono ?_; rintro e w2 ⟨rfl, hq⟩; have HQ := Lib.hid hq; clear hq))
  all_goals
    go_wp2_with fail
    go_ret
    exact ⟨rfl, HQ.out⟩

set_option maxRecDepth 100000 in
set_option maxHeartbeats 1000000 in
theorem printArgQ_164 {b : Nat} {w : World} {s : PS} {v : Value} (t : ByteArray) {T : Bytes}
    (C : Calls Tryz.prog 97 #[.pointer (some ⟨b, 0, none⟩), .iface 164 (.agg #[.string t]), .agg #[], .int .i32 113] w fun e w' => e = .returned (.bool true) ∧ ∃ v' ib', PP b w' { s with out := s.out ++ T } v' ib' ∧ Fr b w v w' v') :
    Calls Tryz.prog 78 #[.pointer (some ⟨b, 0, none⟩), .iface 164 (.agg #[.string t]), .int .i32 113] w (WroteI b w s v T) := by
  have q4 := ta_164_4
  have q149 := ta_164_149
  have q151 := ta_164_151
  have q152 := ta_164_152
  have q154 := ta_164_154
  have q3 := ta_164_3
  have q83 := ta_164_83
  have q84 := ta_164_84
  have q21 := ta_164_21
  have q2 := ta_164_2
  have q88 := ta_164_88
  have q5 := ta_164_5
  have q156 := ta_164_156
  have q53 := ta_164_53
  have q22 := ta_164_22
  have q12 := ta_164_12
  have q9 := ta_164_9
  have q26 := ta_164_26
  have HC := Lib.hid C
  clear C
  go_enter Tryz.func78, Tryz.ntmps78
  go_wp2_with (go_at_call 97; refine (HC.out).mono ?_; rintro e w' ⟨rfl, hq⟩)
  go_end0
  exact ⟨rfl, hq⟩

set_option maxRecDepth 100000 in
set_option maxHeartbeats 1000000 in
theorem handleMethodsQ_165 {b : Nat} {w : World} {s : PS} {v : Value} {ib : List Value} (h : PP b w s v ib) (he : s.err = false) (hsv : s.fl.sharpV = false) (t : ByteArray) {T : Bytes}
    (C : ∀ (W : World) (y : Value), Only none w W → Calls Tryz.prog 95 #[.pointer (some ⟨b, 0, none⟩), y, .agg #[], .string t, .int .i32 113] W (WroteI b w s v T)) :
    Calls Tryz.prog 97 #[.pointer (some ⟨b, 0, none⟩), .iface 165 (.agg #[.string t]), .agg #[], .int .i32 113] w fun e w' => e = .returned (.bool true) ∧ ∃ v' ib', PP b w' { s with out := s.out ++ T } v' ib' ∧ Fr b w v w' v' := by
  have c84 := h.c84
  have c10 := h.c10
  have hblt := h.lt
  rw [he] at c84
  rw [hsv] at c10
  have q182 := tq_165_182
  have q179 := tq_165_179
  have q189 := tq_165_189
  have HC := Lib.hid C
  clear C h he hsv
  go_enter Tryz.func97, Tryz.ntmps97
  go_wp2_with fail
  go_region_with (first
    | (go_at_call 212; refine (StringQ_any t _).mono ?_; rintro e w1 ⟨rfl, hO1⟩; have HO1 := Lib.hid hO1; clear hO1)
    | (go_at_call 95; refine (HC.out _ _ ((((Only.refl _ _).alloc _).drew).trans HO1.out)).mono ?_; rintro e w2 ⟨rfl, hq⟩; have HQ := Lib.hid hq; clear hq))
  all_goals
    go_wp2_with fail
    go_ret
    exact ⟨rfl, HQ.out⟩

set_option maxRecDepth 100000 in
set_option maxHeartbeats 1000000 in
theorem printArgQ_165 {b : Nat} {w : World} {s : PS} {v : Value} (t : ByteArray) {T : Bytes}
    (C : Calls Tryz.prog 97 #[.pointer (some ⟨b, 0, none⟩), .iface 165 (.agg #[.string t]), .agg #[], .int .i32 113] w fun e w' => e = .returned (.bool true) ∧ ∃ v' ib', PP b w' { s with out := s.out ++ T } v' ib' ∧ Fr b w v w' v') :
    Calls Tryz.prog 78 #[.pointer (some ⟨b, 0, none⟩), .iface 165 (.agg #[.string t]), .int .i32 113] w (WroteI b w s v T) := by
  have q4 := ta_165_4
  have q149 := ta_165_149
  have q151 := ta_165_151
  have q152 := ta_165_152
  have q154 := ta_165_154
  have q3 := ta_165_3
  have q83 := ta_165_83
  have q84 := ta_165_84
  have q21 := ta_165_21
  have q2 := ta_165_2
  have q88 := ta_165_88
  have q5 := ta_165_5
  have q156 := ta_165_156
  have q53 := ta_165_53
  have q22 := ta_165_22
  have q12 := ta_165_12
  have q9 := ta_165_9
  have q26 := ta_165_26
  have HC := Lib.hid C
  clear C
  go_enter Tryz.func78, Tryz.ntmps78
  go_wp2_with (go_at_call 97; refine (HC.out).mono ?_; rintro e w' ⟨rfl, hq⟩)
  go_end0
  exact ⟨rfl, hq⟩

instance (f : Fl) : Decidable (PlainQ f) := by unfold PlainQ; infer_instance
/-- what printArg writes of texts by the verb q, no flags -/
def paQ (T : Lib.PrintTabs) (a : Arg) (r : Int) (f : Fl) : Option Bytes :=
  match a with
  | .str t | .err t | .strg t => if r = 113 ∧ PlainQ f ∧ f.sharpV = false ∧ t.size ≤ 1000000 then some (padM f (quoB T t)) else none
  | .bytes t => if r = 113 ∧ PlainQ f ∧ t.length ≤ 1000000 then some (padM f (quoB T ⟨t.toArray⟩)) else none
  | _ => none
theorem paQ_rel (T : Lib.PrintTabs) (w0 : World) (hT : PT T w0) (a : Arg) : PaRel w0 (paQ T) a := by
  intro b w s v ib x r u hP hO he hf hA h0 h127 hp hl
  have hs0 : w0.heap.size ≤ w.heap.size := by have := hP.lt; have := hO.far; omega
  have hl2 : Fits (s.out.length + 1000000000) := hl.le (by omega)
  have key : ∀ t : ByteArray, t.size ≤ 1000000 → PlainQ s.fl → ∀ (W : World) (y : Value), Only none w W → Calls Tryz.prog 95 #[.pointer (some ⟨b, 0, none⟩), y, .agg #[], .string t, .int .i32 113] W (WroteI b w s v (padM s.fl (quoB T t))) := by
    intro t ht hq W y hOn
    have hF : Fr b w v W v := (Fr.refl b w v).only hOn (fun _ _ _ he => by cases he)
    exact (fmtString_q hT (hP.only hOn (fun _ _ _ he => by cases he)) (hO.step hs0 hF) y t ht hf hq hl2).mono fun e w' hq => wroteI_from hF hq
  cases a with
  | str t =>
    unfold paQ at hp
    simp only at hp
    split at hp
    · rename_i hc
      obtain ⟨rfl, hq, hsv, ht⟩ := hc
      cases hp
      cases hA
      exact printArg_9 t 113 (by decide) (by decide) fun y => key t ht hq w y (Only.refl _ _)
    · cases hp
  | err t =>
    unfold paQ at hp
    simp only at hp
    split at hp
    · rename_i hc
      obtain ⟨rfl, hq, hsv, ht⟩ := hc
      cases hp
      cases hA
      exact printArgQ_164 t (handleMethodsQ_164 hP he hsv t (key t ht hq))
    · cases hp
  | strg t =>
    unfold paQ at hp
    simp only at hp
    split at hp
    · rename_i hc
      obtain ⟨rfl, hq, hsv, ht⟩ := hc
      cases hp
      cases hA
      exact printArgQ_165 t (handleMethodsQ_165 hP he hsv t (key t ht hq))
    · cases hp
  | bytes t =>
    unfold paQ at hp
    simp only at hp
    split at hp
    · rename_i hc
      obtain ⟨rfl, hq, ht⟩ := hc
      cases hp
      obtain ⟨y, rfl, hOut⟩ := hA
      exact printArg_26 y 113 (by decide) (by decide) fun nm => fmtBytes_q hT hP hO y t hOut ht nm hf hq hl2
    · cases hp
  | nil => cases hp
  | bool y => cases hp
  | int ty k n => cases hp
  | f32 y => cases hp
  | f64 y => cases hp

end Go.Proofs.YtcbliojofnigdaaGreatDoor
