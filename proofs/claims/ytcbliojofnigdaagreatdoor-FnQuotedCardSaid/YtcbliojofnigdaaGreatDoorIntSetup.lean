/- What FnInteger's formats and integers are. A map literal of bytes to ints, made by the call and looked up. -/
import Derived.Test.YtcbliojofnigdaaGreatDoorPaInt
import Derived.Test.YtcbliojofnigdaaGreatDoorIntSpec
import Derived.Test.YtcbliojofnigdaaGreatDoorFlagNA
import Derived.Test.YtcbliojofnigdaaGreatDoorFlagNB
import Derived.Test.YtcbliojofnigdaaGreatDoorArgs
import Derived.Maps.OwnOps
namespace Go.Proofs.YtcbliojofnigdaaGreatDoor
open Go Go.Proofs Go.RowKit Go.Maps

theorem uw (x : Int) : IntKind.u64.wrap (wrap64 x) = uN x := by rw [IntKind.wrap_u64]; unfold wrap64 uN; omega
theorem Integer_yes (z : LA) (hk : 2 ≤ z.kind ∧ z.kind ≤ 12) (h0 : 0 ≤ z.bits) (h1 : z.bits ≤ 18446744073709551615) : ∃ ty k n, argOf z = some (.int ty k n) ∧
    ∀ w, Calls Tryz.prog 18 #[z.val] w fun e w' => e = .returned (.tuple #[.int .u64 (uN n), .bool (sgK k), .bool true]) ∧ Only none w w' := by
  obtain ⟨kind, bits, text⟩ := z
  simp only at hk h0 h1
  have e64 : uN (wrap64 bits) = bits := by unfold uN wrap64; omega
  have eu : uN bits = bits := by unfold uN; omega
  have e8 : uN (IntKind.u8.wrap bits) = bits % 256 := by rw [IntKind.wrap_u8]; unfold uN; omega
  have e16 : uN (IntKind.u16.wrap bits) = bits % 65536 := by simp only [IntKind.wrap, IntKind.bits, IntKind.signed]; unfold uN; simp; omega
  have e32 : uN (IntKind.u32.wrap bits) = bits % 4294967296 := by simp only [IntKind.wrap, IntKind.bits, IntKind.signed]; unfold uN; simp; omega
  rcases (by omega : kind = 2 ∨ kind = 3 ∨ kind = 4 ∨ kind = 5 ∨ kind = 6 ∨ kind = 7 ∨ kind = 8 ∨ kind = 9 ∨ kind = 10 ∨ kind = 11 ∨ kind = 12) with rfl | rfl | rfl | rfl | rfl | rfl | rfl | rfl | rfl | rfl | rfl
  · exact ⟨3, .i64, wrap64 bits, rfl, fun w => by rw [e64]; exact Integer_2 bits h0 h1 text w⟩
  · exact ⟨83, .i8, IntKind.i8.wrap bits, rfl, fun w => by rw [← uw]; exact Integer_3 bits h0 h1 text w⟩
  · exact ⟨84, .i16, IntKind.i16.wrap bits, rfl, fun w => by rw [← uw]; exact Integer_4 bits h0 h1 text w⟩
  · exact ⟨21, .i32, wrap32 bits, rfl, fun w => by rw [← uw]; exact Integer_5 bits h0 h1 text w⟩
  · exact ⟨2, .i64, wrap64 bits, rfl, fun w => by rw [e64]; exact Integer_6 bits h0 h1 text w⟩
  · exact ⟨88, .u64, bits, rfl, fun w => by rw [eu]; exact Integer_7 bits h0 h1 text w⟩
  · exact ⟨5, .u8, IntKind.u8.wrap bits, rfl, fun w => by rw [e8]; exact Integer_8 bits h0 h1 text w⟩
  · exact ⟨156, .u16, IntKind.u16.wrap bits, rfl, fun w => by rw [e16]; exact Integer_9 bits h0 h1 text w⟩
  · exact ⟨53, .u32, IntKind.u32.wrap bits, rfl, fun w => by rw [e32]; exact Integer_10 bits h0 h1 text w⟩
  · exact ⟨22, .u64, bits, rfl, fun w => by rw [eu]; exact Integer_11 bits h0 h1 text w⟩
  · exact ⟨12, .u64, bits, rfl, fun w => by rw [eu]; exact Integer_12 bits h0 h1 text w⟩

/-- laws.flags without a precision -/
theorem flags_no (n wid : Int) : ∃ (b0 b1 b2 b3 b4 : Bool) (r : Nat), r < 200 ∧ ∀ w : World, Calls Tryz.prog 21 #[.int .i64 n, .int .i64 wid, .int .i64 (-1)] w fun e w' => e = .returned (.tuple #[(sfOf b0 b1 b2 b3 b4 r none).val, .string ⟨(fmtOf b0 b1 b2 b3 b4 r none).toArray⟩]) ∧ Only none w w' := by
  have hp : (-1 : Int) < 0 := by decide
  have key : wid < 0 ∨ (0 ≤ wid ∧ wid % 200 = 0) ∨ (0 ≤ wid ∧ ∃ r : Nat, wid % 200 = (r : Int) ∧ 0 < r ∧ r < 200) := by
    by_cases h : wid < 0
    · exact .inl h
    · by_cases h2 : wid % 200 = 0
      · exact .inr (.inl ⟨by omega, h2⟩)
      · exact .inr (.inr ⟨by omega, (wid % 200).toNat, by omega, by omega, by omega⟩)
  cases k0 : bitN n 0 <;> cases k4 : bitN n 4 <;> rcases key with h | ⟨h, h2⟩ | ⟨h, r, h2, h3, h4⟩
  · exact ⟨_, _, _, _, _, 0, by decide, fun w => flags_ff_nn n wid (-1) k0 k4 h hp w⟩
  · exact ⟨_, _, _, _, _, 0, by decide, fun w => flags_ff_zn n wid (-1) k0 k4 h h2 hp w⟩
  · exact ⟨_, _, _, _, _, r, h4, fun w => flags_ff_pn n wid (-1) k0 k4 h r h2 h3 hp w⟩
  · exact ⟨_, _, _, _, _, 0, by decide, fun w => flags_ft_nn n wid (-1) k0 k4 h hp w⟩
  · exact ⟨_, _, _, _, _, 0, by decide, fun w => flags_ft_zn n wid (-1) k0 k4 h h2 hp w⟩
  · exact ⟨_, _, _, _, _, r, h4, fun w => flags_ft_pn n wid (-1) k0 k4 h r h2 h3 hp w⟩
  · exact ⟨_, _, _, _, _, 0, by decide, fun w => flags_tf_nn n wid (-1) k0 k4 h hp w⟩
  · exact ⟨_, _, _, _, _, 0, by decide, fun w => flags_tf_zn n wid (-1) k0 k4 h h2 hp w⟩
  · exact ⟨_, _, _, _, _, r, h4, fun w => flags_tf_pn n wid (-1) k0 k4 h r h2 h3 hp w⟩
  · exact ⟨_, _, _, _, _, 0, by decide, fun w => flags_tt_nn n wid (-1) k0 k4 h hp w⟩
  · exact ⟨_, _, _, _, _, 0, by decide, fun w => flags_tt_zn n wid (-1) k0 k4 h h2 hp w⟩
  · exact ⟨_, _, _, _, _, r, h4, fun w => flags_tt_pn n wid (-1) k0 k4 h r h2 h3 hp w⟩

theorem rep_len (c : UInt8) (n : Int) : (rep c n).length = n.toNat := by unfold rep; rw [List.length_replicate]
theorem specPad_len (f : SF) (s : Bytes) (h : f.wid ≤ 1000) : (specPad f s).length ≤ s.length + 1000 := by
  unfold specPad
  split
  · omega
  · split
    · rw [List.length_append, rep_len]; omega
    · split <;> rw [List.length_append, rep_len] <;> omega
theorem specInt_len (f : SF) (u : Int) (h0 : 0 ≤ u) (h1 : u ≤ 18446744073709551615) (base : Nat) (hb : base = 10 ∨ base = 16 ∨ base = 8 ∨ base = 2) (sg : Bool) (letter : Int) (up : Bool) (x : Bytes) (hw : f.wid ≤ 1000) (h : specInt f u base sg letter up = some x) : x.length ≤ 3000 := by
  have hsl := sgnS_len f (negU sg u)
  have hhd := (headS_small f base letter up).2
  have hdl : (digits base up 64 (absU sg u)).length ≤ 64 := digits_len base up (by omega) 63 64 _ (Nat.lt_of_lt_of_le (absU_lt sg u h0 h1) (by rcases hb with rfl | rfl | rfl | rfl <;> decide))
  have hs1 : (sgnS f (negU sg u)).length ≤ 1 := by rw [hsl]; split <;> decide
  unfold specInt at h
  split at h
  · cases h
  · split at h
    · split at h
      · cases h
        simp only [List.length_append, rep_len]
        omega
      · cases h
    · cases h
      refine Nat.le_trans (specPad_len f _ hw) ?_
      simp only [List.length_append]
      omega

/-- all that FnInteger asks of its format -/
theorem int_setup (z : LA) (ty : Nat) (k : IntKind) (n : Int) (hz : argOf z = some (.int ty k n)) (h0 : 0 ≤ z.bits) (h1 : z.bits ≤ 18446744073709551615) (bits wid : Int) : ∃ (f : SF) (P : ByteArray), P.size ≤ 100 ∧ f.hasPrec = false ∧ 0 ≤ f.wid ∧ f.wid ≤ 1000000 ∧
    (∀ w : World, Calls Tryz.prog 21 #[.int .i64 bits, .int .i64 wid, .int .i64 (-1)] w fun e w' => e = .returned (.tuple #[f.val, .string P]) ∧ Only none w w') ∧
    (∀ (vb : UInt8) (base : Nat) (up : Bool), verbB vb → ((vb.toNat : Int) = 118 ∨ (vb.toNat : Int) = 100 ∨ (vb.toNat : Int) = 98 ∨ (vb.toNat : Int) = 111 ∨ (vb.toNat : Int) = 79 ∨ (vb.toNat : Int) = 120 ∨ (vb.toNat : Int) = 88) → ((vb.toNat : Int) = 118 → f.sharp = false ∧ f.plus = false) → base = vbase vb.toNat → up = decide ((vb.toNat : Int) = 88) →
      ∀ x, specInt f (uN n) base (sgK k) vb.toNat up = some x → ∀ w : World, Calls Tryz.prog 20 #[.string (P ++ ⟨#[vb]⟩), z.val] w fun e w' => e = .returned (.string ⟨x.toArray⟩) ∧ Only none w w') := by
  obtain ⟨b0, b1, b2, b3, b4, r, hr, C⟩ := flags_no bits wid
  refine ⟨sfOf b0 b1 b2 b3 b4 r none, ⟨(fmtOf b0 b1 b2 b3 b4 r none).toArray⟩, ?_, rfl, ?_, ?_, C, ?_⟩
  · rw [str_size]
    have hn := widB_num r (by omega)
    have hfl : (flagB b0 b1 b2 b3 b4).length ≤ 5 := by cases b0 <;> cases b1 <;> cases b2 <;> cases b3 <;> cases b4 <;> decide
    have := hn.2.2.1
    simp only [fmtOf, List.length_append, List.length_cons, Option.map_none, precB, List.length_nil]
    omega
  · show (0 : Int) ≤ (r : Int); omega
  · show (r : Int) ≤ 1000000; omega
  · intro vb base up hv hvs hv118 hbase hup x hx w
    have e : (⟨(fmtOf b0 b1 b2 b3 b4 r none).toArray⟩ : ByteArray) ++ ⟨#[vb]⟩ = ⟨(fmtOf b0 b1 b2 b3 b4 r none ++ [vb]).toArray⟩ := (str_of (by rw [append_list])).symm
    rw [e]
    have hu0 : 0 ≤ uN n := by unfold uN; omega
    have hu1 : uN n ≤ 18446744073709551615 := by unfold uN; omega
    have hb : base = 2 ∨ base = 8 ∨ base = 10 ∨ base = 16 := by
      rw [hbase]
      unfold vbase
      split
      · exact .inl rfl
      · split
        · exact .inr (.inl rfl)
        · split
          · exact .inr (.inr (.inr rfl))
          · exact .inr (.inr (.inl rfl))
    have hlen := specInt_len (sfOf b0 b1 b2 b3 b4 r none) (uN n) hu0 hu1 base (by omega) (sgK k) vb.toNat up x (by show (r : Int) ≤ 1000; omega) hx
    refine one_fl b0 b1 b2 b3 b4 r none hr (fun _ h => by cases h) vb hv (by omega) (known_one hz h0 h1) (fun b => paI_ok b ty k n) x (by show _ ≤ _; omega) ?_ w
    obtain ⟨fl, hfl⟩ : ∃ fl, fl = (flOf b0 b1 b2 b3 b4 r none).forVerb vb.toNat := ⟨_, rfl⟩
    have hfacts : fl.sharpV = false ∧ fl.widP = decide (r ≠ 0) ∧ fl.wid = (r : Int) ∧ fl.precP = false ∧ fl.minus = b0 ∧ fl.plus = b1 ∧ fl.sharp = b2 ∧ fl.space = b3 ∧ fl.zero = (b4 && !b0) := by
      rw [hfl]
      unfold Fl.forVerb
      split
      · rename_i h118
        have h := hv118 h118
        have hb2 : b2 = false := h.1
        have hb1 : b1 = false := h.2
        subst hb2 hb1
        exact ⟨rfl, rfl, rfl, rfl, rfl, rfl, rfl, rfl, rfl⟩
      · exact ⟨rfl, rfl, rfl, rfl, rfl, rfl, rfl, rfl, rfl⟩
    rw [← hfl]
    obtain ⟨f1, f2, f3, f4, f5, f6, f7, f8, f9⟩ := hfacts
    unfold paI
    simp only
    rw [if_pos ⟨hvs, f1⟩]
    congr 1
    unfold intT
    rw [← hbase, ← hup]
    refine intM_spec fl (sfOf b0 b1 b2 b3 b4 r none) (uN n) base (sgK k) vb.toNat up x hb hu0 hu1 f2 (fun hw => ?_) f4 f5 f6 f7 f8 f9 hx
    have : r ≠ 0 := of_decide_eq_true hw
    exact ⟨f3, by show (0 : Int) < (r : Int); omega⟩

/-- an entry of a map literal -/
theorem wpList_insert_own {P : Program} (w : World) {ops : Array Oper} {rest : List Oper} {o : Oper} {a : Act} {Q : Exit → Act → World → Prop}
    (hg : o.guard = none) (m x v : Operand) (t : TypeId) (hop : o.op = Op.insert t m x v)
    (k e : TypeId) (K : Keyed P k) (ht : P.underlying t = some (.map k e)) (R : Value → Option (DataW Unit × List MemPlace)) (b n : Nat) (D : DataW Unit)
    (hm : a.eval m = .map (some b)) (hown : w.ownsMap P k R b n D) (hn : n < maxLen) (key val : Value) (kl : Lit) (hx : a.eval x = key) (hv : a.eval v = val) (hkey : keyOf P k key = some kl)
    (d : DataW Unit) (ps : List MemPlace) (hval : R val = some (d, ps))
    (hK : ∀ w', w'.ownsMap P k R b (n + 1) (D.put kl d) → w.grownBy w' (some b) → wpList P ops Q rest (a.put o.dst undef) w') :
    wpList P ops Q (o :: rest) a w := by
  refine wpList_plain hg fun K' hK' => ?_
  obtain ⟨w', hrun, r1, r2⟩ := hown.update K ht hn hkey hval
  unfold Oper.wp
  simp [execOp, hop, hm, hx, hv, hrun, Result.andThen]
  exact hK' _ _ (hK w' r1 r2)

/-- the same, for what lies behind a world W -/
theorem wpList_entry {P : Program} (W w : World) {ops : Array Oper} {rest : List Oper} {o : Oper} {a : Act} {Q : Exit → Act → World → Prop}
    (hg : o.guard = none) (m x v : Operand) (t : TypeId) (hop : o.op = Op.insert t m x v)
    (k e : TypeId) (K : Keyed P k) (ht : P.underlying t = some (.map k e)) (R : Value → Option (DataW Unit × List MemPlace)) (b n : Nat) (D : DataW Unit)
    (hm : a.eval m = .map (some b)) (hown : w.ownsMap P k R b n D ∧ Only none W w ∧ W.heap.size ≤ b) (hn : n < maxLen) (key val : Value) (kl : Lit) (hx : a.eval x = key) (hv : a.eval v = val) (hkey : keyOf P k key = some kl)
    (d : DataW Unit) (ps : List MemPlace) (hval : R val = some (d, ps))
    (hK : ∀ w', (w'.ownsMap P k R b (n + 1) (D.put kl d) ∧ Only none W w' ∧ W.heap.size ≤ b) → wpList P ops Q rest (a.put o.dst undef) w') :
    wpList P ops Q (o :: rest) a w := by
  refine wpList_insert_own w hg m x v t hop k e K ht R b n D hm hown.1 hn key val kl hx hv hkey d ps hval fun w' h1 hgr => hK w' ⟨h1, ?_, hown.2.2⟩
  have h := hown.2.1
  refine ⟨hgr.os.trans h.os, hgr.tape.trans h.tape, hgr.output.trans h.output, Nat.le_trans h.size hgr.size, fun i hi _ => ?_, fun _ _ _ _ _ _ he => by cases he⟩
  rw [hgr.block i (Nat.lt_of_lt_of_le hi h.size) (fun he => by cases he; have := hown.2.2; omega)]
  exact h.other i hi (fun _ _ _ he => by cases he)
theorem made_at {P : Program} {k : TypeId} {R : Value → Option (DataW Unit × List MemPlace)} (W : World) (b : Nat) (hb : b = W.heap.size) : (W.alloc (.map #[] 0)).ownsMap P k R b 0 (.map []) ∧ Only none W (W.alloc (.map #[] 0)) ∧ W.heap.size ≤ b := by
  subst hb
  exact ⟨World.ownsMap_made _ _ _ _, (Only.refl _ _).alloc _, Nat.le_refl _⟩

/-- a look-up whose answer is known -/
theorem wpList_look {P : Program} (W w : World) {ops : Array Oper} {rest : List Oper} {o : Oper} {a : Act} {Q : Exit → Act → World → Prop}
    (hg : o.guard = none) (m x : Operand) (t : TypeId) (hop : o.op = Op.lookup t m x false)
    (k e : TypeId) (q : IntKind) (K : Keyed P k) (ht : P.underlying t = some (.map k e)) (he : P.underlying e = some (.int q)) (hz : (zeroValue e).run P w = .ok (.int q 0) w) (b n : Nat) (D : DataW Unit)
    (hm : a.eval m = .map (some b)) (hown : w.ownsMap P k (plainElem P e) b n D ∧ Only none W w ∧ W.heap.size ≤ b) (key : Value) (kl : Lit) (hx : a.eval x = key) (hkey : keyOf P k key = some kl)
    (c : Int) (hval : D.atKey kl (.lit (.int q 0)) = .lit (.int q c))
    (hK : wpList P ops Q rest (a.put o.dst (.int q c)) w) :
    wpList P ops Q (o :: rest) a w := by
  refine wpList_lookup_own_int w hg m x t hop k e q K ht he hz b n D hm hown.1 key kl hx hkey fun c' hat _ => ?_
  rw [hval] at hat
  injection hat with h1
  injection h1 with _ h2
  subst h2
  exact hK

theorem law5 : Keyed Tryz.prog 5 := int_keyed Tryz.underlying5
theorem zero3 (w : World) : (zeroValue 3).run Tryz.prog w = .ok (.int .i64 0) w := by kernel_rfl
theorem key5 (n : Int) (h : (Lit.int .u8 n).wf = true) : keyOf Tryz.prog 5 (.int .u8 n) = some (.int .u8 n) := keyOf_int_mk Tryz.underlying5 h
theorem elem3 (n : Int) (h : (Lit.int .i64 n).wf = true) : plainElem (H := Unit) Tryz.prog 3 (.int .i64 n) = some (.lit (.int .i64 n), []) := plainElem_int Tryz.underlying3 h

/-- the bases by the verbs -/
def bases : DataW Unit := (((((((DataW.map []).put (.int .u8 100) (.lit (.int .i64 10))).put (.int .u8 118) (.lit (.int .i64 10))).put (.int .u8 98) (.lit (.int .i64 2))).put (.int .u8 111) (.lit (.int .i64 8))).put (.int .u8 79) (.lit (.int .i64 8))).put (.int .u8 120) (.lit (.int .i64 16))).put (.int .u8 88) (.lit (.int .i64 16))
theorem bases_100 : bases.atKey (.int .u8 100) (.lit (.int .i64 0)) = .lit (.int .i64 10) := by rfl
theorem bases_118 : bases.atKey (.int .u8 118) (.lit (.int .i64 0)) = .lit (.int .i64 10) := by rfl
theorem bases_98 : bases.atKey (.int .u8 98) (.lit (.int .i64 0)) = .lit (.int .i64 2) := by rfl
theorem bases_111 : bases.atKey (.int .u8 111) (.lit (.int .i64 0)) = .lit (.int .i64 8) := by rfl
theorem bases_79 : bases.atKey (.int .u8 79) (.lit (.int .i64 0)) = .lit (.int .i64 8) := by rfl
theorem bases_120 : bases.atKey (.int .u8 120) (.lit (.int .i64 0)) = .lit (.int .i64 16) := by rfl
theorem bases_88 : bases.atKey (.int .u8 88) (.lit (.int .i64 0)) = .lit (.int .i64 16) := by rfl

end Go.Proofs.YtcbliojofnigdaaGreatDoor
