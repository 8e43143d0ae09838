/- typeName at each type (printed by tools/gen_tname.py). -/
import Derived.Test.YtcbliojofnigdaaGreatDoorArgNum
namespace Go.Proofs.YtcbliojofnigdaaGreatDoor
open Go Go.Proofs Go.RowKit

set_option maxRecDepth 100000 in
set_option maxHeartbeats 1000000 in
theorem tname_4 (v : Value) (w : World) : Calls Tryz.prog 86 #[.iface 4 v] w fun e w' => e = .returned (.string ⟨(lit "bool").toArray⟩) ∧ w = w' := by
  have hn : ByteArray.mk (lit "bool").toArray = ⟨#[98, 111, 111, 108]⟩ := by decide +kernel
  rw [hn]
  clear hn
  have q4 := ta_4_4
  go_enter Tryz.func86, Tryz.ntmps86
  go_wp2
  go_ret
  exact ⟨rfl, rfl⟩

set_option maxRecDepth 100000 in
set_option maxHeartbeats 1000000 in
theorem tname_3 (v : Value) (w : World) : Calls Tryz.prog 86 #[.iface 3 v] w fun e w' => e = .returned (.string ⟨(lit "int").toArray⟩) ∧ w = w' := by
  have hn : ByteArray.mk (lit "int").toArray = ⟨#[105, 110, 116]⟩ := by decide +kernel
  rw [hn]
  clear hn
  have q4 := ta_3_4
  have q3 := ta_3_3
  go_enter Tryz.func86, Tryz.ntmps86
  go_wp2
  go_ret
  exact ⟨rfl, rfl⟩

set_option maxRecDepth 100000 in
set_option maxHeartbeats 1000000 in
theorem tname_83 (v : Value) (w : World) : Calls Tryz.prog 86 #[.iface 83 v] w fun e w' => e = .returned (.string ⟨(lit "int8").toArray⟩) ∧ w = w' := by
  have hn : ByteArray.mk (lit "int8").toArray = ⟨#[105, 110, 116, 56]⟩ := by decide +kernel
  rw [hn]
  clear hn
  have q4 := ta_83_4
  have q3 := ta_83_3
  have q83 := ta_83_83
  go_enter Tryz.func86, Tryz.ntmps86
  go_wp2
  go_ret
  exact ⟨rfl, rfl⟩

set_option maxRecDepth 100000 in
set_option maxHeartbeats 1000000 in
theorem tname_84 (v : Value) (w : World) : Calls Tryz.prog 86 #[.iface 84 v] w fun e w' => e = .returned (.string ⟨(lit "int16").toArray⟩) ∧ w = w' := by
  have hn : ByteArray.mk (lit "int16").toArray = ⟨#[105, 110, 116, 49, 54]⟩ := by decide +kernel
  rw [hn]
  clear hn
  have q4 := ta_84_4
  have q3 := ta_84_3
  have q83 := ta_84_83
  have q84 := ta_84_84
  go_enter Tryz.func86, Tryz.ntmps86
  go_wp2
  go_ret
  exact ⟨rfl, rfl⟩

set_option maxRecDepth 100000 in
set_option maxHeartbeats 1000000 in
theorem tname_21 (v : Value) (w : World) : Calls Tryz.prog 86 #[.iface 21 v] w fun e w' => e = .returned (.string ⟨(lit "int32").toArray⟩) ∧ w = w' := by
  have hn : ByteArray.mk (lit "int32").toArray = ⟨#[105, 110, 116, 51, 50]⟩ := by decide +kernel
  rw [hn]
  clear hn
  have q4 := ta_21_4
  have q3 := ta_21_3
  have q83 := ta_21_83
  have q84 := ta_21_84
  have q21 := ta_21_21
  go_enter Tryz.func86, Tryz.ntmps86
  go_wp2
  go_ret
  exact ⟨rfl, rfl⟩

set_option maxRecDepth 100000 in
set_option maxHeartbeats 1000000 in
theorem tname_2 (v : Value) (w : World) : Calls Tryz.prog 86 #[.iface 2 v] w fun e w' => e = .returned (.string ⟨(lit "int64").toArray⟩) ∧ w = w' := by
  have hn : ByteArray.mk (lit "int64").toArray = ⟨#[105, 110, 116, 54, 52]⟩ := by decide +kernel
  rw [hn]
  clear hn
  have q4 := ta_2_4
  have q3 := ta_2_3
  have q83 := ta_2_83
  have q84 := ta_2_84
  have q21 := ta_2_21
  have q2 := ta_2_2
  go_enter Tryz.func86, Tryz.ntmps86
  go_wp2
  go_ret
  exact ⟨rfl, rfl⟩

set_option maxRecDepth 100000 in
set_option maxHeartbeats 1000000 in
theorem tname_88 (v : Value) (w : World) : Calls Tryz.prog 86 #[.iface 88 v] w fun e w' => e = .returned (.string ⟨(lit "uint").toArray⟩) ∧ w = w' := by
  have hn : ByteArray.mk (lit "uint").toArray = ⟨#[117, 105, 110, 116]⟩ := by decide +kernel
  rw [hn]
  clear hn
  have q4 := ta_88_4
  have q3 := ta_88_3
  have q83 := ta_88_83
  have q84 := ta_88_84
  have q21 := ta_88_21
  have q2 := ta_88_2
  have q88 := ta_88_88
  go_enter Tryz.func86, Tryz.ntmps86
  go_wp2
  go_ret
  exact ⟨rfl, rfl⟩

set_option maxRecDepth 100000 in
set_option maxHeartbeats 1000000 in
theorem tname_5 (v : Value) (w : World) : Calls Tryz.prog 86 #[.iface 5 v] w fun e w' => e = .returned (.string ⟨(lit "uint8").toArray⟩) ∧ w = w' := by
  have hn : ByteArray.mk (lit "uint8").toArray = ⟨#[117, 105, 110, 116, 56]⟩ := by decide +kernel
  rw [hn]
  clear hn
  have q4 := ta_5_4
  have q3 := ta_5_3
  have q83 := ta_5_83
  have q84 := ta_5_84
  have q21 := ta_5_21
  have q2 := ta_5_2
  have q88 := ta_5_88
  have q5 := ta_5_5
  go_enter Tryz.func86, Tryz.ntmps86
  go_wp2
  go_ret
  exact ⟨rfl, rfl⟩

set_option maxRecDepth 100000 in
set_option maxHeartbeats 1000000 in
theorem tname_156 (v : Value) (w : World) : Calls Tryz.prog 86 #[.iface 156 v] w fun e w' => e = .returned (.string ⟨(lit "uint16").toArray⟩) ∧ w = w' := by
  have hn : ByteArray.mk (lit "uint16").toArray = ⟨#[117, 105, 110, 116, 49, 54]⟩ := by decide +kernel
  rw [hn]
  clear hn
  have q4 := ta_156_4
  have q3 := ta_156_3
  have q83 := ta_156_83
  have q84 := ta_156_84
  have q21 := ta_156_21
  have q2 := ta_156_2
  have q88 := ta_156_88
  have q5 := ta_156_5
  have q156 := ta_156_156
  go_enter Tryz.func86, Tryz.ntmps86
  go_wp2
  go_ret
  exact ⟨rfl, rfl⟩

set_option maxRecDepth 100000 in
set_option maxHeartbeats 1000000 in
theorem tname_53 (v : Value) (w : World) : Calls Tryz.prog 86 #[.iface 53 v] w fun e w' => e = .returned (.string ⟨(lit "uint32").toArray⟩) ∧ w = w' := by
  have hn : ByteArray.mk (lit "uint32").toArray = ⟨#[117, 105, 110, 116, 51, 50]⟩ := by decide +kernel
  rw [hn]
  clear hn
  have q4 := ta_53_4
  have q3 := ta_53_3
  have q83 := ta_53_83
  have q84 := ta_53_84
  have q21 := ta_53_21
  have q2 := ta_53_2
  have q88 := ta_53_88
  have q5 := ta_53_5
  have q156 := ta_53_156
  have q53 := ta_53_53
  go_enter Tryz.func86, Tryz.ntmps86
  go_wp2
  go_ret
  exact ⟨rfl, rfl⟩

set_option maxRecDepth 100000 in
set_option maxHeartbeats 1000000 in
theorem tname_22 (v : Value) (w : World) : Calls Tryz.prog 86 #[.iface 22 v] w fun e w' => e = .returned (.string ⟨(lit "uint64").toArray⟩) ∧ w = w' := by
  have hn : ByteArray.mk (lit "uint64").toArray = ⟨#[117, 105, 110, 116, 54, 52]⟩ := by decide +kernel
  rw [hn]
  clear hn
  have q4 := ta_22_4
  have q3 := ta_22_3
  have q83 := ta_22_83
  have q84 := ta_22_84
  have q21 := ta_22_21
  have q2 := ta_22_2
  have q88 := ta_22_88
  have q5 := ta_22_5
  have q156 := ta_22_156
  have q53 := ta_22_53
  have q22 := ta_22_22
  go_enter Tryz.func86, Tryz.ntmps86
  go_wp2
  go_ret
  exact ⟨rfl, rfl⟩

set_option maxRecDepth 100000 in
set_option maxHeartbeats 1000000 in
theorem tname_12 (v : Value) (w : World) : Calls Tryz.prog 86 #[.iface 12 v] w fun e w' => e = .returned (.string ⟨(lit "uintptr").toArray⟩) ∧ w = w' := by
  have hn : ByteArray.mk (lit "uintptr").toArray = ⟨#[117, 105, 110, 116, 112, 116, 114]⟩ := by decide +kernel
  rw [hn]
  clear hn
  have q4 := ta_12_4
  have q3 := ta_12_3
  have q83 := ta_12_83
  have q84 := ta_12_84
  have q21 := ta_12_21
  have q2 := ta_12_2
  have q88 := ta_12_88
  have q5 := ta_12_5
  have q156 := ta_12_156
  have q53 := ta_12_53
  have q22 := ta_12_22
  have q12 := ta_12_12
  go_enter Tryz.func86, Tryz.ntmps86
  go_wp2
  go_ret
  exact ⟨rfl, rfl⟩

set_option maxRecDepth 100000 in
set_option maxHeartbeats 1000000 in
theorem tname_149 (v : Value) (w : World) : Calls Tryz.prog 86 #[.iface 149 v] w fun e w' => e = .returned (.string ⟨(lit "float32").toArray⟩) ∧ w = w' := by
  have hn : ByteArray.mk (lit "float32").toArray = ⟨#[102, 108, 111, 97, 116, 51, 50]⟩ := by decide +kernel
  rw [hn]
  clear hn
  have q4 := ta_149_4
  have q3 := ta_149_3
  have q83 := ta_149_83
  have q84 := ta_149_84
  have q21 := ta_149_21
  have q2 := ta_149_2
  have q88 := ta_149_88
  have q5 := ta_149_5
  have q156 := ta_149_156
  have q53 := ta_149_53
  have q22 := ta_149_22
  have q12 := ta_149_12
  have q149 := ta_149_149
  go_enter Tryz.func86, Tryz.ntmps86
  go_wp2
  go_ret
  exact ⟨rfl, rfl⟩

set_option maxRecDepth 100000 in
set_option maxHeartbeats 1000000 in
theorem tname_151 (v : Value) (w : World) : Calls Tryz.prog 86 #[.iface 151 v] w fun e w' => e = .returned (.string ⟨(lit "float64").toArray⟩) ∧ w = w' := by
  have hn : ByteArray.mk (lit "float64").toArray = ⟨#[102, 108, 111, 97, 116, 54, 52]⟩ := by decide +kernel
  rw [hn]
  clear hn
  have q4 := ta_151_4
  have q3 := ta_151_3
  have q83 := ta_151_83
  have q84 := ta_151_84
  have q21 := ta_151_21
  have q2 := ta_151_2
  have q88 := ta_151_88
  have q5 := ta_151_5
  have q156 := ta_151_156
  have q53 := ta_151_53
  have q22 := ta_151_22
  have q12 := ta_151_12
  have q149 := ta_151_149
  have q151 := ta_151_151
  go_enter Tryz.func86, Tryz.ntmps86
  go_wp2
  go_ret
  exact ⟨rfl, rfl⟩

set_option maxRecDepth 100000 in
set_option maxHeartbeats 1000000 in
theorem tname_9 (v : Value) (w : World) : Calls Tryz.prog 86 #[.iface 9 v] w fun e w' => e = .returned (.string ⟨(lit "string").toArray⟩) ∧ w = w' := by
  have hn : ByteArray.mk (lit "string").toArray = ⟨#[115, 116, 114, 105, 110, 103]⟩ := by decide +kernel
  rw [hn]
  clear hn
  have q4 := ta_9_4
  have q3 := ta_9_3
  have q83 := ta_9_83
  have q84 := ta_9_84
  have q21 := ta_9_21
  have q2 := ta_9_2
  have q88 := ta_9_88
  have q5 := ta_9_5
  have q156 := ta_9_156
  have q53 := ta_9_53
  have q22 := ta_9_22
  have q12 := ta_9_12
  have q149 := ta_9_149
  have q151 := ta_9_151
  have q152 := ta_9_152
  have q154 := ta_9_154
  have q9 := ta_9_9
  go_enter Tryz.func86, Tryz.ntmps86
  go_wp2
  go_ret
  exact ⟨rfl, rfl⟩

set_option maxRecDepth 100000 in
set_option maxHeartbeats 1000000 in
theorem tname_26 (v : Value) (w : World) : Calls Tryz.prog 86 #[.iface 26 v] w fun e w' => e = .returned (.string ⟨(lit "[]uint8").toArray⟩) ∧ w = w' := by
  have hn : ByteArray.mk (lit "[]uint8").toArray = ⟨#[91, 93, 117, 105, 110, 116, 56]⟩ := by decide +kernel
  rw [hn]
  clear hn
  have q4 := ta_26_4
  have q3 := ta_26_3
  have q83 := ta_26_83
  have q84 := ta_26_84
  have q21 := ta_26_21
  have q2 := ta_26_2
  have q88 := ta_26_88
  have q5 := ta_26_5
  have q156 := ta_26_156
  have q53 := ta_26_53
  have q22 := ta_26_22
  have q12 := ta_26_12
  have q149 := ta_26_149
  have q151 := ta_26_151
  have q152 := ta_26_152
  have q154 := ta_26_154
  have q9 := ta_26_9
  have q26 := ta_26_26
  go_enter Tryz.func86, Tryz.ntmps86
  go_wp2
  go_ret
  exact ⟨rfl, rfl⟩

set_option maxRecDepth 100000 in
set_option maxHeartbeats 1000000 in
theorem tname_164 (v : Value) (w : World) : Calls Tryz.prog 86 #[.iface 164 v] w fun e w' => e = .returned (.string ⟨(lit "fmtprint.textError").toArray⟩) ∧ w = w' := by
  have hn : ByteArray.mk (lit "fmtprint.textError").toArray = ⟨#[102, 109, 116, 112, 114, 105, 110, 116, 46, 116, 101, 120, 116, 69, 114, 114, 111, 114]⟩ := by decide +kernel
  rw [hn]
  clear hn
  have q4 := ta_164_4
  have q3 := ta_164_3
  have q83 := ta_164_83
  have q84 := ta_164_84
  have q21 := ta_164_21
  have q2 := ta_164_2
  have q88 := ta_164_88
  have q5 := ta_164_5
  have q156 := ta_164_156
  have q53 := ta_164_53
  have q22 := ta_164_22
  have q12 := ta_164_12
  have q149 := ta_164_149
  have q151 := ta_164_151
  have q152 := ta_164_152
  have q154 := ta_164_154
  have q9 := ta_164_9
  have q26 := ta_164_26
  have q164 := ta_164_164
  go_enter Tryz.func86, Tryz.ntmps86
  go_wp2
  go_ret
  exact ⟨rfl, rfl⟩

set_option maxRecDepth 100000 in
set_option maxHeartbeats 1000000 in
theorem tname_165 (v : Value) (w : World) : Calls Tryz.prog 86 #[.iface 165 v] w fun e w' => e = .returned (.string ⟨(lit "fmtprint.textStringer").toArray⟩) ∧ w = w' := by
  have hn : ByteArray.mk (lit "fmtprint.textStringer").toArray = ⟨#[102, 109, 116, 112, 114, 105, 110, 116, 46, 116, 101, 120, 116, 83, 116, 114, 105, 110, 103, 101, 114]⟩ := by decide +kernel
  rw [hn]
  clear hn
  have q4 := ta_165_4
  have q3 := ta_165_3
  have q83 := ta_165_83
  have q84 := ta_165_84
  have q21 := ta_165_21
  have q2 := ta_165_2
  have q88 := ta_165_88
  have q5 := ta_165_5
  have q156 := ta_165_156
  have q53 := ta_165_53
  have q22 := ta_165_22
  have q12 := ta_165_12
  have q149 := ta_165_149
  have q151 := ta_165_151
  have q152 := ta_165_152
  have q154 := ta_165_154
  have q9 := ta_165_9
  have q26 := ta_165_26
  have q164 := ta_165_164
  have q165 := ta_165_165
  go_enter Tryz.func86, Tryz.ntmps86
  go_wp2
  go_ret
  exact ⟨rfl, rfl⟩

theorem typeName_any {b : Nat} {w : World} {v x : Value} {a : Arg} (h : ArgIs b w v x a) (hn : a ≠ .nil) (W : World) : Calls Tryz.prog 86 #[x] W fun e w' => e = .returned (.string ⟨a.name.toArray⟩) ∧ W = w' := by
  cases a with
  | nil => exact absurd rfl hn
  | bool y => cases h; exact tname_4 _ W
  | f32 y => obtain ⟨rfl, _⟩ := h; exact tname_149 _ W
  | f64 y => obtain ⟨rfl, _⟩ := h; exact tname_151 _ W
  | str y => cases h; exact tname_9 _ W
  | bytes y => obtain ⟨u, rfl, _⟩ := h; exact tname_26 _ W
  | err y => cases h; exact tname_164 _ W
  | strg y => cases h; exact tname_165 _ W
  | int ty k n =>
    obtain ⟨rfl, ⟨nm, hm⟩, h1, h2⟩ := h
    simp only [intTypes, List.mem_cons, Prod.mk.injEq, List.not_mem_nil, or_false] at hm
    rcases hm with ⟨rfl, rfl, _⟩ | ⟨rfl, rfl, _⟩ | ⟨rfl, rfl, _⟩ | ⟨rfl, rfl, _⟩ | ⟨rfl, rfl, _⟩ | ⟨rfl, rfl, _⟩ | ⟨rfl, rfl, _⟩ | ⟨rfl, rfl, _⟩ | ⟨rfl, rfl, _⟩ | ⟨rfl, rfl, _⟩ | ⟨rfl, rfl, _⟩
    · exact tname_3 _ W
    · exact tname_83 _ W
    · exact tname_84 _ W
    · exact tname_21 _ W
    · exact tname_2 _ W
    · exact tname_88 _ W
    · exact tname_5 _ W
    · exact tname_156 _ W
    · exact tname_53 _ W
    · exact tname_22 _ W
    · exact tname_12 _ W

end Go.Proofs.YtcbliojofnigdaaGreatDoor
