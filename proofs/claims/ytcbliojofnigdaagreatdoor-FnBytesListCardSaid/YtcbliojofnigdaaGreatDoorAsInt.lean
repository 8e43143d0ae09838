/- asInt at each type (printed by tools/gen_asint.py). -/
import Derived.Test.YtcbliojofnigdaaGreatDoorTypes
namespace Go.Proofs.YtcbliojofnigdaaGreatDoor
open Go Go.Proofs Go.RowKit

/-- asInt answers so -/
def AiAns (o : Option Int) (w : World) (e : Ending) (w' : World) : Prop := e = .returned (.tuple #[.int .i64 (o.getD 0), .bool o.isSome]) ∧ w = w'
set_option maxRecDepth 100000 in
set_option maxHeartbeats 1000000 in
theorem asInt_n (w : World) : Calls Tryz.prog 100 #[.nilIface] w (AiAns none w) := by
  have q3 := ta_n_3
  have q83 := ta_n_83
  have q84 := ta_n_84
  have q21 := ta_n_21
  have q2 := ta_n_2
  have q88 := ta_n_88
  have q5 := ta_n_5
  have q156 := ta_n_156
  have q53 := ta_n_53
  have q22 := ta_n_22
  have q12 := ta_n_12
  go_enter Tryz.func100, Tryz.ntmps100
  go_wp2
  go_ret2
  exact ⟨rfl, rfl⟩

set_option maxRecDepth 100000 in
set_option maxHeartbeats 1000000 in
theorem asInt_4 (v : Value) (w : World) : Calls Tryz.prog 100 #[.iface 4 v] w (AiAns none w) := by
  have q3 := ta_4_3
  have q83 := ta_4_83
  have q84 := ta_4_84
  have q21 := ta_4_21
  have q2 := ta_4_2
  have q88 := ta_4_88
  have q5 := ta_4_5
  have q156 := ta_4_156
  have q53 := ta_4_53
  have q22 := ta_4_22
  have q12 := ta_4_12
  go_enter Tryz.func100, Tryz.ntmps100
  go_wp2
  go_ret2
  exact ⟨rfl, rfl⟩

set_option maxRecDepth 100000 in
set_option maxHeartbeats 1000000 in
theorem asInt_149 (v : Value) (w : World) : Calls Tryz.prog 100 #[.iface 149 v] w (AiAns none w) := by
  have q3 := ta_149_3
  have q83 := ta_149_83
  have q84 := ta_149_84
  have q21 := ta_149_21
  have q2 := ta_149_2
  have q88 := ta_149_88
  have q5 := ta_149_5
  have q156 := ta_149_156
  have q53 := ta_149_53
  have q22 := ta_149_22
  have q12 := ta_149_12
  go_enter Tryz.func100, Tryz.ntmps100
  go_wp2
  go_ret2
  exact ⟨rfl, rfl⟩

set_option maxRecDepth 100000 in
set_option maxHeartbeats 1000000 in
theorem asInt_151 (v : Value) (w : World) : Calls Tryz.prog 100 #[.iface 151 v] w (AiAns none w) := by
  have q3 := ta_151_3
  have q83 := ta_151_83
  have q84 := ta_151_84
  have q21 := ta_151_21
  have q2 := ta_151_2
  have q88 := ta_151_88
  have q5 := ta_151_5
  have q156 := ta_151_156
  have q53 := ta_151_53
  have q22 := ta_151_22
  have q12 := ta_151_12
  go_enter Tryz.func100, Tryz.ntmps100
  go_wp2
  go_ret2
  exact ⟨rfl, rfl⟩

set_option maxRecDepth 100000 in
set_option maxHeartbeats 1000000 in
theorem asInt_9 (v : Value) (w : World) : Calls Tryz.prog 100 #[.iface 9 v] w (AiAns none w) := by
  have q3 := ta_9_3
  have q83 := ta_9_83
  have q84 := ta_9_84
  have q21 := ta_9_21
  have q2 := ta_9_2
  have q88 := ta_9_88
  have q5 := ta_9_5
  have q156 := ta_9_156
  have q53 := ta_9_53
  have q22 := ta_9_22
  have q12 := ta_9_12
  go_enter Tryz.func100, Tryz.ntmps100
  go_wp2
  go_ret2
  exact ⟨rfl, rfl⟩

set_option maxRecDepth 100000 in
set_option maxHeartbeats 1000000 in
theorem asInt_26 (v : Value) (w : World) : Calls Tryz.prog 100 #[.iface 26 v] w (AiAns none w) := by
  have q3 := ta_26_3
  have q83 := ta_26_83
  have q84 := ta_26_84
  have q21 := ta_26_21
  have q2 := ta_26_2
  have q88 := ta_26_88
  have q5 := ta_26_5
  have q156 := ta_26_156
  have q53 := ta_26_53
  have q22 := ta_26_22
  have q12 := ta_26_12
  go_enter Tryz.func100, Tryz.ntmps100
  go_wp2
  go_ret2
  exact ⟨rfl, rfl⟩

set_option maxRecDepth 100000 in
set_option maxHeartbeats 1000000 in
theorem asInt_164 (v : Value) (w : World) : Calls Tryz.prog 100 #[.iface 164 v] w (AiAns none w) := by
  have q3 := ta_164_3
  have q83 := ta_164_83
  have q84 := ta_164_84
  have q21 := ta_164_21
  have q2 := ta_164_2
  have q88 := ta_164_88
  have q5 := ta_164_5
  have q156 := ta_164_156
  have q53 := ta_164_53
  have q22 := ta_164_22
  have q12 := ta_164_12
  go_enter Tryz.func100, Tryz.ntmps100
  go_wp2
  go_ret2
  exact ⟨rfl, rfl⟩

set_option maxRecDepth 100000 in
set_option maxHeartbeats 1000000 in
theorem asInt_165 (v : Value) (w : World) : Calls Tryz.prog 100 #[.iface 165 v] w (AiAns none w) := by
  have q3 := ta_165_3
  have q83 := ta_165_83
  have q84 := ta_165_84
  have q21 := ta_165_21
  have q2 := ta_165_2
  have q88 := ta_165_88
  have q5 := ta_165_5
  have q156 := ta_165_156
  have q53 := ta_165_53
  have q22 := ta_165_22
  have q12 := ta_165_12
  go_enter Tryz.func100, Tryz.ntmps100
  go_wp2
  go_ret2
  exact ⟨rfl, rfl⟩

set_option maxRecDepth 100000 in
set_option maxHeartbeats 1000000 in
theorem asInt_3 (n : Int) (_h1 : -9223372036854775808 ≤ n) (_h2 : n ≤ 9223372036854775807) (w : World) : Calls Tryz.prog 100 #[.iface 3 (.int .i64 n)] w (AiAns (some n) w) := by
  have q3 := ta_3_3
  go_enter Tryz.func100, Tryz.ntmps100
  go_wp2
  go_ret2
  exact ⟨rfl, rfl⟩

set_option maxRecDepth 100000 in
set_option maxHeartbeats 1000000 in
theorem asInt_83 (n : Int) (h1 : -128 ≤ n) (h2 : n ≤ 127) (w : World) : Calls Tryz.prog 100 #[.iface 83 (.int .i8 n)] w (AiAns (some n) w) := by
  have q3 := ta_83_3
  have q83 := ta_83_83
  go_enter Tryz.func100, Tryz.ntmps100
  go_wp2
  go_ret2
  exact ⟨rfl, rfl⟩

set_option maxRecDepth 100000 in
set_option maxHeartbeats 1000000 in
theorem asInt_84 (n : Int) (h1 : -32768 ≤ n) (h2 : n ≤ 32767) (w : World) : Calls Tryz.prog 100 #[.iface 84 (.int .i16 n)] w (AiAns (some n) w) := by
  have q3 := ta_84_3
  have q83 := ta_84_83
  have q84 := ta_84_84
  go_enter Tryz.func100, Tryz.ntmps100
  go_wp2
  go_ret2
  exact ⟨rfl, rfl⟩

set_option maxRecDepth 100000 in
set_option maxHeartbeats 1000000 in
theorem asInt_21 (n : Int) (h1 : -2147483648 ≤ n) (h2 : n ≤ 2147483647) (w : World) : Calls Tryz.prog 100 #[.iface 21 (.int .i32 n)] w (AiAns (some n) w) := by
  have q3 := ta_21_3
  have q83 := ta_21_83
  have q84 := ta_21_84
  have q21 := ta_21_21
  go_enter Tryz.func100, Tryz.ntmps100
  go_wp2
  go_ret2
  exact ⟨rfl, rfl⟩

set_option maxRecDepth 100000 in
set_option maxHeartbeats 1000000 in
theorem asInt_2 (n : Int) (_h1 : -9223372036854775808 ≤ n) (_h2 : n ≤ 9223372036854775807) (w : World) : Calls Tryz.prog 100 #[.iface 2 (.int .i64 n)] w (AiAns (some n) w) := by
  have q3 := ta_2_3
  have q83 := ta_2_83
  have q84 := ta_2_84
  have q21 := ta_2_21
  have q2 := ta_2_2
  go_enter Tryz.func100, Tryz.ntmps100
  go_wp2
  go_ret2
  exact ⟨rfl, rfl⟩

set_option maxRecDepth 100000 in
set_option maxHeartbeats 1000000 in
theorem asInt_88a (n : Int) (h1 : 0 ≤ n) (h2 : n ≤ 9223372036854775807) (w : World) : Calls Tryz.prog 100 #[.iface 88 (.int .u64 n)] w (AiAns (some n) w) := by
  have q3 := ta_88_3
  have q83 := ta_88_83
  have q84 := ta_88_84
  have q21 := ta_88_21
  have q2 := ta_88_2
  have q88 := ta_88_88
  go_enter Tryz.func100, Tryz.ntmps100
  go_wp2
  go_ret2
  exact ⟨rfl, rfl⟩

set_option maxRecDepth 100000 in
set_option maxHeartbeats 1000000 in
theorem asInt_88b (n : Int) (h1 : 9223372036854775807 < n) (h2 : n ≤ 18446744073709551615) (w : World) : Calls Tryz.prog 100 #[.iface 88 (.int .u64 n)] w (AiAns none w) := by
  have q3 := ta_88_3
  have q83 := ta_88_83
  have q84 := ta_88_84
  have q21 := ta_88_21
  have q2 := ta_88_2
  have q88 := ta_88_88
  have e : IntKind.i64.wrap n = n - 18446744073709551616 := by simp [IntKind.wrap, IntKind.bits, IntKind.signed]; omega
  have e2 : ¬ 0 ≤ n - 18446744073709551616 := by omega
  go_enter Tryz.func100, Tryz.ntmps100
  go_wp2
  go_ret2
  exact ⟨rfl, rfl⟩

set_option maxRecDepth 100000 in
set_option maxHeartbeats 1000000 in
theorem asInt_5 (n : Int) (h1 : 0 ≤ n) (h2 : n ≤ 255) (w : World) : Calls Tryz.prog 100 #[.iface 5 (.int .u8 n)] w (AiAns (some n) w) := by
  have q3 := ta_5_3
  have q83 := ta_5_83
  have q84 := ta_5_84
  have q21 := ta_5_21
  have q2 := ta_5_2
  have q88 := ta_5_88
  have q5 := ta_5_5
  have h3 : ¬ n < 0 := by omega
  go_enter Tryz.func100, Tryz.ntmps100
  go_wp2
  go_ret2
  exact ⟨rfl, rfl⟩

set_option maxRecDepth 100000 in
set_option maxHeartbeats 1000000 in
theorem asInt_156 (n : Int) (h1 : 0 ≤ n) (h2 : n ≤ 65535) (w : World) : Calls Tryz.prog 100 #[.iface 156 (.int .u16 n)] w (AiAns (some n) w) := by
  have q3 := ta_156_3
  have q83 := ta_156_83
  have q84 := ta_156_84
  have q21 := ta_156_21
  have q2 := ta_156_2
  have q88 := ta_156_88
  have q5 := ta_156_5
  have q156 := ta_156_156
  have h3 : ¬ n < 0 := by omega
  go_enter Tryz.func100, Tryz.ntmps100
  go_wp2
  go_ret2
  exact ⟨rfl, rfl⟩

set_option maxRecDepth 100000 in
set_option maxHeartbeats 1000000 in
theorem asInt_53 (n : Int) (h1 : 0 ≤ n) (h2 : n ≤ 4294967295) (w : World) : Calls Tryz.prog 100 #[.iface 53 (.int .u32 n)] w (AiAns (some n) w) := by
  have q3 := ta_53_3
  have q83 := ta_53_83
  have q84 := ta_53_84
  have q21 := ta_53_21
  have q2 := ta_53_2
  have q88 := ta_53_88
  have q5 := ta_53_5
  have q156 := ta_53_156
  have q53 := ta_53_53
  have h3 : ¬ n < 0 := by omega
  go_enter Tryz.func100, Tryz.ntmps100
  go_wp2
  go_ret2
  exact ⟨rfl, rfl⟩

set_option maxRecDepth 100000 in
set_option maxHeartbeats 1000000 in
theorem asInt_22a (n : Int) (h1 : 0 ≤ n) (h2 : n ≤ 9223372036854775807) (w : World) : Calls Tryz.prog 100 #[.iface 22 (.int .u64 n)] w (AiAns (some n) w) := by
  have q3 := ta_22_3
  have q83 := ta_22_83
  have q84 := ta_22_84
  have q21 := ta_22_21
  have q2 := ta_22_2
  have q88 := ta_22_88
  have q5 := ta_22_5
  have q156 := ta_22_156
  have q53 := ta_22_53
  have q22 := ta_22_22
  go_enter Tryz.func100, Tryz.ntmps100
  go_wp2
  go_ret2
  exact ⟨rfl, rfl⟩

set_option maxRecDepth 100000 in
set_option maxHeartbeats 1000000 in
theorem asInt_22b (n : Int) (h1 : 9223372036854775807 < n) (h2 : n ≤ 18446744073709551615) (w : World) : Calls Tryz.prog 100 #[.iface 22 (.int .u64 n)] w (AiAns none w) := by
  have q3 := ta_22_3
  have q83 := ta_22_83
  have q84 := ta_22_84
  have q21 := ta_22_21
  have q2 := ta_22_2
  have q88 := ta_22_88
  have q5 := ta_22_5
  have q156 := ta_22_156
  have q53 := ta_22_53
  have q22 := ta_22_22
  have e : IntKind.i64.wrap n = n - 18446744073709551616 := by simp [IntKind.wrap, IntKind.bits, IntKind.signed]; omega
  have e2 : ¬ 0 ≤ n - 18446744073709551616 := by omega
  go_enter Tryz.func100, Tryz.ntmps100
  go_wp2
  go_ret2
  exact ⟨rfl, rfl⟩

set_option maxRecDepth 100000 in
set_option maxHeartbeats 1000000 in
theorem asInt_12a (n : Int) (h1 : 0 ≤ n) (h2 : n ≤ 9223372036854775807) (w : World) : Calls Tryz.prog 100 #[.iface 12 (.int .u64 n)] w (AiAns (some n) w) := by
  have q3 := ta_12_3
  have q83 := ta_12_83
  have q84 := ta_12_84
  have q21 := ta_12_21
  have q2 := ta_12_2
  have q88 := ta_12_88
  have q5 := ta_12_5
  have q156 := ta_12_156
  have q53 := ta_12_53
  have q22 := ta_12_22
  have q12 := ta_12_12
  go_enter Tryz.func100, Tryz.ntmps100
  go_wp2
  go_ret2
  exact ⟨rfl, rfl⟩

set_option maxRecDepth 100000 in
set_option maxHeartbeats 1000000 in
theorem asInt_12b (n : Int) (h1 : 9223372036854775807 < n) (h2 : n ≤ 18446744073709551615) (w : World) : Calls Tryz.prog 100 #[.iface 12 (.int .u64 n)] w (AiAns none w) := by
  have q3 := ta_12_3
  have q83 := ta_12_83
  have q84 := ta_12_84
  have q21 := ta_12_21
  have q2 := ta_12_2
  have q88 := ta_12_88
  have q5 := ta_12_5
  have q156 := ta_12_156
  have q53 := ta_12_53
  have q22 := ta_12_22
  have q12 := ta_12_12
  have e : IntKind.i64.wrap n = n - 18446744073709551616 := by simp [IntKind.wrap, IntKind.bits, IntKind.signed]; omega
  have e2 : ¬ 0 ≤ n - 18446744073709551616 := by omega
  go_enter Tryz.func100, Tryz.ntmps100
  go_wp2
  go_ret2
  exact ⟨rfl, rfl⟩


end Go.Proofs.YtcbliojofnigdaaGreatDoor
