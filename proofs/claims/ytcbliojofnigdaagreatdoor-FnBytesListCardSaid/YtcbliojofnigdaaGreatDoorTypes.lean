/- What a type assertion with comma-ok gives, at each dynamic type (printed by tools/gen_types.py). -/
import Derived.Test.YtcbliojofnigdaaGreatDoorSmall2
namespace Go.Proofs.YtcbliojofnigdaaGreatDoor
open Go Go.Proofs Go.RowKit

theorem ta_n_4 (w : World) : (Instr.typeAssert .nilIface 20 4 true).run Tryz.prog w = .ok (.tuple #[.bool false, .bool false]) w := by kernel_rfl
theorem ta_4_4 (v : Value) (w : World) : (Instr.typeAssert (.iface 4 v) 20 4 true).run Tryz.prog w = .ok (.tuple #[v, .bool true]) w := by kernel_rfl
theorem ta_3_4 (v : Value) (w : World) : (Instr.typeAssert (.iface 3 v) 20 4 true).run Tryz.prog w = .ok (.tuple #[.bool false, .bool false]) w := by kernel_rfl
theorem ta_83_4 (v : Value) (w : World) : (Instr.typeAssert (.iface 83 v) 20 4 true).run Tryz.prog w = .ok (.tuple #[.bool false, .bool false]) w := by kernel_rfl
theorem ta_84_4 (v : Value) (w : World) : (Instr.typeAssert (.iface 84 v) 20 4 true).run Tryz.prog w = .ok (.tuple #[.bool false, .bool false]) w := by kernel_rfl
theorem ta_21_4 (v : Value) (w : World) : (Instr.typeAssert (.iface 21 v) 20 4 true).run Tryz.prog w = .ok (.tuple #[.bool false, .bool false]) w := by kernel_rfl
theorem ta_2_4 (v : Value) (w : World) : (Instr.typeAssert (.iface 2 v) 20 4 true).run Tryz.prog w = .ok (.tuple #[.bool false, .bool false]) w := by kernel_rfl
theorem ta_88_4 (v : Value) (w : World) : (Instr.typeAssert (.iface 88 v) 20 4 true).run Tryz.prog w = .ok (.tuple #[.bool false, .bool false]) w := by kernel_rfl
theorem ta_5_4 (v : Value) (w : World) : (Instr.typeAssert (.iface 5 v) 20 4 true).run Tryz.prog w = .ok (.tuple #[.bool false, .bool false]) w := by kernel_rfl
theorem ta_156_4 (v : Value) (w : World) : (Instr.typeAssert (.iface 156 v) 20 4 true).run Tryz.prog w = .ok (.tuple #[.bool false, .bool false]) w := by kernel_rfl
theorem ta_53_4 (v : Value) (w : World) : (Instr.typeAssert (.iface 53 v) 20 4 true).run Tryz.prog w = .ok (.tuple #[.bool false, .bool false]) w := by kernel_rfl
theorem ta_22_4 (v : Value) (w : World) : (Instr.typeAssert (.iface 22 v) 20 4 true).run Tryz.prog w = .ok (.tuple #[.bool false, .bool false]) w := by kernel_rfl
theorem ta_12_4 (v : Value) (w : World) : (Instr.typeAssert (.iface 12 v) 20 4 true).run Tryz.prog w = .ok (.tuple #[.bool false, .bool false]) w := by kernel_rfl
theorem ta_149_4 (v : Value) (w : World) : (Instr.typeAssert (.iface 149 v) 20 4 true).run Tryz.prog w = .ok (.tuple #[.bool false, .bool false]) w := by kernel_rfl
theorem ta_151_4 (v : Value) (w : World) : (Instr.typeAssert (.iface 151 v) 20 4 true).run Tryz.prog w = .ok (.tuple #[.bool false, .bool false]) w := by kernel_rfl
theorem ta_9_4 (v : Value) (w : World) : (Instr.typeAssert (.iface 9 v) 20 4 true).run Tryz.prog w = .ok (.tuple #[.bool false, .bool false]) w := by kernel_rfl
theorem ta_26_4 (v : Value) (w : World) : (Instr.typeAssert (.iface 26 v) 20 4 true).run Tryz.prog w = .ok (.tuple #[.bool false, .bool false]) w := by kernel_rfl
theorem ta_164_4 (v : Value) (w : World) : (Instr.typeAssert (.iface 164 v) 20 4 true).run Tryz.prog w = .ok (.tuple #[.bool false, .bool false]) w := by kernel_rfl
theorem ta_165_4 (v : Value) (w : World) : (Instr.typeAssert (.iface 165 v) 20 4 true).run Tryz.prog w = .ok (.tuple #[.bool false, .bool false]) w := by kernel_rfl
theorem ta_n_3 (w : World) : (Instr.typeAssert .nilIface 20 3 true).run Tryz.prog w = .ok (.tuple #[.int .i64 0, .bool false]) w := by kernel_rfl
theorem ta_4_3 (v : Value) (w : World) : (Instr.typeAssert (.iface 4 v) 20 3 true).run Tryz.prog w = .ok (.tuple #[.int .i64 0, .bool false]) w := by kernel_rfl
theorem ta_3_3 (v : Value) (w : World) : (Instr.typeAssert (.iface 3 v) 20 3 true).run Tryz.prog w = .ok (.tuple #[v, .bool true]) w := by kernel_rfl
theorem ta_83_3 (v : Value) (w : World) : (Instr.typeAssert (.iface 83 v) 20 3 true).run Tryz.prog w = .ok (.tuple #[.int .i64 0, .bool false]) w := by kernel_rfl
theorem ta_84_3 (v : Value) (w : World) : (Instr.typeAssert (.iface 84 v) 20 3 true).run Tryz.prog w = .ok (.tuple #[.int .i64 0, .bool false]) w := by kernel_rfl
theorem ta_21_3 (v : Value) (w : World) : (Instr.typeAssert (.iface 21 v) 20 3 true).run Tryz.prog w = .ok (.tuple #[.int .i64 0, .bool false]) w := by kernel_rfl
theorem ta_2_3 (v : Value) (w : World) : (Instr.typeAssert (.iface 2 v) 20 3 true).run Tryz.prog w = .ok (.tuple #[.int .i64 0, .bool false]) w := by kernel_rfl
theorem ta_88_3 (v : Value) (w : World) : (Instr.typeAssert (.iface 88 v) 20 3 true).run Tryz.prog w = .ok (.tuple #[.int .i64 0, .bool false]) w := by kernel_rfl
theorem ta_5_3 (v : Value) (w : World) : (Instr.typeAssert (.iface 5 v) 20 3 true).run Tryz.prog w = .ok (.tuple #[.int .i64 0, .bool false]) w := by kernel_rfl
theorem ta_156_3 (v : Value) (w : World) : (Instr.typeAssert (.iface 156 v) 20 3 true).run Tryz.prog w = .ok (.tuple #[.int .i64 0, .bool false]) w := by kernel_rfl
theorem ta_53_3 (v : Value) (w : World) : (Instr.typeAssert (.iface 53 v) 20 3 true).run Tryz.prog w = .ok (.tuple #[.int .i64 0, .bool false]) w := by kernel_rfl
theorem ta_22_3 (v : Value) (w : World) : (Instr.typeAssert (.iface 22 v) 20 3 true).run Tryz.prog w = .ok (.tuple #[.int .i64 0, .bool false]) w := by kernel_rfl
theorem ta_12_3 (v : Value) (w : World) : (Instr.typeAssert (.iface 12 v) 20 3 true).run Tryz.prog w = .ok (.tuple #[.int .i64 0, .bool false]) w := by kernel_rfl
theorem ta_149_3 (v : Value) (w : World) : (Instr.typeAssert (.iface 149 v) 20 3 true).run Tryz.prog w = .ok (.tuple #[.int .i64 0, .bool false]) w := by kernel_rfl
theorem ta_151_3 (v : Value) (w : World) : (Instr.typeAssert (.iface 151 v) 20 3 true).run Tryz.prog w = .ok (.tuple #[.int .i64 0, .bool false]) w := by kernel_rfl
theorem ta_9_3 (v : Value) (w : World) : (Instr.typeAssert (.iface 9 v) 20 3 true).run Tryz.prog w = .ok (.tuple #[.int .i64 0, .bool false]) w := by kernel_rfl
theorem ta_26_3 (v : Value) (w : World) : (Instr.typeAssert (.iface 26 v) 20 3 true).run Tryz.prog w = .ok (.tuple #[.int .i64 0, .bool false]) w := by kernel_rfl
theorem ta_164_3 (v : Value) (w : World) : (Instr.typeAssert (.iface 164 v) 20 3 true).run Tryz.prog w = .ok (.tuple #[.int .i64 0, .bool false]) w := by kernel_rfl
theorem ta_165_3 (v : Value) (w : World) : (Instr.typeAssert (.iface 165 v) 20 3 true).run Tryz.prog w = .ok (.tuple #[.int .i64 0, .bool false]) w := by kernel_rfl
theorem ta_n_83 (w : World) : (Instr.typeAssert .nilIface 20 83 true).run Tryz.prog w = .ok (.tuple #[.int .i8 0, .bool false]) w := by kernel_rfl
theorem ta_4_83 (v : Value) (w : World) : (Instr.typeAssert (.iface 4 v) 20 83 true).run Tryz.prog w = .ok (.tuple #[.int .i8 0, .bool false]) w := by kernel_rfl
theorem ta_3_83 (v : Value) (w : World) : (Instr.typeAssert (.iface 3 v) 20 83 true).run Tryz.prog w = .ok (.tuple #[.int .i8 0, .bool false]) w := by kernel_rfl
theorem ta_83_83 (v : Value) (w : World) : (Instr.typeAssert (.iface 83 v) 20 83 true).run Tryz.prog w = .ok (.tuple #[v, .bool true]) w := by kernel_rfl
theorem ta_84_83 (v : Value) (w : World) : (Instr.typeAssert (.iface 84 v) 20 83 true).run Tryz.prog w = .ok (.tuple #[.int .i8 0, .bool false]) w := by kernel_rfl
theorem ta_21_83 (v : Value) (w : World) : (Instr.typeAssert (.iface 21 v) 20 83 true).run Tryz.prog w = .ok (.tuple #[.int .i8 0, .bool false]) w := by kernel_rfl
theorem ta_2_83 (v : Value) (w : World) : (Instr.typeAssert (.iface 2 v) 20 83 true).run Tryz.prog w = .ok (.tuple #[.int .i8 0, .bool false]) w := by kernel_rfl
theorem ta_88_83 (v : Value) (w : World) : (Instr.typeAssert (.iface 88 v) 20 83 true).run Tryz.prog w = .ok (.tuple #[.int .i8 0, .bool false]) w := by kernel_rfl
theorem ta_5_83 (v : Value) (w : World) : (Instr.typeAssert (.iface 5 v) 20 83 true).run Tryz.prog w = .ok (.tuple #[.int .i8 0, .bool false]) w := by kernel_rfl
theorem ta_156_83 (v : Value) (w : World) : (Instr.typeAssert (.iface 156 v) 20 83 true).run Tryz.prog w = .ok (.tuple #[.int .i8 0, .bool false]) w := by kernel_rfl
theorem ta_53_83 (v : Value) (w : World) : (Instr.typeAssert (.iface 53 v) 20 83 true).run Tryz.prog w = .ok (.tuple #[.int .i8 0, .bool false]) w := by kernel_rfl
theorem ta_22_83 (v : Value) (w : World) : (Instr.typeAssert (.iface 22 v) 20 83 true).run Tryz.prog w = .ok (.tuple #[.int .i8 0, .bool false]) w := by kernel_rfl
theorem ta_12_83 (v : Value) (w : World) : (Instr.typeAssert (.iface 12 v) 20 83 true).run Tryz.prog w = .ok (.tuple #[.int .i8 0, .bool false]) w := by kernel_rfl
theorem ta_149_83 (v : Value) (w : World) : (Instr.typeAssert (.iface 149 v) 20 83 true).run Tryz.prog w = .ok (.tuple #[.int .i8 0, .bool false]) w := by kernel_rfl
theorem ta_151_83 (v : Value) (w : World) : (Instr.typeAssert (.iface 151 v) 20 83 true).run Tryz.prog w = .ok (.tuple #[.int .i8 0, .bool false]) w := by kernel_rfl
theorem ta_9_83 (v : Value) (w : World) : (Instr.typeAssert (.iface 9 v) 20 83 true).run Tryz.prog w = .ok (.tuple #[.int .i8 0, .bool false]) w := by kernel_rfl
theorem ta_26_83 (v : Value) (w : World) : (Instr.typeAssert (.iface 26 v) 20 83 true).run Tryz.prog w = .ok (.tuple #[.int .i8 0, .bool false]) w := by kernel_rfl
theorem ta_164_83 (v : Value) (w : World) : (Instr.typeAssert (.iface 164 v) 20 83 true).run Tryz.prog w = .ok (.tuple #[.int .i8 0, .bool false]) w := by kernel_rfl
theorem ta_165_83 (v : Value) (w : World) : (Instr.typeAssert (.iface 165 v) 20 83 true).run Tryz.prog w = .ok (.tuple #[.int .i8 0, .bool false]) w := by kernel_rfl
theorem ta_n_84 (w : World) : (Instr.typeAssert .nilIface 20 84 true).run Tryz.prog w = .ok (.tuple #[.int .i16 0, .bool false]) w := by kernel_rfl
theorem ta_4_84 (v : Value) (w : World) : (Instr.typeAssert (.iface 4 v) 20 84 true).run Tryz.prog w = .ok (.tuple #[.int .i16 0, .bool false]) w := by kernel_rfl
theorem ta_3_84 (v : Value) (w : World) : (Instr.typeAssert (.iface 3 v) 20 84 true).run Tryz.prog w = .ok (.tuple #[.int .i16 0, .bool false]) w := by kernel_rfl
theorem ta_83_84 (v : Value) (w : World) : (Instr.typeAssert (.iface 83 v) 20 84 true).run Tryz.prog w = .ok (.tuple #[.int .i16 0, .bool false]) w := by kernel_rfl
theorem ta_84_84 (v : Value) (w : World) : (Instr.typeAssert (.iface 84 v) 20 84 true).run Tryz.prog w = .ok (.tuple #[v, .bool true]) w := by kernel_rfl
theorem ta_21_84 (v : Value) (w : World) : (Instr.typeAssert (.iface 21 v) 20 84 true).run Tryz.prog w = .ok (.tuple #[.int .i16 0, .bool false]) w := by kernel_rfl
theorem ta_2_84 (v : Value) (w : World) : (Instr.typeAssert (.iface 2 v) 20 84 true).run Tryz.prog w = .ok (.tuple #[.int .i16 0, .bool false]) w := by kernel_rfl
theorem ta_88_84 (v : Value) (w : World) : (Instr.typeAssert (.iface 88 v) 20 84 true).run Tryz.prog w = .ok (.tuple #[.int .i16 0, .bool false]) w := by kernel_rfl
theorem ta_5_84 (v : Value) (w : World) : (Instr.typeAssert (.iface 5 v) 20 84 true).run Tryz.prog w = .ok (.tuple #[.int .i16 0, .bool false]) w := by kernel_rfl
theorem ta_156_84 (v : Value) (w : World) : (Instr.typeAssert (.iface 156 v) 20 84 true).run Tryz.prog w = .ok (.tuple #[.int .i16 0, .bool false]) w := by kernel_rfl
theorem ta_53_84 (v : Value) (w : World) : (Instr.typeAssert (.iface 53 v) 20 84 true).run Tryz.prog w = .ok (.tuple #[.int .i16 0, .bool false]) w := by kernel_rfl
theorem ta_22_84 (v : Value) (w : World) : (Instr.typeAssert (.iface 22 v) 20 84 true).run Tryz.prog w = .ok (.tuple #[.int .i16 0, .bool false]) w := by kernel_rfl
theorem ta_12_84 (v : Value) (w : World) : (Instr.typeAssert (.iface 12 v) 20 84 true).run Tryz.prog w = .ok (.tuple #[.int .i16 0, .bool false]) w := by kernel_rfl
theorem ta_149_84 (v : Value) (w : World) : (Instr.typeAssert (.iface 149 v) 20 84 true).run Tryz.prog w = .ok (.tuple #[.int .i16 0, .bool false]) w := by kernel_rfl
theorem ta_151_84 (v : Value) (w : World) : (Instr.typeAssert (.iface 151 v) 20 84 true).run Tryz.prog w = .ok (.tuple #[.int .i16 0, .bool false]) w := by kernel_rfl
theorem ta_9_84 (v : Value) (w : World) : (Instr.typeAssert (.iface 9 v) 20 84 true).run Tryz.prog w = .ok (.tuple #[.int .i16 0, .bool false]) w := by kernel_rfl
theorem ta_26_84 (v : Value) (w : World) : (Instr.typeAssert (.iface 26 v) 20 84 true).run Tryz.prog w = .ok (.tuple #[.int .i16 0, .bool false]) w := by kernel_rfl
theorem ta_164_84 (v : Value) (w : World) : (Instr.typeAssert (.iface 164 v) 20 84 true).run Tryz.prog w = .ok (.tuple #[.int .i16 0, .bool false]) w := by kernel_rfl
theorem ta_165_84 (v : Value) (w : World) : (Instr.typeAssert (.iface 165 v) 20 84 true).run Tryz.prog w = .ok (.tuple #[.int .i16 0, .bool false]) w := by kernel_rfl
theorem ta_n_21 (w : World) : (Instr.typeAssert .nilIface 20 21 true).run Tryz.prog w = .ok (.tuple #[.int .i32 0, .bool false]) w := by kernel_rfl
theorem ta_4_21 (v : Value) (w : World) : (Instr.typeAssert (.iface 4 v) 20 21 true).run Tryz.prog w = .ok (.tuple #[.int .i32 0, .bool false]) w := by kernel_rfl
theorem ta_3_21 (v : Value) (w : World) : (Instr.typeAssert (.iface 3 v) 20 21 true).run Tryz.prog w = .ok (.tuple #[.int .i32 0, .bool false]) w := by kernel_rfl
theorem ta_83_21 (v : Value) (w : World) : (Instr.typeAssert (.iface 83 v) 20 21 true).run Tryz.prog w = .ok (.tuple #[.int .i32 0, .bool false]) w := by kernel_rfl
theorem ta_84_21 (v : Value) (w : World) : (Instr.typeAssert (.iface 84 v) 20 21 true).run Tryz.prog w = .ok (.tuple #[.int .i32 0, .bool false]) w := by kernel_rfl
theorem ta_21_21 (v : Value) (w : World) : (Instr.typeAssert (.iface 21 v) 20 21 true).run Tryz.prog w = .ok (.tuple #[v, .bool true]) w := by kernel_rfl
theorem ta_2_21 (v : Value) (w : World) : (Instr.typeAssert (.iface 2 v) 20 21 true).run Tryz.prog w = .ok (.tuple #[.int .i32 0, .bool false]) w := by kernel_rfl
theorem ta_88_21 (v : Value) (w : World) : (Instr.typeAssert (.iface 88 v) 20 21 true).run Tryz.prog w = .ok (.tuple #[.int .i32 0, .bool false]) w := by kernel_rfl
theorem ta_5_21 (v : Value) (w : World) : (Instr.typeAssert (.iface 5 v) 20 21 true).run Tryz.prog w = .ok (.tuple #[.int .i32 0, .bool false]) w := by kernel_rfl
theorem ta_156_21 (v : Value) (w : World) : (Instr.typeAssert (.iface 156 v) 20 21 true).run Tryz.prog w = .ok (.tuple #[.int .i32 0, .bool false]) w := by kernel_rfl
theorem ta_53_21 (v : Value) (w : World) : (Instr.typeAssert (.iface 53 v) 20 21 true).run Tryz.prog w = .ok (.tuple #[.int .i32 0, .bool false]) w := by kernel_rfl
theorem ta_22_21 (v : Value) (w : World) : (Instr.typeAssert (.iface 22 v) 20 21 true).run Tryz.prog w = .ok (.tuple #[.int .i32 0, .bool false]) w := by kernel_rfl
theorem ta_12_21 (v : Value) (w : World) : (Instr.typeAssert (.iface 12 v) 20 21 true).run Tryz.prog w = .ok (.tuple #[.int .i32 0, .bool false]) w := by kernel_rfl
theorem ta_149_21 (v : Value) (w : World) : (Instr.typeAssert (.iface 149 v) 20 21 true).run Tryz.prog w = .ok (.tuple #[.int .i32 0, .bool false]) w := by kernel_rfl
theorem ta_151_21 (v : Value) (w : World) : (Instr.typeAssert (.iface 151 v) 20 21 true).run Tryz.prog w = .ok (.tuple #[.int .i32 0, .bool false]) w := by kernel_rfl
theorem ta_9_21 (v : Value) (w : World) : (Instr.typeAssert (.iface 9 v) 20 21 true).run Tryz.prog w = .ok (.tuple #[.int .i32 0, .bool false]) w := by kernel_rfl
theorem ta_26_21 (v : Value) (w : World) : (Instr.typeAssert (.iface 26 v) 20 21 true).run Tryz.prog w = .ok (.tuple #[.int .i32 0, .bool false]) w := by kernel_rfl
theorem ta_164_21 (v : Value) (w : World) : (Instr.typeAssert (.iface 164 v) 20 21 true).run Tryz.prog w = .ok (.tuple #[.int .i32 0, .bool false]) w := by kernel_rfl
theorem ta_165_21 (v : Value) (w : World) : (Instr.typeAssert (.iface 165 v) 20 21 true).run Tryz.prog w = .ok (.tuple #[.int .i32 0, .bool false]) w := by kernel_rfl
theorem ta_n_2 (w : World) : (Instr.typeAssert .nilIface 20 2 true).run Tryz.prog w = .ok (.tuple #[.int .i64 0, .bool false]) w := by kernel_rfl
theorem ta_4_2 (v : Value) (w : World) : (Instr.typeAssert (.iface 4 v) 20 2 true).run Tryz.prog w = .ok (.tuple #[.int .i64 0, .bool false]) w := by kernel_rfl
theorem ta_3_2 (v : Value) (w : World) : (Instr.typeAssert (.iface 3 v) 20 2 true).run Tryz.prog w = .ok (.tuple #[.int .i64 0, .bool false]) w := by kernel_rfl
theorem ta_83_2 (v : Value) (w : World) : (Instr.typeAssert (.iface 83 v) 20 2 true).run Tryz.prog w = .ok (.tuple #[.int .i64 0, .bool false]) w := by kernel_rfl
theorem ta_84_2 (v : Value) (w : World) : (Instr.typeAssert (.iface 84 v) 20 2 true).run Tryz.prog w = .ok (.tuple #[.int .i64 0, .bool false]) w := by kernel_rfl
theorem ta_21_2 (v : Value) (w : World) : (Instr.typeAssert (.iface 21 v) 20 2 true).run Tryz.prog w = .ok (.tuple #[.int .i64 0, .bool false]) w := by kernel_rfl
theorem ta_2_2 (v : Value) (w : World) : (Instr.typeAssert (.iface 2 v) 20 2 true).run Tryz.prog w = .ok (.tuple #[v, .bool true]) w := by kernel_rfl
theorem ta_88_2 (v : Value) (w : World) : (Instr.typeAssert (.iface 88 v) 20 2 true).run Tryz.prog w = .ok (.tuple #[.int .i64 0, .bool false]) w := by kernel_rfl
theorem ta_5_2 (v : Value) (w : World) : (Instr.typeAssert (.iface 5 v) 20 2 true).run Tryz.prog w = .ok (.tuple #[.int .i64 0, .bool false]) w := by kernel_rfl
theorem ta_156_2 (v : Value) (w : World) : (Instr.typeAssert (.iface 156 v) 20 2 true).run Tryz.prog w = .ok (.tuple #[.int .i64 0, .bool false]) w := by kernel_rfl
theorem ta_53_2 (v : Value) (w : World) : (Instr.typeAssert (.iface 53 v) 20 2 true).run Tryz.prog w = .ok (.tuple #[.int .i64 0, .bool false]) w := by kernel_rfl
theorem ta_22_2 (v : Value) (w : World) : (Instr.typeAssert (.iface 22 v) 20 2 true).run Tryz.prog w = .ok (.tuple #[.int .i64 0, .bool false]) w := by kernel_rfl
theorem ta_12_2 (v : Value) (w : World) : (Instr.typeAssert (.iface 12 v) 20 2 true).run Tryz.prog w = .ok (.tuple #[.int .i64 0, .bool false]) w := by kernel_rfl
theorem ta_149_2 (v : Value) (w : World) : (Instr.typeAssert (.iface 149 v) 20 2 true).run Tryz.prog w = .ok (.tuple #[.int .i64 0, .bool false]) w := by kernel_rfl
theorem ta_151_2 (v : Value) (w : World) : (Instr.typeAssert (.iface 151 v) 20 2 true).run Tryz.prog w = .ok (.tuple #[.int .i64 0, .bool false]) w := by kernel_rfl
theorem ta_9_2 (v : Value) (w : World) : (Instr.typeAssert (.iface 9 v) 20 2 true).run Tryz.prog w = .ok (.tuple #[.int .i64 0, .bool false]) w := by kernel_rfl
theorem ta_26_2 (v : Value) (w : World) : (Instr.typeAssert (.iface 26 v) 20 2 true).run Tryz.prog w = .ok (.tuple #[.int .i64 0, .bool false]) w := by kernel_rfl
theorem ta_164_2 (v : Value) (w : World) : (Instr.typeAssert (.iface 164 v) 20 2 true).run Tryz.prog w = .ok (.tuple #[.int .i64 0, .bool false]) w := by kernel_rfl
theorem ta_165_2 (v : Value) (w : World) : (Instr.typeAssert (.iface 165 v) 20 2 true).run Tryz.prog w = .ok (.tuple #[.int .i64 0, .bool false]) w := by kernel_rfl
theorem ta_n_88 (w : World) : (Instr.typeAssert .nilIface 20 88 true).run Tryz.prog w = .ok (.tuple #[.int .u64 0, .bool false]) w := by kernel_rfl
theorem ta_4_88 (v : Value) (w : World) : (Instr.typeAssert (.iface 4 v) 20 88 true).run Tryz.prog w = .ok (.tuple #[.int .u64 0, .bool false]) w := by kernel_rfl
theorem ta_3_88 (v : Value) (w : World) : (Instr.typeAssert (.iface 3 v) 20 88 true).run Tryz.prog w = .ok (.tuple #[.int .u64 0, .bool false]) w := by kernel_rfl
theorem ta_83_88 (v : Value) (w : World) : (Instr.typeAssert (.iface 83 v) 20 88 true).run Tryz.prog w = .ok (.tuple #[.int .u64 0, .bool false]) w := by kernel_rfl
theorem ta_84_88 (v : Value) (w : World) : (Instr.typeAssert (.iface 84 v) 20 88 true).run Tryz.prog w = .ok (.tuple #[.int .u64 0, .bool false]) w := by kernel_rfl
theorem ta_21_88 (v : Value) (w : World) : (Instr.typeAssert (.iface 21 v) 20 88 true).run Tryz.prog w = .ok (.tuple #[.int .u64 0, .bool false]) w := by kernel_rfl
theorem ta_2_88 (v : Value) (w : World) : (Instr.typeAssert (.iface 2 v) 20 88 true).run Tryz.prog w = .ok (.tuple #[.int .u64 0, .bool false]) w := by kernel_rfl
theorem ta_88_88 (v : Value) (w : World) : (Instr.typeAssert (.iface 88 v) 20 88 true).run Tryz.prog w = .ok (.tuple #[v, .bool true]) w := by kernel_rfl
theorem ta_5_88 (v : Value) (w : World) : (Instr.typeAssert (.iface 5 v) 20 88 true).run Tryz.prog w = .ok (.tuple #[.int .u64 0, .bool false]) w := by kernel_rfl
theorem ta_156_88 (v : Value) (w : World) : (Instr.typeAssert (.iface 156 v) 20 88 true).run Tryz.prog w = .ok (.tuple #[.int .u64 0, .bool false]) w := by kernel_rfl
theorem ta_53_88 (v : Value) (w : World) : (Instr.typeAssert (.iface 53 v) 20 88 true).run Tryz.prog w = .ok (.tuple #[.int .u64 0, .bool false]) w := by kernel_rfl
theorem ta_22_88 (v : Value) (w : World) : (Instr.typeAssert (.iface 22 v) 20 88 true).run Tryz.prog w = .ok (.tuple #[.int .u64 0, .bool false]) w := by kernel_rfl
theorem ta_12_88 (v : Value) (w : World) : (Instr.typeAssert (.iface 12 v) 20 88 true).run Tryz.prog w = .ok (.tuple #[.int .u64 0, .bool false]) w := by kernel_rfl
theorem ta_149_88 (v : Value) (w : World) : (Instr.typeAssert (.iface 149 v) 20 88 true).run Tryz.prog w = .ok (.tuple #[.int .u64 0, .bool false]) w := by kernel_rfl
theorem ta_151_88 (v : Value) (w : World) : (Instr.typeAssert (.iface 151 v) 20 88 true).run Tryz.prog w = .ok (.tuple #[.int .u64 0, .bool false]) w := by kernel_rfl
theorem ta_9_88 (v : Value) (w : World) : (Instr.typeAssert (.iface 9 v) 20 88 true).run Tryz.prog w = .ok (.tuple #[.int .u64 0, .bool false]) w := by kernel_rfl
theorem ta_26_88 (v : Value) (w : World) : (Instr.typeAssert (.iface 26 v) 20 88 true).run Tryz.prog w = .ok (.tuple #[.int .u64 0, .bool false]) w := by kernel_rfl
theorem ta_164_88 (v : Value) (w : World) : (Instr.typeAssert (.iface 164 v) 20 88 true).run Tryz.prog w = .ok (.tuple #[.int .u64 0, .bool false]) w := by kernel_rfl
theorem ta_165_88 (v : Value) (w : World) : (Instr.typeAssert (.iface 165 v) 20 88 true).run Tryz.prog w = .ok (.tuple #[.int .u64 0, .bool false]) w := by kernel_rfl
theorem ta_n_5 (w : World) : (Instr.typeAssert .nilIface 20 5 true).run Tryz.prog w = .ok (.tuple #[.int .u8 0, .bool false]) w := by kernel_rfl
theorem ta_4_5 (v : Value) (w : World) : (Instr.typeAssert (.iface 4 v) 20 5 true).run Tryz.prog w = .ok (.tuple #[.int .u8 0, .bool false]) w := by kernel_rfl
theorem ta_3_5 (v : Value) (w : World) : (Instr.typeAssert (.iface 3 v) 20 5 true).run Tryz.prog w = .ok (.tuple #[.int .u8 0, .bool false]) w := by kernel_rfl
theorem ta_83_5 (v : Value) (w : World) : (Instr.typeAssert (.iface 83 v) 20 5 true).run Tryz.prog w = .ok (.tuple #[.int .u8 0, .bool false]) w := by kernel_rfl
theorem ta_84_5 (v : Value) (w : World) : (Instr.typeAssert (.iface 84 v) 20 5 true).run Tryz.prog w = .ok (.tuple #[.int .u8 0, .bool false]) w := by kernel_rfl
theorem ta_21_5 (v : Value) (w : World) : (Instr.typeAssert (.iface 21 v) 20 5 true).run Tryz.prog w = .ok (.tuple #[.int .u8 0, .bool false]) w := by kernel_rfl
theorem ta_2_5 (v : Value) (w : World) : (Instr.typeAssert (.iface 2 v) 20 5 true).run Tryz.prog w = .ok (.tuple #[.int .u8 0, .bool false]) w := by kernel_rfl
theorem ta_88_5 (v : Value) (w : World) : (Instr.typeAssert (.iface 88 v) 20 5 true).run Tryz.prog w = .ok (.tuple #[.int .u8 0, .bool false]) w := by kernel_rfl
theorem ta_5_5 (v : Value) (w : World) : (Instr.typeAssert (.iface 5 v) 20 5 true).run Tryz.prog w = .ok (.tuple #[v, .bool true]) w := by kernel_rfl
theorem ta_156_5 (v : Value) (w : World) : (Instr.typeAssert (.iface 156 v) 20 5 true).run Tryz.prog w = .ok (.tuple #[.int .u8 0, .bool false]) w := by kernel_rfl
theorem ta_53_5 (v : Value) (w : World) : (Instr.typeAssert (.iface 53 v) 20 5 true).run Tryz.prog w = .ok (.tuple #[.int .u8 0, .bool false]) w := by kernel_rfl
theorem ta_22_5 (v : Value) (w : World) : (Instr.typeAssert (.iface 22 v) 20 5 true).run Tryz.prog w = .ok (.tuple #[.int .u8 0, .bool false]) w := by kernel_rfl
theorem ta_12_5 (v : Value) (w : World) : (Instr.typeAssert (.iface 12 v) 20 5 true).run Tryz.prog w = .ok (.tuple #[.int .u8 0, .bool false]) w := by kernel_rfl
theorem ta_149_5 (v : Value) (w : World) : (Instr.typeAssert (.iface 149 v) 20 5 true).run Tryz.prog w = .ok (.tuple #[.int .u8 0, .bool false]) w := by kernel_rfl
theorem ta_151_5 (v : Value) (w : World) : (Instr.typeAssert (.iface 151 v) 20 5 true).run Tryz.prog w = .ok (.tuple #[.int .u8 0, .bool false]) w := by kernel_rfl
theorem ta_9_5 (v : Value) (w : World) : (Instr.typeAssert (.iface 9 v) 20 5 true).run Tryz.prog w = .ok (.tuple #[.int .u8 0, .bool false]) w := by kernel_rfl
theorem ta_26_5 (v : Value) (w : World) : (Instr.typeAssert (.iface 26 v) 20 5 true).run Tryz.prog w = .ok (.tuple #[.int .u8 0, .bool false]) w := by kernel_rfl
theorem ta_164_5 (v : Value) (w : World) : (Instr.typeAssert (.iface 164 v) 20 5 true).run Tryz.prog w = .ok (.tuple #[.int .u8 0, .bool false]) w := by kernel_rfl
theorem ta_165_5 (v : Value) (w : World) : (Instr.typeAssert (.iface 165 v) 20 5 true).run Tryz.prog w = .ok (.tuple #[.int .u8 0, .bool false]) w := by kernel_rfl
theorem ta_n_156 (w : World) : (Instr.typeAssert .nilIface 20 156 true).run Tryz.prog w = .ok (.tuple #[.int .u16 0, .bool false]) w := by kernel_rfl
theorem ta_4_156 (v : Value) (w : World) : (Instr.typeAssert (.iface 4 v) 20 156 true).run Tryz.prog w = .ok (.tuple #[.int .u16 0, .bool false]) w := by kernel_rfl
theorem ta_3_156 (v : Value) (w : World) : (Instr.typeAssert (.iface 3 v) 20 156 true).run Tryz.prog w = .ok (.tuple #[.int .u16 0, .bool false]) w := by kernel_rfl
theorem ta_83_156 (v : Value) (w : World) : (Instr.typeAssert (.iface 83 v) 20 156 true).run Tryz.prog w = .ok (.tuple #[.int .u16 0, .bool false]) w := by kernel_rfl
theorem ta_84_156 (v : Value) (w : World) : (Instr.typeAssert (.iface 84 v) 20 156 true).run Tryz.prog w = .ok (.tuple #[.int .u16 0, .bool false]) w := by kernel_rfl
theorem ta_21_156 (v : Value) (w : World) : (Instr.typeAssert (.iface 21 v) 20 156 true).run Tryz.prog w = .ok (.tuple #[.int .u16 0, .bool false]) w := by kernel_rfl
theorem ta_2_156 (v : Value) (w : World) : (Instr.typeAssert (.iface 2 v) 20 156 true).run Tryz.prog w = .ok (.tuple #[.int .u16 0, .bool false]) w := by kernel_rfl
theorem ta_88_156 (v : Value) (w : World) : (Instr.typeAssert (.iface 88 v) 20 156 true).run Tryz.prog w = .ok (.tuple #[.int .u16 0, .bool false]) w := by kernel_rfl
theorem ta_5_156 (v : Value) (w : World) : (Instr.typeAssert (.iface 5 v) 20 156 true).run Tryz.prog w = .ok (.tuple #[.int .u16 0, .bool false]) w := by kernel_rfl
theorem ta_156_156 (v : Value) (w : World) : (Instr.typeAssert (.iface 156 v) 20 156 true).run Tryz.prog w = .ok (.tuple #[v, .bool true]) w := by kernel_rfl
theorem ta_53_156 (v : Value) (w : World) : (Instr.typeAssert (.iface 53 v) 20 156 true).run Tryz.prog w = .ok (.tuple #[.int .u16 0, .bool false]) w := by kernel_rfl
theorem ta_22_156 (v : Value) (w : World) : (Instr.typeAssert (.iface 22 v) 20 156 true).run Tryz.prog w = .ok (.tuple #[.int .u16 0, .bool false]) w := by kernel_rfl
theorem ta_12_156 (v : Value) (w : World) : (Instr.typeAssert (.iface 12 v) 20 156 true).run Tryz.prog w = .ok (.tuple #[.int .u16 0, .bool false]) w := by kernel_rfl
theorem ta_149_156 (v : Value) (w : World) : (Instr.typeAssert (.iface 149 v) 20 156 true).run Tryz.prog w = .ok (.tuple #[.int .u16 0, .bool false]) w := by kernel_rfl
theorem ta_151_156 (v : Value) (w : World) : (Instr.typeAssert (.iface 151 v) 20 156 true).run Tryz.prog w = .ok (.tuple #[.int .u16 0, .bool false]) w := by kernel_rfl
theorem ta_9_156 (v : Value) (w : World) : (Instr.typeAssert (.iface 9 v) 20 156 true).run Tryz.prog w = .ok (.tuple #[.int .u16 0, .bool false]) w := by kernel_rfl
theorem ta_26_156 (v : Value) (w : World) : (Instr.typeAssert (.iface 26 v) 20 156 true).run Tryz.prog w = .ok (.tuple #[.int .u16 0, .bool false]) w := by kernel_rfl
theorem ta_164_156 (v : Value) (w : World) : (Instr.typeAssert (.iface 164 v) 20 156 true).run Tryz.prog w = .ok (.tuple #[.int .u16 0, .bool false]) w := by kernel_rfl
theorem ta_165_156 (v : Value) (w : World) : (Instr.typeAssert (.iface 165 v) 20 156 true).run Tryz.prog w = .ok (.tuple #[.int .u16 0, .bool false]) w := by kernel_rfl
theorem ta_n_53 (w : World) : (Instr.typeAssert .nilIface 20 53 true).run Tryz.prog w = .ok (.tuple #[.int .u32 0, .bool false]) w := by kernel_rfl
theorem ta_4_53 (v : Value) (w : World) : (Instr.typeAssert (.iface 4 v) 20 53 true).run Tryz.prog w = .ok (.tuple #[.int .u32 0, .bool false]) w := by kernel_rfl
theorem ta_3_53 (v : Value) (w : World) : (Instr.typeAssert (.iface 3 v) 20 53 true).run Tryz.prog w = .ok (.tuple #[.int .u32 0, .bool false]) w := by kernel_rfl
theorem ta_83_53 (v : Value) (w : World) : (Instr.typeAssert (.iface 83 v) 20 53 true).run Tryz.prog w = .ok (.tuple #[.int .u32 0, .bool false]) w := by kernel_rfl
theorem ta_84_53 (v : Value) (w : World) : (Instr.typeAssert (.iface 84 v) 20 53 true).run Tryz.prog w = .ok (.tuple #[.int .u32 0, .bool false]) w := by kernel_rfl
theorem ta_21_53 (v : Value) (w : World) : (Instr.typeAssert (.iface 21 v) 20 53 true).run Tryz.prog w = .ok (.tuple #[.int .u32 0, .bool false]) w := by kernel_rfl
theorem ta_2_53 (v : Value) (w : World) : (Instr.typeAssert (.iface 2 v) 20 53 true).run Tryz.prog w = .ok (.tuple #[.int .u32 0, .bool false]) w := by kernel_rfl
theorem ta_88_53 (v : Value) (w : World) : (Instr.typeAssert (.iface 88 v) 20 53 true).run Tryz.prog w = .ok (.tuple #[.int .u32 0, .bool false]) w := by kernel_rfl
theorem ta_5_53 (v : Value) (w : World) : (Instr.typeAssert (.iface 5 v) 20 53 true).run Tryz.prog w = .ok (.tuple #[.int .u32 0, .bool false]) w := by kernel_rfl
theorem ta_156_53 (v : Value) (w : World) : (Instr.typeAssert (.iface 156 v) 20 53 true).run Tryz.prog w = .ok (.tuple #[.int .u32 0, .bool false]) w := by kernel_rfl
theorem ta_53_53 (v : Value) (w : World) : (Instr.typeAssert (.iface 53 v) 20 53 true).run Tryz.prog w = .ok (.tuple #[v, .bool true]) w := by kernel_rfl
theorem ta_22_53 (v : Value) (w : World) : (Instr.typeAssert (.iface 22 v) 20 53 true).run Tryz.prog w = .ok (.tuple #[.int .u32 0, .bool false]) w := by kernel_rfl
theorem ta_12_53 (v : Value) (w : World) : (Instr.typeAssert (.iface 12 v) 20 53 true).run Tryz.prog w = .ok (.tuple #[.int .u32 0, .bool false]) w := by kernel_rfl
theorem ta_149_53 (v : Value) (w : World) : (Instr.typeAssert (.iface 149 v) 20 53 true).run Tryz.prog w = .ok (.tuple #[.int .u32 0, .bool false]) w := by kernel_rfl
theorem ta_151_53 (v : Value) (w : World) : (Instr.typeAssert (.iface 151 v) 20 53 true).run Tryz.prog w = .ok (.tuple #[.int .u32 0, .bool false]) w := by kernel_rfl
theorem ta_9_53 (v : Value) (w : World) : (Instr.typeAssert (.iface 9 v) 20 53 true).run Tryz.prog w = .ok (.tuple #[.int .u32 0, .bool false]) w := by kernel_rfl
theorem ta_26_53 (v : Value) (w : World) : (Instr.typeAssert (.iface 26 v) 20 53 true).run Tryz.prog w = .ok (.tuple #[.int .u32 0, .bool false]) w := by kernel_rfl
theorem ta_164_53 (v : Value) (w : World) : (Instr.typeAssert (.iface 164 v) 20 53 true).run Tryz.prog w = .ok (.tuple #[.int .u32 0, .bool false]) w := by kernel_rfl
theorem ta_165_53 (v : Value) (w : World) : (Instr.typeAssert (.iface 165 v) 20 53 true).run Tryz.prog w = .ok (.tuple #[.int .u32 0, .bool false]) w := by kernel_rfl
theorem ta_n_22 (w : World) : (Instr.typeAssert .nilIface 20 22 true).run Tryz.prog w = .ok (.tuple #[.int .u64 0, .bool false]) w := by kernel_rfl
theorem ta_4_22 (v : Value) (w : World) : (Instr.typeAssert (.iface 4 v) 20 22 true).run Tryz.prog w = .ok (.tuple #[.int .u64 0, .bool false]) w := by kernel_rfl
theorem ta_3_22 (v : Value) (w : World) : (Instr.typeAssert (.iface 3 v) 20 22 true).run Tryz.prog w = .ok (.tuple #[.int .u64 0, .bool false]) w := by kernel_rfl
theorem ta_83_22 (v : Value) (w : World) : (Instr.typeAssert (.iface 83 v) 20 22 true).run Tryz.prog w = .ok (.tuple #[.int .u64 0, .bool false]) w := by kernel_rfl
theorem ta_84_22 (v : Value) (w : World) : (Instr.typeAssert (.iface 84 v) 20 22 true).run Tryz.prog w = .ok (.tuple #[.int .u64 0, .bool false]) w := by kernel_rfl
theorem ta_21_22 (v : Value) (w : World) : (Instr.typeAssert (.iface 21 v) 20 22 true).run Tryz.prog w = .ok (.tuple #[.int .u64 0, .bool false]) w := by kernel_rfl
theorem ta_2_22 (v : Value) (w : World) : (Instr.typeAssert (.iface 2 v) 20 22 true).run Tryz.prog w = .ok (.tuple #[.int .u64 0, .bool false]) w := by kernel_rfl
theorem ta_88_22 (v : Value) (w : World) : (Instr.typeAssert (.iface 88 v) 20 22 true).run Tryz.prog w = .ok (.tuple #[.int .u64 0, .bool false]) w := by kernel_rfl
theorem ta_5_22 (v : Value) (w : World) : (Instr.typeAssert (.iface 5 v) 20 22 true).run Tryz.prog w = .ok (.tuple #[.int .u64 0, .bool false]) w := by kernel_rfl
theorem ta_156_22 (v : Value) (w : World) : (Instr.typeAssert (.iface 156 v) 20 22 true).run Tryz.prog w = .ok (.tuple #[.int .u64 0, .bool false]) w := by kernel_rfl
theorem ta_53_22 (v : Value) (w : World) : (Instr.typeAssert (.iface 53 v) 20 22 true).run Tryz.prog w = .ok (.tuple #[.int .u64 0, .bool false]) w := by kernel_rfl
theorem ta_22_22 (v : Value) (w : World) : (Instr.typeAssert (.iface 22 v) 20 22 true).run Tryz.prog w = .ok (.tuple #[v, .bool true]) w := by kernel_rfl
theorem ta_12_22 (v : Value) (w : World) : (Instr.typeAssert (.iface 12 v) 20 22 true).run Tryz.prog w = .ok (.tuple #[.int .u64 0, .bool false]) w := by kernel_rfl
theorem ta_149_22 (v : Value) (w : World) : (Instr.typeAssert (.iface 149 v) 20 22 true).run Tryz.prog w = .ok (.tuple #[.int .u64 0, .bool false]) w := by kernel_rfl
theorem ta_151_22 (v : Value) (w : World) : (Instr.typeAssert (.iface 151 v) 20 22 true).run Tryz.prog w = .ok (.tuple #[.int .u64 0, .bool false]) w := by kernel_rfl
theorem ta_9_22 (v : Value) (w : World) : (Instr.typeAssert (.iface 9 v) 20 22 true).run Tryz.prog w = .ok (.tuple #[.int .u64 0, .bool false]) w := by kernel_rfl
theorem ta_26_22 (v : Value) (w : World) : (Instr.typeAssert (.iface 26 v) 20 22 true).run Tryz.prog w = .ok (.tuple #[.int .u64 0, .bool false]) w := by kernel_rfl
theorem ta_164_22 (v : Value) (w : World) : (Instr.typeAssert (.iface 164 v) 20 22 true).run Tryz.prog w = .ok (.tuple #[.int .u64 0, .bool false]) w := by kernel_rfl
theorem ta_165_22 (v : Value) (w : World) : (Instr.typeAssert (.iface 165 v) 20 22 true).run Tryz.prog w = .ok (.tuple #[.int .u64 0, .bool false]) w := by kernel_rfl
theorem ta_n_12 (w : World) : (Instr.typeAssert .nilIface 20 12 true).run Tryz.prog w = .ok (.tuple #[.int .u64 0, .bool false]) w := by kernel_rfl
theorem ta_4_12 (v : Value) (w : World) : (Instr.typeAssert (.iface 4 v) 20 12 true).run Tryz.prog w = .ok (.tuple #[.int .u64 0, .bool false]) w := by kernel_rfl
theorem ta_3_12 (v : Value) (w : World) : (Instr.typeAssert (.iface 3 v) 20 12 true).run Tryz.prog w = .ok (.tuple #[.int .u64 0, .bool false]) w := by kernel_rfl
theorem ta_83_12 (v : Value) (w : World) : (Instr.typeAssert (.iface 83 v) 20 12 true).run Tryz.prog w = .ok (.tuple #[.int .u64 0, .bool false]) w := by kernel_rfl
theorem ta_84_12 (v : Value) (w : World) : (Instr.typeAssert (.iface 84 v) 20 12 true).run Tryz.prog w = .ok (.tuple #[.int .u64 0, .bool false]) w := by kernel_rfl
theorem ta_21_12 (v : Value) (w : World) : (Instr.typeAssert (.iface 21 v) 20 12 true).run Tryz.prog w = .ok (.tuple #[.int .u64 0, .bool false]) w := by kernel_rfl
theorem ta_2_12 (v : Value) (w : World) : (Instr.typeAssert (.iface 2 v) 20 12 true).run Tryz.prog w = .ok (.tuple #[.int .u64 0, .bool false]) w := by kernel_rfl
theorem ta_88_12 (v : Value) (w : World) : (Instr.typeAssert (.iface 88 v) 20 12 true).run Tryz.prog w = .ok (.tuple #[.int .u64 0, .bool false]) w := by kernel_rfl
theorem ta_5_12 (v : Value) (w : World) : (Instr.typeAssert (.iface 5 v) 20 12 true).run Tryz.prog w = .ok (.tuple #[.int .u64 0, .bool false]) w := by kernel_rfl
theorem ta_156_12 (v : Value) (w : World) : (Instr.typeAssert (.iface 156 v) 20 12 true).run Tryz.prog w = .ok (.tuple #[.int .u64 0, .bool false]) w := by kernel_rfl
theorem ta_53_12 (v : Value) (w : World) : (Instr.typeAssert (.iface 53 v) 20 12 true).run Tryz.prog w = .ok (.tuple #[.int .u64 0, .bool false]) w := by kernel_rfl
theorem ta_22_12 (v : Value) (w : World) : (Instr.typeAssert (.iface 22 v) 20 12 true).run Tryz.prog w = .ok (.tuple #[.int .u64 0, .bool false]) w := by kernel_rfl
theorem ta_12_12 (v : Value) (w : World) : (Instr.typeAssert (.iface 12 v) 20 12 true).run Tryz.prog w = .ok (.tuple #[v, .bool true]) w := by kernel_rfl
theorem ta_149_12 (v : Value) (w : World) : (Instr.typeAssert (.iface 149 v) 20 12 true).run Tryz.prog w = .ok (.tuple #[.int .u64 0, .bool false]) w := by kernel_rfl
theorem ta_151_12 (v : Value) (w : World) : (Instr.typeAssert (.iface 151 v) 20 12 true).run Tryz.prog w = .ok (.tuple #[.int .u64 0, .bool false]) w := by kernel_rfl
theorem ta_9_12 (v : Value) (w : World) : (Instr.typeAssert (.iface 9 v) 20 12 true).run Tryz.prog w = .ok (.tuple #[.int .u64 0, .bool false]) w := by kernel_rfl
theorem ta_26_12 (v : Value) (w : World) : (Instr.typeAssert (.iface 26 v) 20 12 true).run Tryz.prog w = .ok (.tuple #[.int .u64 0, .bool false]) w := by kernel_rfl
theorem ta_164_12 (v : Value) (w : World) : (Instr.typeAssert (.iface 164 v) 20 12 true).run Tryz.prog w = .ok (.tuple #[.int .u64 0, .bool false]) w := by kernel_rfl
theorem ta_165_12 (v : Value) (w : World) : (Instr.typeAssert (.iface 165 v) 20 12 true).run Tryz.prog w = .ok (.tuple #[.int .u64 0, .bool false]) w := by kernel_rfl
theorem ta_n_149 (w : World) : (Instr.typeAssert .nilIface 20 149 true).run Tryz.prog w = .ok (.tuple #[.float .f32 0, .bool false]) w := by kernel_rfl
theorem ta_4_149 (v : Value) (w : World) : (Instr.typeAssert (.iface 4 v) 20 149 true).run Tryz.prog w = .ok (.tuple #[.float .f32 0, .bool false]) w := by kernel_rfl
theorem ta_3_149 (v : Value) (w : World) : (Instr.typeAssert (.iface 3 v) 20 149 true).run Tryz.prog w = .ok (.tuple #[.float .f32 0, .bool false]) w := by kernel_rfl
theorem ta_83_149 (v : Value) (w : World) : (Instr.typeAssert (.iface 83 v) 20 149 true).run Tryz.prog w = .ok (.tuple #[.float .f32 0, .bool false]) w := by kernel_rfl
theorem ta_84_149 (v : Value) (w : World) : (Instr.typeAssert (.iface 84 v) 20 149 true).run Tryz.prog w = .ok (.tuple #[.float .f32 0, .bool false]) w := by kernel_rfl
theorem ta_21_149 (v : Value) (w : World) : (Instr.typeAssert (.iface 21 v) 20 149 true).run Tryz.prog w = .ok (.tuple #[.float .f32 0, .bool false]) w := by kernel_rfl
theorem ta_2_149 (v : Value) (w : World) : (Instr.typeAssert (.iface 2 v) 20 149 true).run Tryz.prog w = .ok (.tuple #[.float .f32 0, .bool false]) w := by kernel_rfl
theorem ta_88_149 (v : Value) (w : World) : (Instr.typeAssert (.iface 88 v) 20 149 true).run Tryz.prog w = .ok (.tuple #[.float .f32 0, .bool false]) w := by kernel_rfl
theorem ta_5_149 (v : Value) (w : World) : (Instr.typeAssert (.iface 5 v) 20 149 true).run Tryz.prog w = .ok (.tuple #[.float .f32 0, .bool false]) w := by kernel_rfl
theorem ta_156_149 (v : Value) (w : World) : (Instr.typeAssert (.iface 156 v) 20 149 true).run Tryz.prog w = .ok (.tuple #[.float .f32 0, .bool false]) w := by kernel_rfl
theorem ta_53_149 (v : Value) (w : World) : (Instr.typeAssert (.iface 53 v) 20 149 true).run Tryz.prog w = .ok (.tuple #[.float .f32 0, .bool false]) w := by kernel_rfl
theorem ta_22_149 (v : Value) (w : World) : (Instr.typeAssert (.iface 22 v) 20 149 true).run Tryz.prog w = .ok (.tuple #[.float .f32 0, .bool false]) w := by kernel_rfl
theorem ta_12_149 (v : Value) (w : World) : (Instr.typeAssert (.iface 12 v) 20 149 true).run Tryz.prog w = .ok (.tuple #[.float .f32 0, .bool false]) w := by kernel_rfl
theorem ta_149_149 (v : Value) (w : World) : (Instr.typeAssert (.iface 149 v) 20 149 true).run Tryz.prog w = .ok (.tuple #[v, .bool true]) w := by kernel_rfl
theorem ta_151_149 (v : Value) (w : World) : (Instr.typeAssert (.iface 151 v) 20 149 true).run Tryz.prog w = .ok (.tuple #[.float .f32 0, .bool false]) w := by kernel_rfl
theorem ta_9_149 (v : Value) (w : World) : (Instr.typeAssert (.iface 9 v) 20 149 true).run Tryz.prog w = .ok (.tuple #[.float .f32 0, .bool false]) w := by kernel_rfl
theorem ta_26_149 (v : Value) (w : World) : (Instr.typeAssert (.iface 26 v) 20 149 true).run Tryz.prog w = .ok (.tuple #[.float .f32 0, .bool false]) w := by kernel_rfl
theorem ta_164_149 (v : Value) (w : World) : (Instr.typeAssert (.iface 164 v) 20 149 true).run Tryz.prog w = .ok (.tuple #[.float .f32 0, .bool false]) w := by kernel_rfl
theorem ta_165_149 (v : Value) (w : World) : (Instr.typeAssert (.iface 165 v) 20 149 true).run Tryz.prog w = .ok (.tuple #[.float .f32 0, .bool false]) w := by kernel_rfl
theorem ta_n_151 (w : World) : (Instr.typeAssert .nilIface 20 151 true).run Tryz.prog w = .ok (.tuple #[.float .f64 0, .bool false]) w := by kernel_rfl
theorem ta_4_151 (v : Value) (w : World) : (Instr.typeAssert (.iface 4 v) 20 151 true).run Tryz.prog w = .ok (.tuple #[.float .f64 0, .bool false]) w := by kernel_rfl
theorem ta_3_151 (v : Value) (w : World) : (Instr.typeAssert (.iface 3 v) 20 151 true).run Tryz.prog w = .ok (.tuple #[.float .f64 0, .bool false]) w := by kernel_rfl
theorem ta_83_151 (v : Value) (w : World) : (Instr.typeAssert (.iface 83 v) 20 151 true).run Tryz.prog w = .ok (.tuple #[.float .f64 0, .bool false]) w := by kernel_rfl
theorem ta_84_151 (v : Value) (w : World) : (Instr.typeAssert (.iface 84 v) 20 151 true).run Tryz.prog w = .ok (.tuple #[.float .f64 0, .bool false]) w := by kernel_rfl
theorem ta_21_151 (v : Value) (w : World) : (Instr.typeAssert (.iface 21 v) 20 151 true).run Tryz.prog w = .ok (.tuple #[.float .f64 0, .bool false]) w := by kernel_rfl
theorem ta_2_151 (v : Value) (w : World) : (Instr.typeAssert (.iface 2 v) 20 151 true).run Tryz.prog w = .ok (.tuple #[.float .f64 0, .bool false]) w := by kernel_rfl
theorem ta_88_151 (v : Value) (w : World) : (Instr.typeAssert (.iface 88 v) 20 151 true).run Tryz.prog w = .ok (.tuple #[.float .f64 0, .bool false]) w := by kernel_rfl
theorem ta_5_151 (v : Value) (w : World) : (Instr.typeAssert (.iface 5 v) 20 151 true).run Tryz.prog w = .ok (.tuple #[.float .f64 0, .bool false]) w := by kernel_rfl
theorem ta_156_151 (v : Value) (w : World) : (Instr.typeAssert (.iface 156 v) 20 151 true).run Tryz.prog w = .ok (.tuple #[.float .f64 0, .bool false]) w := by kernel_rfl
theorem ta_53_151 (v : Value) (w : World) : (Instr.typeAssert (.iface 53 v) 20 151 true).run Tryz.prog w = .ok (.tuple #[.float .f64 0, .bool false]) w := by kernel_rfl
theorem ta_22_151 (v : Value) (w : World) : (Instr.typeAssert (.iface 22 v) 20 151 true).run Tryz.prog w = .ok (.tuple #[.float .f64 0, .bool false]) w := by kernel_rfl
theorem ta_12_151 (v : Value) (w : World) : (Instr.typeAssert (.iface 12 v) 20 151 true).run Tryz.prog w = .ok (.tuple #[.float .f64 0, .bool false]) w := by kernel_rfl
theorem ta_149_151 (v : Value) (w : World) : (Instr.typeAssert (.iface 149 v) 20 151 true).run Tryz.prog w = .ok (.tuple #[.float .f64 0, .bool false]) w := by kernel_rfl
theorem ta_151_151 (v : Value) (w : World) : (Instr.typeAssert (.iface 151 v) 20 151 true).run Tryz.prog w = .ok (.tuple #[v, .bool true]) w := by kernel_rfl
theorem ta_9_151 (v : Value) (w : World) : (Instr.typeAssert (.iface 9 v) 20 151 true).run Tryz.prog w = .ok (.tuple #[.float .f64 0, .bool false]) w := by kernel_rfl
theorem ta_26_151 (v : Value) (w : World) : (Instr.typeAssert (.iface 26 v) 20 151 true).run Tryz.prog w = .ok (.tuple #[.float .f64 0, .bool false]) w := by kernel_rfl
theorem ta_164_151 (v : Value) (w : World) : (Instr.typeAssert (.iface 164 v) 20 151 true).run Tryz.prog w = .ok (.tuple #[.float .f64 0, .bool false]) w := by kernel_rfl
theorem ta_165_151 (v : Value) (w : World) : (Instr.typeAssert (.iface 165 v) 20 151 true).run Tryz.prog w = .ok (.tuple #[.float .f64 0, .bool false]) w := by kernel_rfl
theorem ta_n_152 (w : World) : (Instr.typeAssert .nilIface 20 152 true).run Tryz.prog w = .ok (.tuple #[.complex .f32 0 0, .bool false]) w := by kernel_rfl
theorem ta_4_152 (v : Value) (w : World) : (Instr.typeAssert (.iface 4 v) 20 152 true).run Tryz.prog w = .ok (.tuple #[.complex .f32 0 0, .bool false]) w := by kernel_rfl
theorem ta_3_152 (v : Value) (w : World) : (Instr.typeAssert (.iface 3 v) 20 152 true).run Tryz.prog w = .ok (.tuple #[.complex .f32 0 0, .bool false]) w := by kernel_rfl
theorem ta_83_152 (v : Value) (w : World) : (Instr.typeAssert (.iface 83 v) 20 152 true).run Tryz.prog w = .ok (.tuple #[.complex .f32 0 0, .bool false]) w := by kernel_rfl
theorem ta_84_152 (v : Value) (w : World) : (Instr.typeAssert (.iface 84 v) 20 152 true).run Tryz.prog w = .ok (.tuple #[.complex .f32 0 0, .bool false]) w := by kernel_rfl
theorem ta_21_152 (v : Value) (w : World) : (Instr.typeAssert (.iface 21 v) 20 152 true).run Tryz.prog w = .ok (.tuple #[.complex .f32 0 0, .bool false]) w := by kernel_rfl
theorem ta_2_152 (v : Value) (w : World) : (Instr.typeAssert (.iface 2 v) 20 152 true).run Tryz.prog w = .ok (.tuple #[.complex .f32 0 0, .bool false]) w := by kernel_rfl
theorem ta_88_152 (v : Value) (w : World) : (Instr.typeAssert (.iface 88 v) 20 152 true).run Tryz.prog w = .ok (.tuple #[.complex .f32 0 0, .bool false]) w := by kernel_rfl
theorem ta_5_152 (v : Value) (w : World) : (Instr.typeAssert (.iface 5 v) 20 152 true).run Tryz.prog w = .ok (.tuple #[.complex .f32 0 0, .bool false]) w := by kernel_rfl
theorem ta_156_152 (v : Value) (w : World) : (Instr.typeAssert (.iface 156 v) 20 152 true).run Tryz.prog w = .ok (.tuple #[.complex .f32 0 0, .bool false]) w := by kernel_rfl
theorem ta_53_152 (v : Value) (w : World) : (Instr.typeAssert (.iface 53 v) 20 152 true).run Tryz.prog w = .ok (.tuple #[.complex .f32 0 0, .bool false]) w := by kernel_rfl
theorem ta_22_152 (v : Value) (w : World) : (Instr.typeAssert (.iface 22 v) 20 152 true).run Tryz.prog w = .ok (.tuple #[.complex .f32 0 0, .bool false]) w := by kernel_rfl
theorem ta_12_152 (v : Value) (w : World) : (Instr.typeAssert (.iface 12 v) 20 152 true).run Tryz.prog w = .ok (.tuple #[.complex .f32 0 0, .bool false]) w := by kernel_rfl
theorem ta_149_152 (v : Value) (w : World) : (Instr.typeAssert (.iface 149 v) 20 152 true).run Tryz.prog w = .ok (.tuple #[.complex .f32 0 0, .bool false]) w := by kernel_rfl
theorem ta_151_152 (v : Value) (w : World) : (Instr.typeAssert (.iface 151 v) 20 152 true).run Tryz.prog w = .ok (.tuple #[.complex .f32 0 0, .bool false]) w := by kernel_rfl
theorem ta_9_152 (v : Value) (w : World) : (Instr.typeAssert (.iface 9 v) 20 152 true).run Tryz.prog w = .ok (.tuple #[.complex .f32 0 0, .bool false]) w := by kernel_rfl
theorem ta_26_152 (v : Value) (w : World) : (Instr.typeAssert (.iface 26 v) 20 152 true).run Tryz.prog w = .ok (.tuple #[.complex .f32 0 0, .bool false]) w := by kernel_rfl
theorem ta_164_152 (v : Value) (w : World) : (Instr.typeAssert (.iface 164 v) 20 152 true).run Tryz.prog w = .ok (.tuple #[.complex .f32 0 0, .bool false]) w := by kernel_rfl
theorem ta_165_152 (v : Value) (w : World) : (Instr.typeAssert (.iface 165 v) 20 152 true).run Tryz.prog w = .ok (.tuple #[.complex .f32 0 0, .bool false]) w := by kernel_rfl
theorem ta_n_154 (w : World) : (Instr.typeAssert .nilIface 20 154 true).run Tryz.prog w = .ok (.tuple #[.complex .f64 0 0, .bool false]) w := by kernel_rfl
theorem ta_4_154 (v : Value) (w : World) : (Instr.typeAssert (.iface 4 v) 20 154 true).run Tryz.prog w = .ok (.tuple #[.complex .f64 0 0, .bool false]) w := by kernel_rfl
theorem ta_3_154 (v : Value) (w : World) : (Instr.typeAssert (.iface 3 v) 20 154 true).run Tryz.prog w = .ok (.tuple #[.complex .f64 0 0, .bool false]) w := by kernel_rfl
theorem ta_83_154 (v : Value) (w : World) : (Instr.typeAssert (.iface 83 v) 20 154 true).run Tryz.prog w = .ok (.tuple #[.complex .f64 0 0, .bool false]) w := by kernel_rfl
theorem ta_84_154 (v : Value) (w : World) : (Instr.typeAssert (.iface 84 v) 20 154 true).run Tryz.prog w = .ok (.tuple #[.complex .f64 0 0, .bool false]) w := by kernel_rfl
theorem ta_21_154 (v : Value) (w : World) : (Instr.typeAssert (.iface 21 v) 20 154 true).run Tryz.prog w = .ok (.tuple #[.complex .f64 0 0, .bool false]) w := by kernel_rfl
theorem ta_2_154 (v : Value) (w : World) : (Instr.typeAssert (.iface 2 v) 20 154 true).run Tryz.prog w = .ok (.tuple #[.complex .f64 0 0, .bool false]) w := by kernel_rfl
theorem ta_88_154 (v : Value) (w : World) : (Instr.typeAssert (.iface 88 v) 20 154 true).run Tryz.prog w = .ok (.tuple #[.complex .f64 0 0, .bool false]) w := by kernel_rfl
theorem ta_5_154 (v : Value) (w : World) : (Instr.typeAssert (.iface 5 v) 20 154 true).run Tryz.prog w = .ok (.tuple #[.complex .f64 0 0, .bool false]) w := by kernel_rfl
theorem ta_156_154 (v : Value) (w : World) : (Instr.typeAssert (.iface 156 v) 20 154 true).run Tryz.prog w = .ok (.tuple #[.complex .f64 0 0, .bool false]) w := by kernel_rfl
theorem ta_53_154 (v : Value) (w : World) : (Instr.typeAssert (.iface 53 v) 20 154 true).run Tryz.prog w = .ok (.tuple #[.complex .f64 0 0, .bool false]) w := by kernel_rfl
theorem ta_22_154 (v : Value) (w : World) : (Instr.typeAssert (.iface 22 v) 20 154 true).run Tryz.prog w = .ok (.tuple #[.complex .f64 0 0, .bool false]) w := by kernel_rfl
theorem ta_12_154 (v : Value) (w : World) : (Instr.typeAssert (.iface 12 v) 20 154 true).run Tryz.prog w = .ok (.tuple #[.complex .f64 0 0, .bool false]) w := by kernel_rfl
theorem ta_149_154 (v : Value) (w : World) : (Instr.typeAssert (.iface 149 v) 20 154 true).run Tryz.prog w = .ok (.tuple #[.complex .f64 0 0, .bool false]) w := by kernel_rfl
theorem ta_151_154 (v : Value) (w : World) : (Instr.typeAssert (.iface 151 v) 20 154 true).run Tryz.prog w = .ok (.tuple #[.complex .f64 0 0, .bool false]) w := by kernel_rfl
theorem ta_9_154 (v : Value) (w : World) : (Instr.typeAssert (.iface 9 v) 20 154 true).run Tryz.prog w = .ok (.tuple #[.complex .f64 0 0, .bool false]) w := by kernel_rfl
theorem ta_26_154 (v : Value) (w : World) : (Instr.typeAssert (.iface 26 v) 20 154 true).run Tryz.prog w = .ok (.tuple #[.complex .f64 0 0, .bool false]) w := by kernel_rfl
theorem ta_164_154 (v : Value) (w : World) : (Instr.typeAssert (.iface 164 v) 20 154 true).run Tryz.prog w = .ok (.tuple #[.complex .f64 0 0, .bool false]) w := by kernel_rfl
theorem ta_165_154 (v : Value) (w : World) : (Instr.typeAssert (.iface 165 v) 20 154 true).run Tryz.prog w = .ok (.tuple #[.complex .f64 0 0, .bool false]) w := by kernel_rfl
theorem ta_n_9 (w : World) : (Instr.typeAssert .nilIface 20 9 true).run Tryz.prog w = .ok (.tuple #[.string ⟨#[]⟩, .bool false]) w := by kernel_rfl
theorem ta_4_9 (v : Value) (w : World) : (Instr.typeAssert (.iface 4 v) 20 9 true).run Tryz.prog w = .ok (.tuple #[.string ⟨#[]⟩, .bool false]) w := by kernel_rfl
theorem ta_3_9 (v : Value) (w : World) : (Instr.typeAssert (.iface 3 v) 20 9 true).run Tryz.prog w = .ok (.tuple #[.string ⟨#[]⟩, .bool false]) w := by kernel_rfl
theorem ta_83_9 (v : Value) (w : World) : (Instr.typeAssert (.iface 83 v) 20 9 true).run Tryz.prog w = .ok (.tuple #[.string ⟨#[]⟩, .bool false]) w := by kernel_rfl
theorem ta_84_9 (v : Value) (w : World) : (Instr.typeAssert (.iface 84 v) 20 9 true).run Tryz.prog w = .ok (.tuple #[.string ⟨#[]⟩, .bool false]) w := by kernel_rfl
theorem ta_21_9 (v : Value) (w : World) : (Instr.typeAssert (.iface 21 v) 20 9 true).run Tryz.prog w = .ok (.tuple #[.string ⟨#[]⟩, .bool false]) w := by kernel_rfl
theorem ta_2_9 (v : Value) (w : World) : (Instr.typeAssert (.iface 2 v) 20 9 true).run Tryz.prog w = .ok (.tuple #[.string ⟨#[]⟩, .bool false]) w := by kernel_rfl
theorem ta_88_9 (v : Value) (w : World) : (Instr.typeAssert (.iface 88 v) 20 9 true).run Tryz.prog w = .ok (.tuple #[.string ⟨#[]⟩, .bool false]) w := by kernel_rfl
theorem ta_5_9 (v : Value) (w : World) : (Instr.typeAssert (.iface 5 v) 20 9 true).run Tryz.prog w = .ok (.tuple #[.string ⟨#[]⟩, .bool false]) w := by kernel_rfl
theorem ta_156_9 (v : Value) (w : World) : (Instr.typeAssert (.iface 156 v) 20 9 true).run Tryz.prog w = .ok (.tuple #[.string ⟨#[]⟩, .bool false]) w := by kernel_rfl
theorem ta_53_9 (v : Value) (w : World) : (Instr.typeAssert (.iface 53 v) 20 9 true).run Tryz.prog w = .ok (.tuple #[.string ⟨#[]⟩, .bool false]) w := by kernel_rfl
theorem ta_22_9 (v : Value) (w : World) : (Instr.typeAssert (.iface 22 v) 20 9 true).run Tryz.prog w = .ok (.tuple #[.string ⟨#[]⟩, .bool false]) w := by kernel_rfl
theorem ta_12_9 (v : Value) (w : World) : (Instr.typeAssert (.iface 12 v) 20 9 true).run Tryz.prog w = .ok (.tuple #[.string ⟨#[]⟩, .bool false]) w := by kernel_rfl
theorem ta_149_9 (v : Value) (w : World) : (Instr.typeAssert (.iface 149 v) 20 9 true).run Tryz.prog w = .ok (.tuple #[.string ⟨#[]⟩, .bool false]) w := by kernel_rfl
theorem ta_151_9 (v : Value) (w : World) : (Instr.typeAssert (.iface 151 v) 20 9 true).run Tryz.prog w = .ok (.tuple #[.string ⟨#[]⟩, .bool false]) w := by kernel_rfl
theorem ta_9_9 (v : Value) (w : World) : (Instr.typeAssert (.iface 9 v) 20 9 true).run Tryz.prog w = .ok (.tuple #[v, .bool true]) w := by kernel_rfl
theorem ta_26_9 (v : Value) (w : World) : (Instr.typeAssert (.iface 26 v) 20 9 true).run Tryz.prog w = .ok (.tuple #[.string ⟨#[]⟩, .bool false]) w := by kernel_rfl
theorem ta_164_9 (v : Value) (w : World) : (Instr.typeAssert (.iface 164 v) 20 9 true).run Tryz.prog w = .ok (.tuple #[.string ⟨#[]⟩, .bool false]) w := by kernel_rfl
theorem ta_165_9 (v : Value) (w : World) : (Instr.typeAssert (.iface 165 v) 20 9 true).run Tryz.prog w = .ok (.tuple #[.string ⟨#[]⟩, .bool false]) w := by kernel_rfl
theorem ta_n_26 (w : World) : (Instr.typeAssert .nilIface 20 26 true).run Tryz.prog w = .ok (.tuple #[.slice none 0 0, .bool false]) w := by kernel_rfl
theorem ta_4_26 (v : Value) (w : World) : (Instr.typeAssert (.iface 4 v) 20 26 true).run Tryz.prog w = .ok (.tuple #[.slice none 0 0, .bool false]) w := by kernel_rfl
theorem ta_3_26 (v : Value) (w : World) : (Instr.typeAssert (.iface 3 v) 20 26 true).run Tryz.prog w = .ok (.tuple #[.slice none 0 0, .bool false]) w := by kernel_rfl
theorem ta_83_26 (v : Value) (w : World) : (Instr.typeAssert (.iface 83 v) 20 26 true).run Tryz.prog w = .ok (.tuple #[.slice none 0 0, .bool false]) w := by kernel_rfl
theorem ta_84_26 (v : Value) (w : World) : (Instr.typeAssert (.iface 84 v) 20 26 true).run Tryz.prog w = .ok (.tuple #[.slice none 0 0, .bool false]) w := by kernel_rfl
theorem ta_21_26 (v : Value) (w : World) : (Instr.typeAssert (.iface 21 v) 20 26 true).run Tryz.prog w = .ok (.tuple #[.slice none 0 0, .bool false]) w := by kernel_rfl
theorem ta_2_26 (v : Value) (w : World) : (Instr.typeAssert (.iface 2 v) 20 26 true).run Tryz.prog w = .ok (.tuple #[.slice none 0 0, .bool false]) w := by kernel_rfl
theorem ta_88_26 (v : Value) (w : World) : (Instr.typeAssert (.iface 88 v) 20 26 true).run Tryz.prog w = .ok (.tuple #[.slice none 0 0, .bool false]) w := by kernel_rfl
theorem ta_5_26 (v : Value) (w : World) : (Instr.typeAssert (.iface 5 v) 20 26 true).run Tryz.prog w = .ok (.tuple #[.slice none 0 0, .bool false]) w := by kernel_rfl
theorem ta_156_26 (v : Value) (w : World) : (Instr.typeAssert (.iface 156 v) 20 26 true).run Tryz.prog w = .ok (.tuple #[.slice none 0 0, .bool false]) w := by kernel_rfl
theorem ta_53_26 (v : Value) (w : World) : (Instr.typeAssert (.iface 53 v) 20 26 true).run Tryz.prog w = .ok (.tuple #[.slice none 0 0, .bool false]) w := by kernel_rfl
theorem ta_22_26 (v : Value) (w : World) : (Instr.typeAssert (.iface 22 v) 20 26 true).run Tryz.prog w = .ok (.tuple #[.slice none 0 0, .bool false]) w := by kernel_rfl
theorem ta_12_26 (v : Value) (w : World) : (Instr.typeAssert (.iface 12 v) 20 26 true).run Tryz.prog w = .ok (.tuple #[.slice none 0 0, .bool false]) w := by kernel_rfl
theorem ta_149_26 (v : Value) (w : World) : (Instr.typeAssert (.iface 149 v) 20 26 true).run Tryz.prog w = .ok (.tuple #[.slice none 0 0, .bool false]) w := by kernel_rfl
theorem ta_151_26 (v : Value) (w : World) : (Instr.typeAssert (.iface 151 v) 20 26 true).run Tryz.prog w = .ok (.tuple #[.slice none 0 0, .bool false]) w := by kernel_rfl
theorem ta_9_26 (v : Value) (w : World) : (Instr.typeAssert (.iface 9 v) 20 26 true).run Tryz.prog w = .ok (.tuple #[.slice none 0 0, .bool false]) w := by kernel_rfl
theorem ta_26_26 (v : Value) (w : World) : (Instr.typeAssert (.iface 26 v) 20 26 true).run Tryz.prog w = .ok (.tuple #[v, .bool true]) w := by kernel_rfl
theorem ta_164_26 (v : Value) (w : World) : (Instr.typeAssert (.iface 164 v) 20 26 true).run Tryz.prog w = .ok (.tuple #[.slice none 0 0, .bool false]) w := by kernel_rfl
theorem ta_165_26 (v : Value) (w : World) : (Instr.typeAssert (.iface 165 v) 20 26 true).run Tryz.prog w = .ok (.tuple #[.slice none 0 0, .bool false]) w := by kernel_rfl
theorem ta_n_164 (w : World) : (Instr.typeAssert .nilIface 20 164 true).run Tryz.prog w = .ok (.tuple #[.agg #[.string ⟨#[]⟩], .bool false]) w := by kernel_rfl
theorem ta_4_164 (v : Value) (w : World) : (Instr.typeAssert (.iface 4 v) 20 164 true).run Tryz.prog w = .ok (.tuple #[.agg #[.string ⟨#[]⟩], .bool false]) w := by kernel_rfl
theorem ta_3_164 (v : Value) (w : World) : (Instr.typeAssert (.iface 3 v) 20 164 true).run Tryz.prog w = .ok (.tuple #[.agg #[.string ⟨#[]⟩], .bool false]) w := by kernel_rfl
theorem ta_83_164 (v : Value) (w : World) : (Instr.typeAssert (.iface 83 v) 20 164 true).run Tryz.prog w = .ok (.tuple #[.agg #[.string ⟨#[]⟩], .bool false]) w := by kernel_rfl
theorem ta_84_164 (v : Value) (w : World) : (Instr.typeAssert (.iface 84 v) 20 164 true).run Tryz.prog w = .ok (.tuple #[.agg #[.string ⟨#[]⟩], .bool false]) w := by kernel_rfl
theorem ta_21_164 (v : Value) (w : World) : (Instr.typeAssert (.iface 21 v) 20 164 true).run Tryz.prog w = .ok (.tuple #[.agg #[.string ⟨#[]⟩], .bool false]) w := by kernel_rfl
theorem ta_2_164 (v : Value) (w : World) : (Instr.typeAssert (.iface 2 v) 20 164 true).run Tryz.prog w = .ok (.tuple #[.agg #[.string ⟨#[]⟩], .bool false]) w := by kernel_rfl
theorem ta_88_164 (v : Value) (w : World) : (Instr.typeAssert (.iface 88 v) 20 164 true).run Tryz.prog w = .ok (.tuple #[.agg #[.string ⟨#[]⟩], .bool false]) w := by kernel_rfl
theorem ta_5_164 (v : Value) (w : World) : (Instr.typeAssert (.iface 5 v) 20 164 true).run Tryz.prog w = .ok (.tuple #[.agg #[.string ⟨#[]⟩], .bool false]) w := by kernel_rfl
theorem ta_156_164 (v : Value) (w : World) : (Instr.typeAssert (.iface 156 v) 20 164 true).run Tryz.prog w = .ok (.tuple #[.agg #[.string ⟨#[]⟩], .bool false]) w := by kernel_rfl
theorem ta_53_164 (v : Value) (w : World) : (Instr.typeAssert (.iface 53 v) 20 164 true).run Tryz.prog w = .ok (.tuple #[.agg #[.string ⟨#[]⟩], .bool false]) w := by kernel_rfl
theorem ta_22_164 (v : Value) (w : World) : (Instr.typeAssert (.iface 22 v) 20 164 true).run Tryz.prog w = .ok (.tuple #[.agg #[.string ⟨#[]⟩], .bool false]) w := by kernel_rfl
theorem ta_12_164 (v : Value) (w : World) : (Instr.typeAssert (.iface 12 v) 20 164 true).run Tryz.prog w = .ok (.tuple #[.agg #[.string ⟨#[]⟩], .bool false]) w := by kernel_rfl
theorem ta_149_164 (v : Value) (w : World) : (Instr.typeAssert (.iface 149 v) 20 164 true).run Tryz.prog w = .ok (.tuple #[.agg #[.string ⟨#[]⟩], .bool false]) w := by kernel_rfl
theorem ta_151_164 (v : Value) (w : World) : (Instr.typeAssert (.iface 151 v) 20 164 true).run Tryz.prog w = .ok (.tuple #[.agg #[.string ⟨#[]⟩], .bool false]) w := by kernel_rfl
theorem ta_9_164 (v : Value) (w : World) : (Instr.typeAssert (.iface 9 v) 20 164 true).run Tryz.prog w = .ok (.tuple #[.agg #[.string ⟨#[]⟩], .bool false]) w := by kernel_rfl
theorem ta_26_164 (v : Value) (w : World) : (Instr.typeAssert (.iface 26 v) 20 164 true).run Tryz.prog w = .ok (.tuple #[.agg #[.string ⟨#[]⟩], .bool false]) w := by kernel_rfl
theorem ta_164_164 (v : Value) (w : World) : (Instr.typeAssert (.iface 164 v) 20 164 true).run Tryz.prog w = .ok (.tuple #[v, .bool true]) w := by kernel_rfl
theorem ta_165_164 (v : Value) (w : World) : (Instr.typeAssert (.iface 165 v) 20 164 true).run Tryz.prog w = .ok (.tuple #[.agg #[.string ⟨#[]⟩], .bool false]) w := by kernel_rfl
theorem ta_n_165 (w : World) : (Instr.typeAssert .nilIface 20 165 true).run Tryz.prog w = .ok (.tuple #[.agg #[.string ⟨#[]⟩], .bool false]) w := by kernel_rfl
theorem ta_4_165 (v : Value) (w : World) : (Instr.typeAssert (.iface 4 v) 20 165 true).run Tryz.prog w = .ok (.tuple #[.agg #[.string ⟨#[]⟩], .bool false]) w := by kernel_rfl
theorem ta_3_165 (v : Value) (w : World) : (Instr.typeAssert (.iface 3 v) 20 165 true).run Tryz.prog w = .ok (.tuple #[.agg #[.string ⟨#[]⟩], .bool false]) w := by kernel_rfl
theorem ta_83_165 (v : Value) (w : World) : (Instr.typeAssert (.iface 83 v) 20 165 true).run Tryz.prog w = .ok (.tuple #[.agg #[.string ⟨#[]⟩], .bool false]) w := by kernel_rfl
theorem ta_84_165 (v : Value) (w : World) : (Instr.typeAssert (.iface 84 v) 20 165 true).run Tryz.prog w = .ok (.tuple #[.agg #[.string ⟨#[]⟩], .bool false]) w := by kernel_rfl
theorem ta_21_165 (v : Value) (w : World) : (Instr.typeAssert (.iface 21 v) 20 165 true).run Tryz.prog w = .ok (.tuple #[.agg #[.string ⟨#[]⟩], .bool false]) w := by kernel_rfl
theorem ta_2_165 (v : Value) (w : World) : (Instr.typeAssert (.iface 2 v) 20 165 true).run Tryz.prog w = .ok (.tuple #[.agg #[.string ⟨#[]⟩], .bool false]) w := by kernel_rfl
theorem ta_88_165 (v : Value) (w : World) : (Instr.typeAssert (.iface 88 v) 20 165 true).run Tryz.prog w = .ok (.tuple #[.agg #[.string ⟨#[]⟩], .bool false]) w := by kernel_rfl
theorem ta_5_165 (v : Value) (w : World) : (Instr.typeAssert (.iface 5 v) 20 165 true).run Tryz.prog w = .ok (.tuple #[.agg #[.string ⟨#[]⟩], .bool false]) w := by kernel_rfl
theorem ta_156_165 (v : Value) (w : World) : (Instr.typeAssert (.iface 156 v) 20 165 true).run Tryz.prog w = .ok (.tuple #[.agg #[.string ⟨#[]⟩], .bool false]) w := by kernel_rfl
theorem ta_53_165 (v : Value) (w : World) : (Instr.typeAssert (.iface 53 v) 20 165 true).run Tryz.prog w = .ok (.tuple #[.agg #[.string ⟨#[]⟩], .bool false]) w := by kernel_rfl
theorem ta_22_165 (v : Value) (w : World) : (Instr.typeAssert (.iface 22 v) 20 165 true).run Tryz.prog w = .ok (.tuple #[.agg #[.string ⟨#[]⟩], .bool false]) w := by kernel_rfl
theorem ta_12_165 (v : Value) (w : World) : (Instr.typeAssert (.iface 12 v) 20 165 true).run Tryz.prog w = .ok (.tuple #[.agg #[.string ⟨#[]⟩], .bool false]) w := by kernel_rfl
theorem ta_149_165 (v : Value) (w : World) : (Instr.typeAssert (.iface 149 v) 20 165 true).run Tryz.prog w = .ok (.tuple #[.agg #[.string ⟨#[]⟩], .bool false]) w := by kernel_rfl
theorem ta_151_165 (v : Value) (w : World) : (Instr.typeAssert (.iface 151 v) 20 165 true).run Tryz.prog w = .ok (.tuple #[.agg #[.string ⟨#[]⟩], .bool false]) w := by kernel_rfl
theorem ta_9_165 (v : Value) (w : World) : (Instr.typeAssert (.iface 9 v) 20 165 true).run Tryz.prog w = .ok (.tuple #[.agg #[.string ⟨#[]⟩], .bool false]) w := by kernel_rfl
theorem ta_26_165 (v : Value) (w : World) : (Instr.typeAssert (.iface 26 v) 20 165 true).run Tryz.prog w = .ok (.tuple #[.agg #[.string ⟨#[]⟩], .bool false]) w := by kernel_rfl
theorem ta_164_165 (v : Value) (w : World) : (Instr.typeAssert (.iface 164 v) 20 165 true).run Tryz.prog w = .ok (.tuple #[.agg #[.string ⟨#[]⟩], .bool false]) w := by kernel_rfl
theorem ta_165_165 (v : Value) (w : World) : (Instr.typeAssert (.iface 165 v) 20 165 true).run Tryz.prog w = .ok (.tuple #[v, .bool true]) w := by kernel_rfl

end Go.Proofs.YtcbliojofnigdaaGreatDoor
