/- What a type assertion with comma-ok gives, at each dynamic type (printed by tools/gen_types.py). asInt at each type (printed by tools/gen_asint.py). asInt of an argument, intFromArg. parseArgNumber and argNumber. typeName at each type (printed by tools/gen_tname.py). -/
import Derived.Test.YtcbliojofnigdaaGreatDoorFrame
namespace Go.Proofs.YtcbliojofnigdaaGreatDoor
open Go Go.Proofs Go.RowKit

theorem ta_n_4 (w : World) : (Instr.typeAssert .nilIface 20 4 true).run Tryz.prog w = .ok (.tuple #[.bool false, .bool false]) w := by kernel_rfl
theorem ta_4_4 (v : Value) (w : World) : (Instr.typeAssert (.iface 4 v) 20 4 true).run Tryz.prog w = .ok (.tuple #[v, .bool true]) w := by kernel_rfl
theorem ta_3_4 (v : Value) (w : World) : (Instr.typeAssert (.iface 3 v) 20 4 true).run Tryz.prog w = .ok (.tuple #[.bool false, .bool false]) w := by kernel_rfl
theorem ta_83_4 (v : Value) (w : World) : (Instr.typeAssert (.iface 83 v) 20 4 true).run Tryz.prog w = .ok (.tuple #[.bool false, .bool false]) w := by kernel_rfl
theorem ta_84_4 (v : Value) (w : World) : (Instr.typeAssert (.iface 84 v) 20 4 true).run Tryz.prog w = .ok (.tuple #[.bool false, .bool false]) w := by kernel_rfl
theorem ta_21_4 (v : Value) (w : World) : (Instr.typeAssert (.iface 21 v) 20 4 true).run Tryz.prog w = .ok (.tuple #[.bool false, .bool false]) w := by kernel_rfl
theorem ta_2_4 (v : Value) (w : World) : (Instr.typeAssert (.iface 2 v) 20 4 true).run Tryz.prog w = .ok (.tuple #[.bool false, .bool false]) w := by kernel_rfl
theorem ta_88_4 (v : Value) (w : World) : (Instr.typeAssert (.iface 88 v) 20 4 true).run Tryz.prog w = .ok (.tuple #[.bool false, .bool false]) w := by kernel_rfl
theorem ta_5_4 (v : Value) (w : World) : (Instr.typeAssert (.iface 5 v) 20 4 true).run Tryz.prog w = .ok (.tuple #[.bool false, .bool false]) w := by kernel_rfl
theorem ta_156_4 (v : Value) (w : World) : (Instr.typeAssert (.iface 156 v) 20 4 true).run Tryz.prog w = .ok (.tuple #[.bool false, .bool false]) w := by kernel_rfl
theorem ta_53_4 (v : Value) (w : World) : (Instr.typeAssert (.iface 53 v) 20 4 true).run Tryz.prog w = .ok (.tuple #[.bool false, .bool false]) w := by kernel_rfl
theorem ta_22_4 (v : Value) (w : World) : (Instr.typeAssert (.iface 22 v) 20 4 true).run Tryz.prog w = .ok (.tuple #[.bool false, .bool false]) w := by kernel_rfl
theorem ta_12_4 (v : Value) (w : World) : (Instr.typeAssert (.iface 12 v) 20 4 true).run Tryz.prog w = .ok (.tuple #[.bool false, .bool false]) w := by kernel_rfl
theorem ta_149_4 (v : Value) (w : World) : (Instr.typeAssert (.iface 149 v) 20 4 true).run Tryz.prog w = .ok (.tuple #[.bool false, .bool false]) w := by kernel_rfl
theorem ta_151_4 (v : Value) (w : World) : (Instr.typeAssert (.iface 151 v) 20 4 true).run Tryz.prog w = .ok (.tuple #[.bool false, .bool false]) w := by kernel_rfl
theorem ta_9_4 (v : Value) (w : World) : (Instr.typeAssert (.iface 9 v) 20 4 true).run Tryz.prog w = .ok (.tuple #[.bool false, .bool false]) w := by kernel_rfl
theorem ta_26_4 (v : Value) (w : World) : (Instr.typeAssert (.iface 26 v) 20 4 true).run Tryz.prog w = .ok (.tuple #[.bool false, .bool false]) w := by kernel_rfl
theorem ta_164_4 (v : Value) (w : World) : (Instr.typeAssert (.iface 164 v) 20 4 true).run Tryz.prog w = .ok (.tuple #[.bool false, .bool false]) w := by kernel_rfl
theorem ta_165_4 (v : Value) (w : World) : (Instr.typeAssert (.iface 165 v) 20 4 true).run Tryz.prog w = .ok (.tuple #[.bool false, .bool false]) w := by kernel_rfl
theorem ta_n_3 (w : World) : (Instr.typeAssert .nilIface 20 3 true).run Tryz.prog w = .ok (.tuple #[.int .i64 0, .bool false]) w := by kernel_rfl
theorem ta_4_3 (v : Value) (w : World) : (Instr.typeAssert (.iface 4 v) 20 3 true).run Tryz.prog w = .ok (.tuple #[.int .i64 0, .bool false]) w := by kernel_rfl
theorem ta_3_3 (v : Value) (w : World) : (Instr.typeAssert (.iface 3 v) 20 3 true).run Tryz.prog w = .ok (.tuple #[v, .bool true]) w := by kernel_rfl
theorem ta_83_3 (v : Value) (w : World) : (Instr.typeAssert (.iface 83 v) 20 3 true).run Tryz.prog w = .ok (.tuple #[.int .i64 0, .bool false]) w := by kernel_rfl
theorem ta_84_3 (v : Value) (w : World) : (Instr.typeAssert (.iface 84 v) 20 3 true).run Tryz.prog w = .ok (.tuple #[.int .i64 0, .bool false]) w := by kernel_rfl
theorem ta_21_3 (v : Value) (w : World) : (Instr.typeAssert (.iface 21 v) 20 3 true).run Tryz.prog w = .ok (.tuple #[.int .i64 0, .bool false]) w := by kernel_rfl
theorem ta_2_3 (v : Value) (w : World) : (Instr.typeAssert (.iface 2 v) 20 3 true).run Tryz.prog w = .ok (.tuple #[.int .i64 0, .bool false]) w := by kernel_rfl
theorem ta_88_3 (v : Value) (w : World) : (Instr.typeAssert (.iface 88 v) 20 3 true).run Tryz.prog w = .ok (.tuple #[.int .i64 0, .bool false]) w := by kernel_rfl
theorem ta_5_3 (v : Value) (w : World) : (Instr.typeAssert (.iface 5 v) 20 3 true).run Tryz.prog w = .ok (.tuple #[.int .i64 0, .bool false]) w := by kernel_rfl
theorem ta_156_3 (v : Value) (w : World) : (Instr.typeAssert (.iface 156 v) 20 3 true).run Tryz.prog w = .ok (.tuple #[.int .i64 0, .bool false]) w := by kernel_rfl
theorem ta_53_3 (v : Value) (w : World) : (Instr.typeAssert (.iface 53 v) 20 3 true).run Tryz.prog w = .ok (.tuple #[.int .i64 0, .bool false]) w := by kernel_rfl
theorem ta_22_3 (v : Value) (w : World) : (Instr.typeAssert (.iface 22 v) 20 3 true).run Tryz.prog w = .ok (.tuple #[.int .i64 0, .bool false]) w := by kernel_rfl
theorem ta_12_3 (v : Value) (w : World) : (Instr.typeAssert (.iface 12 v) 20 3 true).run Tryz.prog w = .ok (.tuple #[.int .i64 0, .bool false]) w := by kernel_rfl
theorem ta_149_3 (v : Value) (w : World) : (Instr.typeAssert (.iface 149 v) 20 3 true).run Tryz.prog w = .ok (.tuple #[.int .i64 0, .bool false]) w := by kernel_rfl
theorem ta_151_3 (v : Value) (w : World) : (Instr.typeAssert (.iface 151 v) 20 3 true).run Tryz.prog w = .ok (.tuple #[.int .i64 0, .bool false]) w := by kernel_rfl
theorem ta_9_3 (v : Value) (w : World) : (Instr.typeAssert (.iface 9 v) 20 3 true).run Tryz.prog w = .ok (.tuple #[.int .i64 0, .bool false]) w := by kernel_rfl
theorem ta_26_3 (v : Value) (w : World) : (Instr.typeAssert (.iface 26 v) 20 3 true).run Tryz.prog w = .ok (.tuple #[.int .i64 0, .bool false]) w := by kernel_rfl
theorem ta_164_3 (v : Value) (w : World) : (Instr.typeAssert (.iface 164 v) 20 3 true).run Tryz.prog w = .ok (.tuple #[.int .i64 0, .bool false]) w := by kernel_rfl
theorem ta_165_3 (v : Value) (w : World) : (Instr.typeAssert (.iface 165 v) 20 3 true).run Tryz.prog w = .ok (.tuple #[.int .i64 0, .bool false]) w := by kernel_rfl
theorem ta_n_83 (w : World) : (Instr.typeAssert .nilIface 20 83 true).run Tryz.prog w = .ok (.tuple #[.int .i8 0, .bool false]) w := by kernel_rfl
theorem ta_4_83 (v : Value) (w : World) : (Instr.typeAssert (.iface 4 v) 20 83 true).run Tryz.prog w = .ok (.tuple #[.int .i8 0, .bool false]) w := by kernel_rfl
theorem ta_3_83 (v : Value) (w : World) : (Instr.typeAssert (.iface 3 v) 20 83 true).run Tryz.prog w = .ok (.tuple #[.int .i8 0, .bool false]) w := by kernel_rfl
theorem ta_83_83 (v : Value) (w : World) : (Instr.typeAssert (.iface 83 v) 20 83 true).run Tryz.prog w = .ok (.tuple #[v, .bool true]) w := by kernel_rfl
theorem ta_84_83 (v : Value) (w : World) : (Instr.typeAssert (.iface 84 v) 20 83 true).run Tryz.prog w = .ok (.tuple #[.int .i8 0, .bool false]) w := by kernel_rfl
theorem ta_21_83 (v : Value) (w : World) : (Instr.typeAssert (.iface 21 v) 20 83 true).run Tryz.prog w = .ok (.tuple #[.int .i8 0, .bool false]) w := by kernel_rfl
theorem ta_2_83 (v : Value) (w : World) : (Instr.typeAssert (.iface 2 v) 20 83 true).run Tryz.prog w = .ok (.tuple #[.int .i8 0, .bool false]) w := by kernel_rfl
theorem ta_88_83 (v : Value) (w : World) : (Instr.typeAssert (.iface 88 v) 20 83 true).run Tryz.prog w = .ok (.tuple #[.int .i8 0, .bool false]) w := by kernel_rfl
theorem ta_5_83 (v : Value) (w : World) : (Instr.typeAssert (.iface 5 v) 20 83 true).run Tryz.prog w = .ok (.tuple #[.int .i8 0, .bool false]) w := by kernel_rfl
theorem ta_156_83 (v : Value) (w : World) : (Instr.typeAssert (.iface 156 v) 20 83 true).run Tryz.prog w = .ok (.tuple #[.int .i8 0, .bool false]) w := by kernel_rfl
theorem ta_53_83 (v : Value) (w : World) : (Instr.typeAssert (.iface 53 v) 20 83 true).run Tryz.prog w = .ok (.tuple #[.int .i8 0, .bool false]) w := by kernel_rfl
theorem ta_22_83 (v : Value) (w : World) : (Instr.typeAssert (.iface 22 v) 20 83 true).run Tryz.prog w = .ok (.tuple #[.int .i8 0, .bool false]) w := by kernel_rfl
theorem ta_12_83 (v : Value) (w : World) : (Instr.typeAssert (.iface 12 v) 20 83 true).run Tryz.prog w = .ok (.tuple #[.int .i8 0, .bool false]) w := by kernel_rfl
theorem ta_149_83 (v : Value) (w : World) : (Instr.typeAssert (.iface 149 v) 20 83 true).run Tryz.prog w = .ok (.tuple #[.int .i8 0, .bool false]) w := by kernel_rfl
theorem ta_151_83 (v : Value) (w : World) : (Instr.typeAssert (.iface 151 v) 20 83 true).run Tryz.prog w = .ok (.tuple #[.int .i8 0, .bool false]) w := by kernel_rfl
theorem ta_9_83 (v : Value) (w : World) : (Instr.typeAssert (.iface 9 v) 20 83 true).run Tryz.prog w = .ok (.tuple #[.int .i8 0, .bool false]) w := by kernel_rfl
theorem ta_26_83 (v : Value) (w : World) : (Instr.typeAssert (.iface 26 v) 20 83 true).run Tryz.prog w = .ok (.tuple #[.int .i8 0, .bool false]) w := by kernel_rfl
theorem ta_164_83 (v : Value) (w : World) : (Instr.typeAssert (.iface 164 v) 20 83 true).run Tryz.prog w = .ok (.tuple #[.int .i8 0, .bool false]) w := by kernel_rfl
theorem ta_165_83 (v : Value) (w : World) : (Instr.typeAssert (.iface 165 v) 20 83 true).run Tryz.prog w = .ok (.tuple #[.int .i8 0, .bool false]) w := by kernel_rfl
theorem ta_n_84 (w : World) : (Instr.typeAssert .nilIface 20 84 true).run Tryz.prog w = .ok (.tuple #[.int .i16 0, .bool false]) w := by kernel_rfl
theorem ta_4_84 (v : Value) (w : World) : (Instr.typeAssert (.iface 4 v) 20 84 true).run Tryz.prog w = .ok (.tuple #[.int .i16 0, .bool false]) w := by kernel_rfl
theorem ta_3_84 (v : Value) (w : World) : (Instr.typeAssert (.iface 3 v) 20 84 true).run Tryz.prog w = .ok (.tuple #[.int .i16 0, .bool false]) w := by kernel_rfl
theorem ta_83_84 (v : Value) (w : World) : (Instr.typeAssert (.iface 83 v) 20 84 true).run Tryz.prog w = .ok (.tuple #[.int .i16 0, .bool false]) w := by kernel_rfl
theorem ta_84_84 (v : Value) (w : World) : (Instr.typeAssert (.iface 84 v) 20 84 true).run Tryz.prog w = .ok (.tuple #[v, .bool true]) w := by kernel_rfl
theorem ta_21_84 (v : Value) (w : World) : (Instr.typeAssert (.iface 21 v) 20 84 true).run Tryz.prog w = .ok (.tuple #[.int .i16 0, .bool false]) w := by kernel_rfl
theorem ta_2_84 (v : Value) (w : World) : (Instr.typeAssert (.iface 2 v) 20 84 true).run Tryz.prog w = .ok (.tuple #[.int .i16 0, .bool false]) w := by kernel_rfl
theorem ta_88_84 (v : Value) (w : World) : (Instr.typeAssert (.iface 88 v) 20 84 true).run Tryz.prog w = .ok (.tuple #[.int .i16 0, .bool false]) w := by kernel_rfl
theorem ta_5_84 (v : Value) (w : World) : (Instr.typeAssert (.iface 5 v) 20 84 true).run Tryz.prog w = .ok (.tuple #[.int .i16 0, .bool false]) w := by kernel_rfl
theorem ta_156_84 (v : Value) (w : World) : (Instr.typeAssert (.iface 156 v) 20 84 true).run Tryz.prog w = .ok (.tuple #[.int .i16 0, .bool false]) w := by kernel_rfl
theorem ta_53_84 (v : Value) (w : World) : (Instr.typeAssert (.iface 53 v) 20 84 true).run Tryz.prog w = .ok (.tuple #[.int .i16 0, .bool false]) w := by kernel_rfl
theorem ta_22_84 (v : Value) (w : World) : (Instr.typeAssert (.iface 22 v) 20 84 true).run Tryz.prog w = .ok (.tuple #[.int .i16 0, .bool false]) w := by kernel_rfl
theorem ta_12_84 (v : Value) (w : World) : (Instr.typeAssert (.iface 12 v) 20 84 true).run Tryz.prog w = .ok (.tuple #[.int .i16 0, .bool false]) w := by kernel_rfl
theorem ta_149_84 (v : Value) (w : World) : (Instr.typeAssert (.iface 149 v) 20 84 true).run Tryz.prog w = .ok (.tuple #[.int .i16 0, .bool false]) w := by kernel_rfl
theorem ta_151_84 (v : Value) (w : World) : (Instr.typeAssert (.iface 151 v) 20 84 true).run Tryz.prog w = .ok (.tuple #[.int .i16 0, .bool false]) w := by kernel_rfl
theorem ta_9_84 (v : Value) (w : World) : (Instr.typeAssert (.iface 9 v) 20 84 true).run Tryz.prog w = .ok (.tuple #[.int .i16 0, .bool false]) w := by kernel_rfl
theorem ta_26_84 (v : Value) (w : World) : (Instr.typeAssert (.iface 26 v) 20 84 true).run Tryz.prog w = .ok (.tuple #[.int .i16 0, .bool false]) w := by kernel_rfl
theorem ta_164_84 (v : Value) (w : World) : (Instr.typeAssert (.iface 164 v) 20 84 true).run Tryz.prog w = .ok (.tuple #[.int .i16 0, .bool false]) w := by kernel_rfl
theorem ta_165_84 (v : Value) (w : World) : (Instr.typeAssert (.iface 165 v) 20 84 true).run Tryz.prog w = .ok (.tuple #[.int .i16 0, .bool false]) w := by kernel_rfl
theorem ta_n_21 (w : World) : (Instr.typeAssert .nilIface 20 21 true).run Tryz.prog w = .ok (.tuple #[.int .i32 0, .bool false]) w := by kernel_rfl
theorem ta_4_21 (v : Value) (w : World) : (Instr.typeAssert (.iface 4 v) 20 21 true).run Tryz.prog w = .ok (.tuple #[.int .i32 0, .bool false]) w := by kernel_rfl
theorem ta_3_21 (v : Value) (w : World) : (Instr.typeAssert (.iface 3 v) 20 21 true).run Tryz.prog w = .ok (.tuple #[.int .i32 0, .bool false]) w := by kernel_rfl
theorem ta_83_21 (v : Value) (w : World) : (Instr.typeAssert (.iface 83 v) 20 21 true).run Tryz.prog w = .ok (.tuple #[.int .i32 0, .bool false]) w := by kernel_rfl
theorem ta_84_21 (v : Value) (w : World) : (Instr.typeAssert (.iface 84 v) 20 21 true).run Tryz.prog w = .ok (.tuple #[.int .i32 0, .bool false]) w := by kernel_rfl
theorem ta_21_21 (v : Value) (w : World) : (Instr.typeAssert (.iface 21 v) 20 21 true).run Tryz.prog w = .ok (.tuple #[v, .bool true]) w := by kernel_rfl
theorem ta_2_21 (v : Value) (w : World) : (Instr.typeAssert (.iface 2 v) 20 21 true).run Tryz.prog w = .ok (.tuple #[.int .i32 0, .bool false]) w := by kernel_rfl
theorem ta_88_21 (v : Value) (w : World) : (Instr.typeAssert (.iface 88 v) 20 21 true).run Tryz.prog w = .ok (.tuple #[.int .i32 0, .bool false]) w := by kernel_rfl
theorem ta_5_21 (v : Value) (w : World) : (Instr.typeAssert (.iface 5 v) 20 21 true).run Tryz.prog w = .ok (.tuple #[.int .i32 0, .bool false]) w := by kernel_rfl
theorem ta_156_21 (v : Value) (w : World) : (Instr.typeAssert (.iface 156 v) 20 21 true).run Tryz.prog w = .ok (.tuple #[.int .i32 0, .bool false]) w := by kernel_rfl
theorem ta_53_21 (v : Value) (w : World) : (Instr.typeAssert (.iface 53 v) 20 21 true).run Tryz.prog w = .ok (.tuple #[.int .i32 0, .bool false]) w := by kernel_rfl
theorem ta_22_21 (v : Value) (w : World) : (Instr.typeAssert (.iface 22 v) 20 21 true).run Tryz.prog w = .ok (.tuple #[.int .i32 0, .bool false]) w := by kernel_rfl
theorem ta_12_21 (v : Value) (w : World) : (Instr.typeAssert (.iface 12 v) 20 21 true).run Tryz.prog w = .ok (.tuple #[.int .i32 0, .bool false]) w := by kernel_rfl
theorem ta_149_21 (v : Value) (w : World) : (Instr.typeAssert (.iface 149 v) 20 21 true).run Tryz.prog w = .ok (.tuple #[.int .i32 0, .bool false]) w := by kernel_rfl
theorem ta_151_21 (v : Value) (w : World) : (Instr.typeAssert (.iface 151 v) 20 21 true).run Tryz.prog w = .ok (.tuple #[.int .i32 0, .bool false]) w := by kernel_rfl
theorem ta_9_21 (v : Value) (w : World) : (Instr.typeAssert (.iface 9 v) 20 21 true).run Tryz.prog w = .ok (.tuple #[.int .i32 0, .bool false]) w := by kernel_rfl
theorem ta_26_21 (v : Value) (w : World) : (Instr.typeAssert (.iface 26 v) 20 21 true).run Tryz.prog w = .ok (.tuple #[.int .i32 0, .bool false]) w := by kernel_rfl
theorem ta_164_21 (v : Value) (w : World) : (Instr.typeAssert (.iface 164 v) 20 21 true).run Tryz.prog w = .ok (.tuple #[.int .i32 0, .bool false]) w := by kernel_rfl
theorem ta_165_21 (v : Value) (w : World) : (Instr.typeAssert (.iface 165 v) 20 21 true).run Tryz.prog w = .ok (.tuple #[.int .i32 0, .bool false]) w := by kernel_rfl
theorem ta_n_2 (w : World) : (Instr.typeAssert .nilIface 20 2 true).run Tryz.prog w = .ok (.tuple #[.int .i64 0, .bool false]) w := by kernel_rfl
theorem ta_4_2 (v : Value) (w : World) : (Instr.typeAssert (.iface 4 v) 20 2 true).run Tryz.prog w = .ok (.tuple #[.int .i64 0, .bool false]) w := by kernel_rfl
theorem ta_3_2 (v : Value) (w : World) : (Instr.typeAssert (.iface 3 v) 20 2 true).run Tryz.prog w = .ok (.tuple #[.int .i64 0, .bool false]) w := by kernel_rfl
theorem ta_83_2 (v : Value) (w : World) : (Instr.typeAssert (.iface 83 v) 20 2 true).run Tryz.prog w = .ok (.tuple #[.int .i64 0, .bool false]) w := by kernel_rfl
theorem ta_84_2 (v : Value) (w : World) : (Instr.typeAssert (.iface 84 v) 20 2 true).run Tryz.prog w = .ok (.tuple #[.int .i64 0, .bool false]) w := by kernel_rfl
theorem ta_21_2 (v : Value) (w : World) : (Instr.typeAssert (.iface 21 v) 20 2 true).run Tryz.prog w = .ok (.tuple #[.int .i64 0, .bool false]) w := by kernel_rfl
theorem ta_2_2 (v : Value) (w : World) : (Instr.typeAssert (.iface 2 v) 20 2 true).run Tryz.prog w = .ok (.tuple #[v, .bool true]) w := by kernel_rfl
theorem ta_88_2 (v : Value) (w : World) : (Instr.typeAssert (.iface 88 v) 20 2 true).run Tryz.prog w = .ok (.tuple #[.int .i64 0, .bool false]) w := by kernel_rfl
theorem ta_5_2 (v : Value) (w : World) : (Instr.typeAssert (.iface 5 v) 20 2 true).run Tryz.prog w = .ok (.tuple #[.int .i64 0, .bool false]) w := by kernel_rfl
theorem ta_156_2 (v : Value) (w : World) : (Instr.typeAssert (.iface 156 v) 20 2 true).run Tryz.prog w = .ok (.tuple #[.int .i64 0, .bool false]) w := by kernel_rfl
theorem ta_53_2 (v : Value) (w : World) : (Instr.typeAssert (.iface 53 v) 20 2 true).run Tryz.prog w = .ok (.tuple #[.int .i64 0, .bool false]) w := by kernel_rfl
theorem ta_22_2 (v : Value) (w : World) : (Instr.typeAssert (.iface 22 v) 20 2 true).run Tryz.prog w = .ok (.tuple #[.int .i64 0, .bool false]) w := by kernel_rfl
theorem ta_12_2 (v : Value) (w : World) : (Instr.typeAssert (.iface 12 v) 20 2 true).run Tryz.prog w = .ok (.tuple #[.int .i64 0, .bool false]) w := by kernel_rfl
theorem ta_149_2 (v : Value) (w : World) : (Instr.typeAssert (.iface 149 v) 20 2 true).run Tryz.prog w = .ok (.tuple #[.int .i64 0, .bool false]) w := by kernel_rfl
theorem ta_151_2 (v : Value) (w : World) : (Instr.typeAssert (.iface 151 v) 20 2 true).run Tryz.prog w = .ok (.tuple #[.int .i64 0, .bool false]) w := by kernel_rfl
theorem ta_9_2 (v : Value) (w : World) : (Instr.typeAssert (.iface 9 v) 20 2 true).run Tryz.prog w = .ok (.tuple #[.int .i64 0, .bool false]) w := by kernel_rfl
theorem ta_26_2 (v : Value) (w : World) : (Instr.typeAssert (.iface 26 v) 20 2 true).run Tryz.prog w = .ok (.tuple #[.int .i64 0, .bool false]) w := by kernel_rfl
theorem ta_164_2 (v : Value) (w : World) : (Instr.typeAssert (.iface 164 v) 20 2 true).run Tryz.prog w = .ok (.tuple #[.int .i64 0, .bool false]) w := by kernel_rfl
theorem ta_165_2 (v : Value) (w : World) : (Instr.typeAssert (.iface 165 v) 20 2 true).run Tryz.prog w = .ok (.tuple #[.int .i64 0, .bool false]) w := by kernel_rfl
theorem ta_n_88 (w : World) : (Instr.typeAssert .nilIface 20 88 true).run Tryz.prog w = .ok (.tuple #[.int .u64 0, .bool false]) w := by kernel_rfl
theorem ta_4_88 (v : Value) (w : World) : (Instr.typeAssert (.iface 4 v) 20 88 true).run Tryz.prog w = .ok (.tuple #[.int .u64 0, .bool false]) w := by kernel_rfl
theorem ta_3_88 (v : Value) (w : World) : (Instr.typeAssert (.iface 3 v) 20 88 true).run Tryz.prog w = .ok (.tuple #[.int .u64 0, .bool false]) w := by kernel_rfl
theorem ta_83_88 (v : Value) (w : World) : (Instr.typeAssert (.iface 83 v) 20 88 true).run Tryz.prog w = .ok (.tuple #[.int .u64 0, .bool false]) w := by kernel_rfl
theorem ta_84_88 (v : Value) (w : World) : (Instr.typeAssert (.iface 84 v) 20 88 true).run Tryz.prog w = .ok (.tuple #[.int .u64 0, .bool false]) w := by kernel_rfl
theorem ta_21_88 (v : Value) (w : World) : (Instr.typeAssert (.iface 21 v) 20 88 true).run Tryz.prog w = .ok (.tuple #[.int .u64 0, .bool false]) w := by kernel_rfl
theorem ta_2_88 (v : Value) (w : World) : (Instr.typeAssert (.iface 2 v) 20 88 true).run Tryz.prog w = .ok (.tuple #[.int .u64 0, .bool false]) w := by kernel_rfl
theorem ta_88_88 (v : Value) (w : World) : (Instr.typeAssert (.iface 88 v) 20 88 true).run Tryz.prog w = .ok (.tuple #[v, .bool true]) w := by kernel_rfl
theorem ta_5_88 (v : Value) (w : World) : (Instr.typeAssert (.iface 5 v) 20 88 true).run Tryz.prog w = .ok (.tuple #[.int .u64 0, .bool false]) w := by kernel_rfl
theorem ta_156_88 (v : Value) (w : World) : (Instr.typeAssert (.iface 156 v) 20 88 true).run Tryz.prog w = .ok (.tuple #[.int .u64 0, .bool false]) w := by kernel_rfl
theorem ta_53_88 (v : Value) (w : World) : (Instr.typeAssert (.iface 53 v) 20 88 true).run Tryz.prog w = .ok (.tuple #[.int .u64 0, .bool false]) w := by kernel_rfl
theorem ta_22_88 (v : Value) (w : World) : (Instr.typeAssert (.iface 22 v) 20 88 true).run Tryz.prog w = .ok (.tuple #[.int .u64 0, .bool false]) w := by kernel_rfl
theorem ta_12_88 (v : Value) (w : World) : (Instr.typeAssert (.iface 12 v) 20 88 true).run Tryz.prog w = .ok (.tuple #[.int .u64 0, .bool false]) w := by kernel_rfl
theorem ta_149_88 (v : Value) (w : World) : (Instr.typeAssert (.iface 149 v) 20 88 true).run Tryz.prog w = .ok (.tuple #[.int .u64 0, .bool false]) w := by kernel_rfl
theorem ta_151_88 (v : Value) (w : World) : (Instr.typeAssert (.iface 151 v) 20 88 true).run Tryz.prog w = .ok (.tuple #[.int .u64 0, .bool false]) w := by kernel_rfl
theorem ta_9_88 (v : Value) (w : World) : (Instr.typeAssert (.iface 9 v) 20 88 true).run Tryz.prog w = .ok (.tuple #[.int .u64 0, .bool false]) w := by kernel_rfl
theorem ta_26_88 (v : Value) (w : World) : (Instr.typeAssert (.iface 26 v) 20 88 true).run Tryz.prog w = .ok (.tuple #[.int .u64 0, .bool false]) w := by kernel_rfl
theorem ta_164_88 (v : Value) (w : World) : (Instr.typeAssert (.iface 164 v) 20 88 true).run Tryz.prog w = .ok (.tuple #[.int .u64 0, .bool false]) w := by kernel_rfl
theorem ta_165_88 (v : Value) (w : World) : (Instr.typeAssert (.iface 165 v) 20 88 true).run Tryz.prog w = .ok (.tuple #[.int .u64 0, .bool false]) w := by kernel_rfl
theorem ta_n_5 (w : World) : (Instr.typeAssert .nilIface 20 5 true).run Tryz.prog w = .ok (.tuple #[.int .u8 0, .bool false]) w := by kernel_rfl
theorem ta_4_5 (v : Value) (w : World) : (Instr.typeAssert (.iface 4 v) 20 5 true).run Tryz.prog w = .ok (.tuple #[.int .u8 0, .bool false]) w := by kernel_rfl
theorem ta_3_5 (v : Value) (w : World) : (Instr.typeAssert (.iface 3 v) 20 5 true).run Tryz.prog w = .ok (.tuple #[.int .u8 0, .bool false]) w := by kernel_rfl
theorem ta_83_5 (v : Value) (w : World) : (Instr.typeAssert (.iface 83 v) 20 5 true).run Tryz.prog w = .ok (.tuple #[.int .u8 0, .bool false]) w := by kernel_rfl
theorem ta_84_5 (v : Value) (w : World) : (Instr.typeAssert (.iface 84 v) 20 5 true).run Tryz.prog w = .ok (.tuple #[.int .u8 0, .bool false]) w := by kernel_rfl
theorem ta_21_5 (v : Value) (w : World) : (Instr.typeAssert (.iface 21 v) 20 5 true).run Tryz.prog w = .ok (.tuple #[.int .u8 0, .bool false]) w := by kernel_rfl
theorem ta_2_5 (v : Value) (w : World) : (Instr.typeAssert (.iface 2 v) 20 5 true).run Tryz.prog w = .ok (.tuple #[.int .u8 0, .bool false]) w := by kernel_rfl
theorem ta_88_5 (v : Value) (w : World) : (Instr.typeAssert (.iface 88 v) 20 5 true).run Tryz.prog w = .ok (.tuple #[.int .u8 0, .bool false]) w := by kernel_rfl
theorem ta_5_5 (v : Value) (w : World) : (Instr.typeAssert (.iface 5 v) 20 5 true).run Tryz.prog w = .ok (.tuple #[v, .bool true]) w := by kernel_rfl
theorem ta_156_5 (v : Value) (w : World) : (Instr.typeAssert (.iface 156 v) 20 5 true).run Tryz.prog w = .ok (.tuple #[.int .u8 0, .bool false]) w := by kernel_rfl
theorem ta_53_5 (v : Value) (w : World) : (Instr.typeAssert (.iface 53 v) 20 5 true).run Tryz.prog w = .ok (.tuple #[.int .u8 0, .bool false]) w := by kernel_rfl
theorem ta_22_5 (v : Value) (w : World) : (Instr.typeAssert (.iface 22 v) 20 5 true).run Tryz.prog w = .ok (.tuple #[.int .u8 0, .bool false]) w := by kernel_rfl
theorem ta_12_5 (v : Value) (w : World) : (Instr.typeAssert (.iface 12 v) 20 5 true).run Tryz.prog w = .ok (.tuple #[.int .u8 0, .bool false]) w := by kernel_rfl
theorem ta_149_5 (v : Value) (w : World) : (Instr.typeAssert (.iface 149 v) 20 5 true).run Tryz.prog w = .ok (.tuple #[.int .u8 0, .bool false]) w := by kernel_rfl
theorem ta_151_5 (v : Value) (w : World) : (Instr.typeAssert (.iface 151 v) 20 5 true).run Tryz.prog w = .ok (.tuple #[.int .u8 0, .bool false]) w := by kernel_rfl
theorem ta_9_5 (v : Value) (w : World) : (Instr.typeAssert (.iface 9 v) 20 5 true).run Tryz.prog w = .ok (.tuple #[.int .u8 0, .bool false]) w := by kernel_rfl
theorem ta_26_5 (v : Value) (w : World) : (Instr.typeAssert (.iface 26 v) 20 5 true).run Tryz.prog w = .ok (.tuple #[.int .u8 0, .bool false]) w := by kernel_rfl
theorem ta_164_5 (v : Value) (w : World) : (Instr.typeAssert (.iface 164 v) 20 5 true).run Tryz.prog w = .ok (.tuple #[.int .u8 0, .bool false]) w := by kernel_rfl
theorem ta_165_5 (v : Value) (w : World) : (Instr.typeAssert (.iface 165 v) 20 5 true).run Tryz.prog w = .ok (.tuple #[.int .u8 0, .bool false]) w := by kernel_rfl
theorem ta_n_156 (w : World) : (Instr.typeAssert .nilIface 20 156 true).run Tryz.prog w = .ok (.tuple #[.int .u16 0, .bool false]) w := by kernel_rfl
theorem ta_4_156 (v : Value) (w : World) : (Instr.typeAssert (.iface 4 v) 20 156 true).run Tryz.prog w = .ok (.tuple #[.int .u16 0, .bool false]) w := by kernel_rfl
theorem ta_3_156 (v : Value) (w : World) : (Instr.typeAssert (.iface 3 v) 20 156 true).run Tryz.prog w = .ok (.tuple #[.int .u16 0, .bool false]) w := by kernel_rfl
theorem ta_83_156 (v : Value) (w : World) : (Instr.typeAssert (.iface 83 v) 20 156 true).run Tryz.prog w = .ok (.tuple #[.int .u16 0, .bool false]) w := by kernel_rfl
theorem ta_84_156 (v : Value) (w : World) : (Instr.typeAssert (.iface 84 v) 20 156 true).run Tryz.prog w = .ok (.tuple #[.int .u16 0, .bool false]) w := by kernel_rfl
theorem ta_21_156 (v : Value) (w : World) : (Instr.typeAssert (.iface 21 v) 20 156 true).run Tryz.prog w = .ok (.tuple #[.int .u16 0, .bool false]) w := by kernel_rfl
theorem ta_2_156 (v : Value) (w : World) : (Instr.typeAssert (.iface 2 v) 20 156 true).run Tryz.prog w = .ok (.tuple #[.int .u16 0, .bool false]) w := by kernel_rfl
theorem ta_88_156 (v : Value) (w : World) : (Instr.typeAssert (.iface 88 v) 20 156 true).run Tryz.prog w = .ok (.tuple #[.int .u16 0, .bool false]) w := by kernel_rfl
theorem ta_5_156 (v : Value) (w : World) : (Instr.typeAssert (.iface 5 v) 20 156 true).run Tryz.prog w = .ok (.tuple #[.int .u16 0, .bool false]) w := by kernel_rfl
theorem ta_156_156 (v : Value) (w : World) : (Instr.typeAssert (.iface 156 v) 20 156 true).run Tryz.prog w = .ok (.tuple #[v, .bool true]) w := by kernel_rfl
theorem ta_53_156 (v : Value) (w : World) : (Instr.typeAssert (.iface 53 v) 20 156 true).run Tryz.prog w = .ok (.tuple #[.int .u16 0, .bool false]) w := by kernel_rfl
theorem ta_22_156 (v : Value) (w : World) : (Instr.typeAssert (.iface 22 v) 20 156 true).run Tryz.prog w = .ok (.tuple #[.int .u16 0, .bool false]) w := by kernel_rfl
theorem ta_12_156 (v : Value) (w : World) : (Instr.typeAssert (.iface 12 v) 20 156 true).run Tryz.prog w = .ok (.tuple #[.int .u16 0, .bool false]) w := by kernel_rfl
theorem ta_149_156 (v : Value) (w : World) : (Instr.typeAssert (.iface 149 v) 20 156 true).run Tryz.prog w = .ok (.tuple #[.int .u16 0, .bool false]) w := by kernel_rfl
theorem ta_151_156 (v : Value) (w : World) : (Instr.typeAssert (.iface 151 v) 20 156 true).run Tryz.prog w = .ok (.tuple #[.int .u16 0, .bool false]) w := by kernel_rfl
theorem ta_9_156 (v : Value) (w : World) : (Instr.typeAssert (.iface 9 v) 20 156 true).run Tryz.prog w = .ok (.tuple #[.int .u16 0, .bool false]) w := by kernel_rfl
theorem ta_26_156 (v : Value) (w : World) : (Instr.typeAssert (.iface 26 v) 20 156 true).run Tryz.prog w = .ok (.tuple #[.int .u16 0, .bool false]) w := by kernel_rfl
theorem ta_164_156 (v : Value) (w : World) : (Instr.typeAssert (.iface 164 v) 20 156 true).run Tryz.prog w = .ok (.tuple #[.int .u16 0, .bool false]) w := by kernel_rfl
theorem ta_165_156 (v : Value) (w : World) : (Instr.typeAssert (.iface 165 v) 20 156 true).run Tryz.prog w = .ok (.tuple #[.int .u16 0, .bool false]) w := by kernel_rfl
theorem ta_n_53 (w : World) : (Instr.typeAssert .nilIface 20 53 true).run Tryz.prog w = .ok (.tuple #[.int .u32 0, .bool false]) w := by kernel_rfl
theorem ta_4_53 (v : Value) (w : World) : (Instr.typeAssert (.iface 4 v) 20 53 true).run Tryz.prog w = .ok (.tuple #[.int .u32 0, .bool false]) w := by kernel_rfl
theorem ta_3_53 (v : Value) (w : World) : (Instr.typeAssert (.iface 3 v) 20 53 true).run Tryz.prog w = .ok (.tuple #[.int .u32 0, .bool false]) w := by kernel_rfl
theorem ta_83_53 (v : Value) (w : World) : (Instr.typeAssert (.iface 83 v) 20 53 true).run Tryz.prog w = .ok (.tuple #[.int .u32 0, .bool false]) w := by kernel_rfl
theorem ta_84_53 (v : Value) (w : World) : (Instr.typeAssert (.iface 84 v) 20 53 true).run Tryz.prog w = .ok (.tuple #[.int .u32 0, .bool false]) w := by kernel_rfl
theorem ta_21_53 (v : Value) (w : World) : (Instr.typeAssert (.iface 21 v) 20 53 true).run Tryz.prog w = .ok (.tuple #[.int .u32 0, .bool false]) w := by kernel_rfl
theorem ta_2_53 (v : Value) (w : World) : (Instr.typeAssert (.iface 2 v) 20 53 true).run Tryz.prog w = .ok (.tuple #[.int .u32 0, .bool false]) w := by kernel_rfl
theorem ta_88_53 (v : Value) (w : World) : (Instr.typeAssert (.iface 88 v) 20 53 true).run Tryz.prog w = .ok (.tuple #[.int .u32 0, .bool false]) w := by kernel_rfl
theorem ta_5_53 (v : Value) (w : World) : (Instr.typeAssert (.iface 5 v) 20 53 true).run Tryz.prog w = .ok (.tuple #[.int .u32 0, .bool false]) w := by kernel_rfl
theorem ta_156_53 (v : Value) (w : World) : (Instr.typeAssert (.iface 156 v) 20 53 true).run Tryz.prog w = .ok (.tuple #[.int .u32 0, .bool false]) w := by kernel_rfl
theorem ta_53_53 (v : Value) (w : World) : (Instr.typeAssert (.iface 53 v) 20 53 true).run Tryz.prog w = .ok (.tuple #[v, .bool true]) w := by kernel_rfl
theorem ta_22_53 (v : Value) (w : World) : (Instr.typeAssert (.iface 22 v) 20 53 true).run Tryz.prog w = .ok (.tuple #[.int .u32 0, .bool false]) w := by kernel_rfl
theorem ta_12_53 (v : Value) (w : World) : (Instr.typeAssert (.iface 12 v) 20 53 true).run Tryz.prog w = .ok (.tuple #[.int .u32 0, .bool false]) w := by kernel_rfl
theorem ta_149_53 (v : Value) (w : World) : (Instr.typeAssert (.iface 149 v) 20 53 true).run Tryz.prog w = .ok (.tuple #[.int .u32 0, .bool false]) w := by kernel_rfl
theorem ta_151_53 (v : Value) (w : World) : (Instr.typeAssert (.iface 151 v) 20 53 true).run Tryz.prog w = .ok (.tuple #[.int .u32 0, .bool false]) w := by kernel_rfl
theorem ta_9_53 (v : Value) (w : World) : (Instr.typeAssert (.iface 9 v) 20 53 true).run Tryz.prog w = .ok (.tuple #[.int .u32 0, .bool false]) w := by kernel_rfl
theorem ta_26_53 (v : Value) (w : World) : (Instr.typeAssert (.iface 26 v) 20 53 true).run Tryz.prog w = .ok (.tuple #[.int .u32 0, .bool false]) w := by kernel_rfl
theorem ta_164_53 (v : Value) (w : World) : (Instr.typeAssert (.iface 164 v) 20 53 true).run Tryz.prog w = .ok (.tuple #[.int .u32 0, .bool false]) w := by kernel_rfl
theorem ta_165_53 (v : Value) (w : World) : (Instr.typeAssert (.iface 165 v) 20 53 true).run Tryz.prog w = .ok (.tuple #[.int .u32 0, .bool false]) w := by kernel_rfl
theorem ta_n_22 (w : World) : (Instr.typeAssert .nilIface 20 22 true).run Tryz.prog w = .ok (.tuple #[.int .u64 0, .bool false]) w := by kernel_rfl
theorem ta_4_22 (v : Value) (w : World) : (Instr.typeAssert (.iface 4 v) 20 22 true).run Tryz.prog w = .ok (.tuple #[.int .u64 0, .bool false]) w := by kernel_rfl
theorem ta_3_22 (v : Value) (w : World) : (Instr.typeAssert (.iface 3 v) 20 22 true).run Tryz.prog w = .ok (.tuple #[.int .u64 0, .bool false]) w := by kernel_rfl
theorem ta_83_22 (v : Value) (w : World) : (Instr.typeAssert (.iface 83 v) 20 22 true).run Tryz.prog w = .ok (.tuple #[.int .u64 0, .bool false]) w := by kernel_rfl
theorem ta_84_22 (v : Value) (w : World) : (Instr.typeAssert (.iface 84 v) 20 22 true).run Tryz.prog w = .ok (.tuple #[.int .u64 0, .bool false]) w := by kernel_rfl
theorem ta_21_22 (v : Value) (w : World) : (Instr.typeAssert (.iface 21 v) 20 22 true).run Tryz.prog w = .ok (.tuple #[.int .u64 0, .bool false]) w := by kernel_rfl
theorem ta_2_22 (v : Value) (w : World) : (Instr.typeAssert (.iface 2 v) 20 22 true).run Tryz.prog w = .ok (.tuple #[.int .u64 0, .bool false]) w := by kernel_rfl
theorem ta_88_22 (v : Value) (w : World) : (Instr.typeAssert (.iface 88 v) 20 22 true).run Tryz.prog w = .ok (.tuple #[.int .u64 0, .bool false]) w := by kernel_rfl
theorem ta_5_22 (v : Value) (w : World) : (Instr.typeAssert (.iface 5 v) 20 22 true).run Tryz.prog w = .ok (.tuple #[.int .u64 0, .bool false]) w := by kernel_rfl
theorem ta_156_22 (v : Value) (w : World) : (Instr.typeAssert (.iface 156 v) 20 22 true).run Tryz.prog w = .ok (.tuple #[.int .u64 0, .bool false]) w := by kernel_rfl
theorem ta_53_22 (v : Value) (w : World) : (Instr.typeAssert (.iface 53 v) 20 22 true).run Tryz.prog w = .ok (.tuple #[.int .u64 0, .bool false]) w := by kernel_rfl
theorem ta_22_22 (v : Value) (w : World) : (Instr.typeAssert (.iface 22 v) 20 22 true).run Tryz.prog w = .ok (.tuple #[v, .bool true]) w := by kernel_rfl
theorem ta_12_22 (v : Value) (w : World) : (Instr.typeAssert (.iface 12 v) 20 22 true).run Tryz.prog w = .ok (.tuple #[.int .u64 0, .bool false]) w := by kernel_rfl
theorem ta_149_22 (v : Value) (w : World) : (Instr.typeAssert (.iface 149 v) 20 22 true).run Tryz.prog w = .ok (.tuple #[.int .u64 0, .bool false]) w := by kernel_rfl
theorem ta_151_22 (v : Value) (w : World) : (Instr.typeAssert (.iface 151 v) 20 22 true).run Tryz.prog w = .ok (.tuple #[.int .u64 0, .bool false]) w := by kernel_rfl
theorem ta_9_22 (v : Value) (w : World) : (Instr.typeAssert (.iface 9 v) 20 22 true).run Tryz.prog w = .ok (.tuple #[.int .u64 0, .bool false]) w := by kernel_rfl
theorem ta_26_22 (v : Value) (w : World) : (Instr.typeAssert (.iface 26 v) 20 22 true).run Tryz.prog w = .ok (.tuple #[.int .u64 0, .bool false]) w := by kernel_rfl
theorem ta_164_22 (v : Value) (w : World) : (Instr.typeAssert (.iface 164 v) 20 22 true).run Tryz.prog w = .ok (.tuple #[.int .u64 0, .bool false]) w := by kernel_rfl
theorem ta_165_22 (v : Value) (w : World) : (Instr.typeAssert (.iface 165 v) 20 22 true).run Tryz.prog w = .ok (.tuple #[.int .u64 0, .bool false]) w := by kernel_rfl
theorem ta_n_12 (w : World) : (Instr.typeAssert .nilIface 20 12 true).run Tryz.prog w = .ok (.tuple #[.int .u64 0, .bool false]) w := by kernel_rfl
theorem ta_4_12 (v : Value) (w : World) : (Instr.typeAssert (.iface 4 v) 20 12 true).run Tryz.prog w = .ok (.tuple #[.int .u64 0, .bool false]) w := by kernel_rfl
theorem ta_3_12 (v : Value) (w : World) : (Instr.typeAssert (.iface 3 v) 20 12 true).run Tryz.prog w = .ok (.tuple #[.int .u64 0, .bool false]) w := by kernel_rfl
theorem ta_83_12 (v : Value) (w : World) : (Instr.typeAssert (.iface 83 v) 20 12 true).run Tryz.prog w = .ok (.tuple #[.int .u64 0, .bool false]) w := by kernel_rfl
theorem ta_84_12 (v : Value) (w : World) : (Instr.typeAssert (.iface 84 v) 20 12 true).run Tryz.prog w = .ok (.tuple #[.int .u64 0, .bool false]) w := by kernel_rfl
theorem ta_21_12 (v : Value) (w : World) : (Instr.typeAssert (.iface 21 v) 20 12 true).run Tryz.prog w = .ok (.tuple #[.int .u64 0, .bool false]) w := by kernel_rfl
theorem ta_2_12 (v : Value) (w : World) : (Instr.typeAssert (.iface 2 v) 20 12 true).run Tryz.prog w = .ok (.tuple #[.int .u64 0, .bool false]) w := by kernel_rfl
theorem ta_88_12 (v : Value) (w : World) : (Instr.typeAssert (.iface 88 v) 20 12 true).run Tryz.prog w = .ok (.tuple #[.int .u64 0, .bool false]) w := by kernel_rfl
theorem ta_5_12 (v : Value) (w : World) : (Instr.typeAssert (.iface 5 v) 20 12 true).run Tryz.prog w = .ok (.tuple #[.int .u64 0, .bool false]) w := by kernel_rfl
theorem ta_156_12 (v : Value) (w : World) : (Instr.typeAssert (.iface 156 v) 20 12 true).run Tryz.prog w = .ok (.tuple #[.int .u64 0, .bool false]) w := by kernel_rfl
theorem ta_53_12 (v : Value) (w : World) : (Instr.typeAssert (.iface 53 v) 20 12 true).run Tryz.prog w = .ok (.tuple #[.int .u64 0, .bool false]) w := by kernel_rfl
theorem ta_22_12 (v : Value) (w : World) : (Instr.typeAssert (.iface 22 v) 20 12 true).run Tryz.prog w = .ok (.tuple #[.int .u64 0, .bool false]) w := by kernel_rfl
theorem ta_12_12 (v : Value) (w : World) : (Instr.typeAssert (.iface 12 v) 20 12 true).run Tryz.prog w = .ok (.tuple #[v, .bool true]) w := by kernel_rfl
theorem ta_149_12 (v : Value) (w : World) : (Instr.typeAssert (.iface 149 v) 20 12 true).run Tryz.prog w = .ok (.tuple #[.int .u64 0, .bool false]) w := by kernel_rfl
theorem ta_151_12 (v : Value) (w : World) : (Instr.typeAssert (.iface 151 v) 20 12 true).run Tryz.prog w = .ok (.tuple #[.int .u64 0, .bool false]) w := by kernel_rfl
theorem ta_9_12 (v : Value) (w : World) : (Instr.typeAssert (.iface 9 v) 20 12 true).run Tryz.prog w = .ok (.tuple #[.int .u64 0, .bool false]) w := by kernel_rfl
theorem ta_26_12 (v : Value) (w : World) : (Instr.typeAssert (.iface 26 v) 20 12 true).run Tryz.prog w = .ok (.tuple #[.int .u64 0, .bool false]) w := by kernel_rfl
theorem ta_164_12 (v : Value) (w : World) : (Instr.typeAssert (.iface 164 v) 20 12 true).run Tryz.prog w = .ok (.tuple #[.int .u64 0, .bool false]) w := by kernel_rfl
theorem ta_165_12 (v : Value) (w : World) : (Instr.typeAssert (.iface 165 v) 20 12 true).run Tryz.prog w = .ok (.tuple #[.int .u64 0, .bool false]) w := by kernel_rfl
theorem ta_n_149 (w : World) : (Instr.typeAssert .nilIface 20 149 true).run Tryz.prog w = .ok (.tuple #[.float .f32 0, .bool false]) w := by kernel_rfl
theorem ta_4_149 (v : Value) (w : World) : (Instr.typeAssert (.iface 4 v) 20 149 true).run Tryz.prog w = .ok (.tuple #[.float .f32 0, .bool false]) w := by kernel_rfl
theorem ta_3_149 (v : Value) (w : World) : (Instr.typeAssert (.iface 3 v) 20 149 true).run Tryz.prog w = .ok (.tuple #[.float .f32 0, .bool false]) w := by kernel_rfl
theorem ta_83_149 (v : Value) (w : World) : (Instr.typeAssert (.iface 83 v) 20 149 true).run Tryz.prog w = .ok (.tuple #[.float .f32 0, .bool false]) w := by kernel_rfl
theorem ta_84_149 (v : Value) (w : World) : (Instr.typeAssert (.iface 84 v) 20 149 true).run Tryz.prog w = .ok (.tuple #[.float .f32 0, .bool false]) w := by kernel_rfl
theorem ta_21_149 (v : Value) (w : World) : (Instr.typeAssert (.iface 21 v) 20 149 true).run Tryz.prog w = .ok (.tuple #[.float .f32 0, .bool false]) w := by kernel_rfl
theorem ta_2_149 (v : Value) (w : World) : (Instr.typeAssert (.iface 2 v) 20 149 true).run Tryz.prog w = .ok (.tuple #[.float .f32 0, .bool false]) w := by kernel_rfl
theorem ta_88_149 (v : Value) (w : World) : (Instr.typeAssert (.iface 88 v) 20 149 true).run Tryz.prog w = .ok (.tuple #[.float .f32 0, .bool false]) w := by kernel_rfl
theorem ta_5_149 (v : Value) (w : World) : (Instr.typeAssert (.iface 5 v) 20 149 true).run Tryz.prog w = .ok (.tuple #[.float .f32 0, .bool false]) w := by kernel_rfl
theorem ta_156_149 (v : Value) (w : World) : (Instr.typeAssert (.iface 156 v) 20 149 true).run Tryz.prog w = .ok (.tuple #[.float .f32 0, .bool false]) w := by kernel_rfl
theorem ta_53_149 (v : Value) (w : World) : (Instr.typeAssert (.iface 53 v) 20 149 true).run Tryz.prog w = .ok (.tuple #[.float .f32 0, .bool false]) w := by kernel_rfl
theorem ta_22_149 (v : Value) (w : World) : (Instr.typeAssert (.iface 22 v) 20 149 true).run Tryz.prog w = .ok (.tuple #[.float .f32 0, .bool false]) w := by kernel_rfl
theorem ta_12_149 (v : Value) (w : World) : (Instr.typeAssert (.iface 12 v) 20 149 true).run Tryz.prog w = .ok (.tuple #[.float .f32 0, .bool false]) w := by kernel_rfl
theorem ta_149_149 (v : Value) (w : World) : (Instr.typeAssert (.iface 149 v) 20 149 true).run Tryz.prog w = .ok (.tuple #[v, .bool true]) w := by kernel_rfl
theorem ta_151_149 (v : Value) (w : World) : (Instr.typeAssert (.iface 151 v) 20 149 true).run Tryz.prog w = .ok (.tuple #[.float .f32 0, .bool false]) w := by kernel_rfl
theorem ta_9_149 (v : Value) (w : World) : (Instr.typeAssert (.iface 9 v) 20 149 true).run Tryz.prog w = .ok (.tuple #[.float .f32 0, .bool false]) w := by kernel_rfl
theorem ta_26_149 (v : Value) (w : World) : (Instr.typeAssert (.iface 26 v) 20 149 true).run Tryz.prog w = .ok (.tuple #[.float .f32 0, .bool false]) w := by kernel_rfl
theorem ta_164_149 (v : Value) (w : World) : (Instr.typeAssert (.iface 164 v) 20 149 true).run Tryz.prog w = .ok (.tuple #[.float .f32 0, .bool false]) w := by kernel_rfl
theorem ta_165_149 (v : Value) (w : World) : (Instr.typeAssert (.iface 165 v) 20 149 true).run Tryz.prog w = .ok (.tuple #[.float .f32 0, .bool false]) w := by kernel_rfl
theorem ta_n_151 (w : World) : (Instr.typeAssert .nilIface 20 151 true).run Tryz.prog w = .ok (.tuple #[.float .f64 0, .bool false]) w := by kernel_rfl
theorem ta_4_151 (v : Value) (w : World) : (Instr.typeAssert (.iface 4 v) 20 151 true).run Tryz.prog w = .ok (.tuple #[.float .f64 0, .bool false]) w := by kernel_rfl
theorem ta_3_151 (v : Value) (w : World) : (Instr.typeAssert (.iface 3 v) 20 151 true).run Tryz.prog w = .ok (.tuple #[.float .f64 0, .bool false]) w := by kernel_rfl
theorem ta_83_151 (v : Value) (w : World) : (Instr.typeAssert (.iface 83 v) 20 151 true).run Tryz.prog w = .ok (.tuple #[.float .f64 0, .bool false]) w := by kernel_rfl
theorem ta_84_151 (v : Value) (w : World) : (Instr.typeAssert (.iface 84 v) 20 151 true).run Tryz.prog w = .ok (.tuple #[.float .f64 0, .bool false]) w := by kernel_rfl
theorem ta_21_151 (v : Value) (w : World) : (Instr.typeAssert (.iface 21 v) 20 151 true).run Tryz.prog w = .ok (.tuple #[.float .f64 0, .bool false]) w := by kernel_rfl
theorem ta_2_151 (v : Value) (w : World) : (Instr.typeAssert (.iface 2 v) 20 151 true).run Tryz.prog w = .ok (.tuple #[.float .f64 0, .bool false]) w := by kernel_rfl
theorem ta_88_151 (v : Value) (w : World) : (Instr.typeAssert (.iface 88 v) 20 151 true).run Tryz.prog w = .ok (.tuple #[.float .f64 0, .bool false]) w := by kernel_rfl
theorem ta_5_151 (v : Value) (w : World) : (Instr.typeAssert (.iface 5 v) 20 151 true).run Tryz.prog w = .ok (.tuple #[.float .f64 0, .bool false]) w := by kernel_rfl
theorem ta_156_151 (v : Value) (w : World) : (Instr.typeAssert (.iface 156 v) 20 151 true).run Tryz.prog w = .ok (.tuple #[.float .f64 0, .bool false]) w := by kernel_rfl
theorem ta_53_151 (v : Value) (w : World) : (Instr.typeAssert (.iface 53 v) 20 151 true).run Tryz.prog w = .ok (.tuple #[.float .f64 0, .bool false]) w := by kernel_rfl
theorem ta_22_151 (v : Value) (w : World) : (Instr.typeAssert (.iface 22 v) 20 151 true).run Tryz.prog w = .ok (.tuple #[.float .f64 0, .bool false]) w := by kernel_rfl
theorem ta_12_151 (v : Value) (w : World) : (Instr.typeAssert (.iface 12 v) 20 151 true).run Tryz.prog w = .ok (.tuple #[.float .f64 0, .bool false]) w := by kernel_rfl
theorem ta_149_151 (v : Value) (w : World) : (Instr.typeAssert (.iface 149 v) 20 151 true).run Tryz.prog w = .ok (.tuple #[.float .f64 0, .bool false]) w := by kernel_rfl
theorem ta_151_151 (v : Value) (w : World) : (Instr.typeAssert (.iface 151 v) 20 151 true).run Tryz.prog w = .ok (.tuple #[v, .bool true]) w := by kernel_rfl
theorem ta_9_151 (v : Value) (w : World) : (Instr.typeAssert (.iface 9 v) 20 151 true).run Tryz.prog w = .ok (.tuple #[.float .f64 0, .bool false]) w := by kernel_rfl
theorem ta_26_151 (v : Value) (w : World) : (Instr.typeAssert (.iface 26 v) 20 151 true).run Tryz.prog w = .ok (.tuple #[.float .f64 0, .bool false]) w := by kernel_rfl
theorem ta_164_151 (v : Value) (w : World) : (Instr.typeAssert (.iface 164 v) 20 151 true).run Tryz.prog w = .ok (.tuple #[.float .f64 0, .bool false]) w := by kernel_rfl
theorem ta_165_151 (v : Value) (w : World) : (Instr.typeAssert (.iface 165 v) 20 151 true).run Tryz.prog w = .ok (.tuple #[.float .f64 0, .bool false]) w := by kernel_rfl
theorem ta_n_152 (w : World) : (Instr.typeAssert .nilIface 20 152 true).run Tryz.prog w = .ok (.tuple #[.complex .f32 0 0, .bool false]) w := by kernel_rfl
theorem ta_4_152 (v : Value) (w : World) : (Instr.typeAssert (.iface 4 v) 20 152 true).run Tryz.prog w = .ok (.tuple #[.complex .f32 0 0, .bool false]) w := by kernel_rfl
theorem ta_3_152 (v : Value) (w : World) : (Instr.typeAssert (.iface 3 v) 20 152 true).run Tryz.prog w = .ok (.tuple #[.complex .f32 0 0, .bool false]) w := by kernel_rfl
theorem ta_83_152 (v : Value) (w : World) : (Instr.typeAssert (.iface 83 v) 20 152 true).run Tryz.prog w = .ok (.tuple #[.complex .f32 0 0, .bool false]) w := by kernel_rfl
theorem ta_84_152 (v : Value) (w : World) : (Instr.typeAssert (.iface 84 v) 20 152 true).run Tryz.prog w = .ok (.tuple #[.complex .f32 0 0, .bool false]) w := by kernel_rfl
theorem ta_21_152 (v : Value) (w : World) : (Instr.typeAssert (.iface 21 v) 20 152 true).run Tryz.prog w = .ok (.tuple #[.complex .f32 0 0, .bool false]) w := by kernel_rfl
theorem ta_2_152 (v : Value) (w : World) : (Instr.typeAssert (.iface 2 v) 20 152 true).run Tryz.prog w = .ok (.tuple #[.complex .f32 0 0, .bool false]) w := by kernel_rfl
theorem ta_88_152 (v : Value) (w : World) : (Instr.typeAssert (.iface 88 v) 20 152 true).run Tryz.prog w = .ok (.tuple #[.complex .f32 0 0, .bool false]) w := by kernel_rfl
theorem ta_5_152 (v : Value) (w : World) : (Instr.typeAssert (.iface 5 v) 20 152 true).run Tryz.prog w = .ok (.tuple #[.complex .f32 0 0, .bool false]) w := by kernel_rfl
theorem ta_156_152 (v : Value) (w : World) : (Instr.typeAssert (.iface 156 v) 20 152 true).run Tryz.prog w = .ok (.tuple #[.complex .f32 0 0, .bool false]) w := by kernel_rfl
theorem ta_53_152 (v : Value) (w : World) : (Instr.typeAssert (.iface 53 v) 20 152 true).run Tryz.prog w = .ok (.tuple #[.complex .f32 0 0, .bool false]) w := by kernel_rfl
theorem ta_22_152 (v : Value) (w : World) : (Instr.typeAssert (.iface 22 v) 20 152 true).run Tryz.prog w = .ok (.tuple #[.complex .f32 0 0, .bool false]) w := by kernel_rfl
theorem ta_12_152 (v : Value) (w : World) : (Instr.typeAssert (.iface 12 v) 20 152 true).run Tryz.prog w = .ok (.tuple #[.complex .f32 0 0, .bool false]) w := by kernel_rfl
theorem ta_149_152 (v : Value) (w : World) : (Instr.typeAssert (.iface 149 v) 20 152 true).run Tryz.prog w = .ok (.tuple #[.complex .f32 0 0, .bool false]) w := by kernel_rfl
theorem ta_151_152 (v : Value) (w : World) : (Instr.typeAssert (.iface 151 v) 20 152 true).run Tryz.prog w = .ok (.tuple #[.complex .f32 0 0, .bool false]) w := by kernel_rfl
theorem ta_9_152 (v : Value) (w : World) : (Instr.typeAssert (.iface 9 v) 20 152 true).run Tryz.prog w = .ok (.tuple #[.complex .f32 0 0, .bool false]) w := by kernel_rfl
theorem ta_26_152 (v : Value) (w : World) : (Instr.typeAssert (.iface 26 v) 20 152 true).run Tryz.prog w = .ok (.tuple #[.complex .f32 0 0, .bool false]) w := by kernel_rfl
theorem ta_164_152 (v : Value) (w : World) : (Instr.typeAssert (.iface 164 v) 20 152 true).run Tryz.prog w = .ok (.tuple #[.complex .f32 0 0, .bool false]) w := by kernel_rfl
theorem ta_165_152 (v : Value) (w : World) : (Instr.typeAssert (.iface 165 v) 20 152 true).run Tryz.prog w = .ok (.tuple #[.complex .f32 0 0, .bool false]) w := by kernel_rfl
theorem ta_n_154 (w : World) : (Instr.typeAssert .nilIface 20 154 true).run Tryz.prog w = .ok (.tuple #[.complex .f64 0 0, .bool false]) w := by kernel_rfl
theorem ta_4_154 (v : Value) (w : World) : (Instr.typeAssert (.iface 4 v) 20 154 true).run Tryz.prog w = .ok (.tuple #[.complex .f64 0 0, .bool false]) w := by kernel_rfl
theorem ta_3_154 (v : Value) (w : World) : (Instr.typeAssert (.iface 3 v) 20 154 true).run Tryz.prog w = .ok (.tuple #[.complex .f64 0 0, .bool false]) w := by kernel_rfl
theorem ta_83_154 (v : Value) (w : World) : (Instr.typeAssert (.iface 83 v) 20 154 true).run Tryz.prog w = .ok (.tuple #[.complex .f64 0 0, .bool false]) w := by kernel_rfl
theorem ta_84_154 (v : Value) (w : World) : (Instr.typeAssert (.iface 84 v) 20 154 true).run Tryz.prog w = .ok (.tuple #[.complex .f64 0 0, .bool false]) w := by kernel_rfl
theorem ta_21_154 (v : Value) (w : World) : (Instr.typeAssert (.iface 21 v) 20 154 true).run Tryz.prog w = .ok (.tuple #[.complex .f64 0 0, .bool false]) w := by kernel_rfl
theorem ta_2_154 (v : Value) (w : World) : (Instr.typeAssert (.iface 2 v) 20 154 true).run Tryz.prog w = .ok (.tuple #[.complex .f64 0 0, .bool false]) w := by kernel_rfl
theorem ta_88_154 (v : Value) (w : World) : (Instr.typeAssert (.iface 88 v) 20 154 true).run Tryz.prog w = .ok (.tuple #[.complex .f64 0 0, .bool false]) w := by kernel_rfl
theorem ta_5_154 (v : Value) (w : World) : (Instr.typeAssert (.iface 5 v) 20 154 true).run Tryz.prog w = .ok (.tuple #[.complex .f64 0 0, .bool false]) w := by kernel_rfl
theorem ta_156_154 (v : Value) (w : World) : (Instr.typeAssert (.iface 156 v) 20 154 true).run Tryz.prog w = .ok (.tuple #[.complex .f64 0 0, .bool false]) w := by kernel_rfl
theorem ta_53_154 (v : Value) (w : World) : (Instr.typeAssert (.iface 53 v) 20 154 true).run Tryz.prog w = .ok (.tuple #[.complex .f64 0 0, .bool false]) w := by kernel_rfl
theorem ta_22_154 (v : Value) (w : World) : (Instr.typeAssert (.iface 22 v) 20 154 true).run Tryz.prog w = .ok (.tuple #[.complex .f64 0 0, .bool false]) w := by kernel_rfl
theorem ta_12_154 (v : Value) (w : World) : (Instr.typeAssert (.iface 12 v) 20 154 true).run Tryz.prog w = .ok (.tuple #[.complex .f64 0 0, .bool false]) w := by kernel_rfl
theorem ta_149_154 (v : Value) (w : World) : (Instr.typeAssert (.iface 149 v) 20 154 true).run Tryz.prog w = .ok (.tuple #[.complex .f64 0 0, .bool false]) w := by kernel_rfl
theorem ta_151_154 (v : Value) (w : World) : (Instr.typeAssert (.iface 151 v) 20 154 true).run Tryz.prog w = .ok (.tuple #[.complex .f64 0 0, .bool false]) w := by kernel_rfl
theorem ta_9_154 (v : Value) (w : World) : (Instr.typeAssert (.iface 9 v) 20 154 true).run Tryz.prog w = .ok (.tuple #[.complex .f64 0 0, .bool false]) w := by kernel_rfl
theorem ta_26_154 (v : Value) (w : World) : (Instr.typeAssert (.iface 26 v) 20 154 true).run Tryz.prog w = .ok (.tuple #[.complex .f64 0 0, .bool false]) w := by kernel_rfl
theorem ta_164_154 (v : Value) (w : World) : (Instr.typeAssert (.iface 164 v) 20 154 true).run Tryz.prog w = .ok (.tuple #[.complex .f64 0 0, .bool false]) w := by kernel_rfl
theorem ta_165_154 (v : Value) (w : World) : (Instr.typeAssert (.iface 165 v) 20 154 true).run Tryz.prog w = .ok (.tuple #[.complex .f64 0 0, .bool false]) w := by kernel_rfl
theorem ta_n_9 (w : World) : (Instr.typeAssert .nilIface 20 9 true).run Tryz.prog w = .ok (.tuple #[.string ⟨#[]⟩, .bool false]) w := by kernel_rfl
theorem ta_4_9 (v : Value) (w : World) : (Instr.typeAssert (.iface 4 v) 20 9 true).run Tryz.prog w = .ok (.tuple #[.string ⟨#[]⟩, .bool false]) w := by kernel_rfl
theorem ta_3_9 (v : Value) (w : World) : (Instr.typeAssert (.iface 3 v) 20 9 true).run Tryz.prog w = .ok (.tuple #[.string ⟨#[]⟩, .bool false]) w := by kernel_rfl
theorem ta_83_9 (v : Value) (w : World) : (Instr.typeAssert (.iface 83 v) 20 9 true).run Tryz.prog w = .ok (.tuple #[.string ⟨#[]⟩, .bool false]) w := by kernel_rfl
theorem ta_84_9 (v : Value) (w : World) : (Instr.typeAssert (.iface 84 v) 20 9 true).run Tryz.prog w = .ok (.tuple #[.string ⟨#[]⟩, .bool false]) w := by kernel_rfl
theorem ta_21_9 (v : Value) (w : World) : (Instr.typeAssert (.iface 21 v) 20 9 true).run Tryz.prog w = .ok (.tuple #[.string ⟨#[]⟩, .bool false]) w := by kernel_rfl
theorem ta_2_9 (v : Value) (w : World) : (Instr.typeAssert (.iface 2 v) 20 9 true).run Tryz.prog w = .ok (.tuple #[.string ⟨#[]⟩, .bool false]) w := by kernel_rfl
theorem ta_88_9 (v : Value) (w : World) : (Instr.typeAssert (.iface 88 v) 20 9 true).run Tryz.prog w = .ok (.tuple #[.string ⟨#[]⟩, .bool false]) w := by kernel_rfl
theorem ta_5_9 (v : Value) (w : World) : (Instr.typeAssert (.iface 5 v) 20 9 true).run Tryz.prog w = .ok (.tuple #[.string ⟨#[]⟩, .bool false]) w := by kernel_rfl
theorem ta_156_9 (v : Value) (w : World) : (Instr.typeAssert (.iface 156 v) 20 9 true).run Tryz.prog w = .ok (.tuple #[.string ⟨#[]⟩, .bool false]) w := by kernel_rfl
theorem ta_53_9 (v : Value) (w : World) : (Instr.typeAssert (.iface 53 v) 20 9 true).run Tryz.prog w = .ok (.tuple #[.string ⟨#[]⟩, .bool false]) w := by kernel_rfl
theorem ta_22_9 (v : Value) (w : World) : (Instr.typeAssert (.iface 22 v) 20 9 true).run Tryz.prog w = .ok (.tuple #[.string ⟨#[]⟩, .bool false]) w := by kernel_rfl
theorem ta_12_9 (v : Value) (w : World) : (Instr.typeAssert (.iface 12 v) 20 9 true).run Tryz.prog w = .ok (.tuple #[.string ⟨#[]⟩, .bool false]) w := by kernel_rfl
theorem ta_149_9 (v : Value) (w : World) : (Instr.typeAssert (.iface 149 v) 20 9 true).run Tryz.prog w = .ok (.tuple #[.string ⟨#[]⟩, .bool false]) w := by kernel_rfl
theorem ta_151_9 (v : Value) (w : World) : (Instr.typeAssert (.iface 151 v) 20 9 true).run Tryz.prog w = .ok (.tuple #[.string ⟨#[]⟩, .bool false]) w := by kernel_rfl
theorem ta_9_9 (v : Value) (w : World) : (Instr.typeAssert (.iface 9 v) 20 9 true).run Tryz.prog w = .ok (.tuple #[v, .bool true]) w := by kernel_rfl
theorem ta_26_9 (v : Value) (w : World) : (Instr.typeAssert (.iface 26 v) 20 9 true).run Tryz.prog w = .ok (.tuple #[.string ⟨#[]⟩, .bool false]) w := by kernel_rfl
theorem ta_164_9 (v : Value) (w : World) : (Instr.typeAssert (.iface 164 v) 20 9 true).run Tryz.prog w = .ok (.tuple #[.string ⟨#[]⟩, .bool false]) w := by kernel_rfl
theorem ta_165_9 (v : Value) (w : World) : (Instr.typeAssert (.iface 165 v) 20 9 true).run Tryz.prog w = .ok (.tuple #[.string ⟨#[]⟩, .bool false]) w := by kernel_rfl
theorem ta_n_26 (w : World) : (Instr.typeAssert .nilIface 20 26 true).run Tryz.prog w = .ok (.tuple #[.slice none 0 0, .bool false]) w := by kernel_rfl
theorem ta_4_26 (v : Value) (w : World) : (Instr.typeAssert (.iface 4 v) 20 26 true).run Tryz.prog w = .ok (.tuple #[.slice none 0 0, .bool false]) w := by kernel_rfl
theorem ta_3_26 (v : Value) (w : World) : (Instr.typeAssert (.iface 3 v) 20 26 true).run Tryz.prog w = .ok (.tuple #[.slice none 0 0, .bool false]) w := by kernel_rfl
theorem ta_83_26 (v : Value) (w : World) : (Instr.typeAssert (.iface 83 v) 20 26 true).run Tryz.prog w = .ok (.tuple #[.slice none 0 0, .bool false]) w := by kernel_rfl
theorem ta_84_26 (v : Value) (w : World) : (Instr.typeAssert (.iface 84 v) 20 26 true).run Tryz.prog w = .ok (.tuple #[.slice none 0 0, .bool false]) w := by kernel_rfl
theorem ta_21_26 (v : Value) (w : World) : (Instr.typeAssert (.iface 21 v) 20 26 true).run Tryz.prog w = .ok (.tuple #[.slice none 0 0, .bool false]) w := by kernel_rfl
theorem ta_2_26 (v : Value) (w : World) : (Instr.typeAssert (.iface 2 v) 20 26 true).run Tryz.prog w = .ok (.tuple #[.slice none 0 0, .bool false]) w := by kernel_rfl
theorem ta_88_26 (v : Value) (w : World) : (Instr.typeAssert (.iface 88 v) 20 26 true).run Tryz.prog w = .ok (.tuple #[.slice none 0 0, .bool false]) w := by kernel_rfl
theorem ta_5_26 (v : Value) (w : World) : (Instr.typeAssert (.iface 5 v) 20 26 true).run Tryz.prog w = .ok (.tuple #[.slice none 0 0, .bool false]) w := by kernel_rfl
theorem ta_156_26 (v : Value) (w : World) : (Instr.typeAssert (.iface 156 v) 20 26 true).run Tryz.prog w = .ok (.tuple #[.slice none 0 0, .bool false]) w := by kernel_rfl
theorem ta_53_26 (v : Value) (w : World) : (Instr.typeAssert (.iface 53 v) 20 26 true).run Tryz.prog w = .ok (.tuple #[.slice none 0 0, .bool false]) w := by kernel_rfl
theorem ta_22_26 (v : Value) (w : World) : (Instr.typeAssert (.iface 22 v) 20 26 true).run Tryz.prog w = .ok (.tuple #[.slice none 0 0, .bool false]) w := by kernel_rfl
theorem ta_12_26 (v : Value) (w : World) : (Instr.typeAssert (.iface 12 v) 20 26 true).run Tryz.prog w = .ok (.tuple #[.slice none 0 0, .bool false]) w := by kernel_rfl
theorem ta_149_26 (v : Value) (w : World) : (Instr.typeAssert (.iface 149 v) 20 26 true).run Tryz.prog w = .ok (.tuple #[.slice none 0 0, .bool false]) w := by kernel_rfl
theorem ta_151_26 (v : Value) (w : World) : (Instr.typeAssert (.iface 151 v) 20 26 true).run Tryz.prog w = .ok (.tuple #[.slice none 0 0, .bool false]) w := by kernel_rfl
theorem ta_9_26 (v : Value) (w : World) : (Instr.typeAssert (.iface 9 v) 20 26 true).run Tryz.prog w = .ok (.tuple #[.slice none 0 0, .bool false]) w := by kernel_rfl
theorem ta_26_26 (v : Value) (w : World) : (Instr.typeAssert (.iface 26 v) 20 26 true).run Tryz.prog w = .ok (.tuple #[v, .bool true]) w := by kernel_rfl
theorem ta_164_26 (v : Value) (w : World) : (Instr.typeAssert (.iface 164 v) 20 26 true).run Tryz.prog w = .ok (.tuple #[.slice none 0 0, .bool false]) w := by kernel_rfl
theorem ta_165_26 (v : Value) (w : World) : (Instr.typeAssert (.iface 165 v) 20 26 true).run Tryz.prog w = .ok (.tuple #[.slice none 0 0, .bool false]) w := by kernel_rfl
theorem ta_n_164 (w : World) : (Instr.typeAssert .nilIface 20 164 true).run Tryz.prog w = .ok (.tuple #[.agg #[.string ⟨#[]⟩], .bool false]) w := by kernel_rfl
theorem ta_4_164 (v : Value) (w : World) : (Instr.typeAssert (.iface 4 v) 20 164 true).run Tryz.prog w = .ok (.tuple #[.agg #[.string ⟨#[]⟩], .bool false]) w := by kernel_rfl
theorem ta_3_164 (v : Value) (w : World) : (Instr.typeAssert (.iface 3 v) 20 164 true).run Tryz.prog w = .ok (.tuple #[.agg #[.string ⟨#[]⟩], .bool false]) w := by kernel_rfl
theorem ta_83_164 (v : Value) (w : World) : (Instr.typeAssert (.iface 83 v) 20 164 true).run Tryz.prog w = .ok (.tuple #[.agg #[.string ⟨#[]⟩], .bool false]) w := by kernel_rfl
theorem ta_84_164 (v : Value) (w : World) : (Instr.typeAssert (.iface 84 v) 20 164 true).run Tryz.prog w = .ok (.tuple #[.agg #[.string ⟨#[]⟩], .bool false]) w := by kernel_rfl
theorem ta_21_164 (v : Value) (w : World) : (Instr.typeAssert (.iface 21 v) 20 164 true).run Tryz.prog w = .ok (.tuple #[.agg #[.string ⟨#[]⟩], .bool false]) w := by kernel_rfl
theorem ta_2_164 (v : Value) (w : World) : (Instr.typeAssert (.iface 2 v) 20 164 true).run Tryz.prog w = .ok (.tuple #[.agg #[.string ⟨#[]⟩], .bool false]) w := by kernel_rfl
theorem ta_88_164 (v : Value) (w : World) : (Instr.typeAssert (.iface 88 v) 20 164 true).run Tryz.prog w = .ok (.tuple #[.agg #[.string ⟨#[]⟩], .bool false]) w := by kernel_rfl
theorem ta_5_164 (v : Value) (w : World) : (Instr.typeAssert (.iface 5 v) 20 164 true).run Tryz.prog w = .ok (.tuple #[.agg #[.string ⟨#[]⟩], .bool false]) w := by kernel_rfl
theorem ta_156_164 (v : Value) (w : World) : (Instr.typeAssert (.iface 156 v) 20 164 true).run Tryz.prog w = .ok (.tuple #[.agg #[.string ⟨#[]⟩], .bool false]) w := by kernel_rfl
theorem ta_53_164 (v : Value) (w : World) : (Instr.typeAssert (.iface 53 v) 20 164 true).run Tryz.prog w = .ok (.tuple #[.agg #[.string ⟨#[]⟩], .bool false]) w := by kernel_rfl
theorem ta_22_164 (v : Value) (w : World) : (Instr.typeAssert (.iface 22 v) 20 164 true).run Tryz.prog w = .ok (.tuple #[.agg #[.string ⟨#[]⟩], .bool false]) w := by kernel_rfl
theorem ta_12_164 (v : Value) (w : World) : (Instr.typeAssert (.iface 12 v) 20 164 true).run Tryz.prog w = .ok (.tuple #[.agg #[.string ⟨#[]⟩], .bool false]) w := by kernel_rfl
theorem ta_149_164 (v : Value) (w : World) : (Instr.typeAssert (.iface 149 v) 20 164 true).run Tryz.prog w = .ok (.tuple #[.agg #[.string ⟨#[]⟩], .bool false]) w := by kernel_rfl
theorem ta_151_164 (v : Value) (w : World) : (Instr.typeAssert (.iface 151 v) 20 164 true).run Tryz.prog w = .ok (.tuple #[.agg #[.string ⟨#[]⟩], .bool false]) w := by kernel_rfl
theorem ta_9_164 (v : Value) (w : World) : (Instr.typeAssert (.iface 9 v) 20 164 true).run Tryz.prog w = .ok (.tuple #[.agg #[.string ⟨#[]⟩], .bool false]) w := by kernel_rfl
theorem ta_26_164 (v : Value) (w : World) : (Instr.typeAssert (.iface 26 v) 20 164 true).run Tryz.prog w = .ok (.tuple #[.agg #[.string ⟨#[]⟩], .bool false]) w := by kernel_rfl
theorem ta_164_164 (v : Value) (w : World) : (Instr.typeAssert (.iface 164 v) 20 164 true).run Tryz.prog w = .ok (.tuple #[v, .bool true]) w := by kernel_rfl
theorem ta_165_164 (v : Value) (w : World) : (Instr.typeAssert (.iface 165 v) 20 164 true).run Tryz.prog w = .ok (.tuple #[.agg #[.string ⟨#[]⟩], .bool false]) w := by kernel_rfl
theorem ta_n_165 (w : World) : (Instr.typeAssert .nilIface 20 165 true).run Tryz.prog w = .ok (.tuple #[.agg #[.string ⟨#[]⟩], .bool false]) w := by kernel_rfl
theorem ta_4_165 (v : Value) (w : World) : (Instr.typeAssert (.iface 4 v) 20 165 true).run Tryz.prog w = .ok (.tuple #[.agg #[.string ⟨#[]⟩], .bool false]) w := by kernel_rfl
theorem ta_3_165 (v : Value) (w : World) : (Instr.typeAssert (.iface 3 v) 20 165 true).run Tryz.prog w = .ok (.tuple #[.agg #[.string ⟨#[]⟩], .bool false]) w := by kernel_rfl
theorem ta_83_165 (v : Value) (w : World) : (Instr.typeAssert (.iface 83 v) 20 165 true).run Tryz.prog w = .ok (.tuple #[.agg #[.string ⟨#[]⟩], .bool false]) w := by kernel_rfl
theorem ta_84_165 (v : Value) (w : World) : (Instr.typeAssert (.iface 84 v) 20 165 true).run Tryz.prog w = .ok (.tuple #[.agg #[.string ⟨#[]⟩], .bool false]) w := by kernel_rfl
theorem ta_21_165 (v : Value) (w : World) : (Instr.typeAssert (.iface 21 v) 20 165 true).run Tryz.prog w = .ok (.tuple #[.agg #[.string ⟨#[]⟩], .bool false]) w := by kernel_rfl
theorem ta_2_165 (v : Value) (w : World) : (Instr.typeAssert (.iface 2 v) 20 165 true).run Tryz.prog w = .ok (.tuple #[.agg #[.string ⟨#[]⟩], .bool false]) w := by kernel_rfl
theorem ta_88_165 (v : Value) (w : World) : (Instr.typeAssert (.iface 88 v) 20 165 true).run Tryz.prog w = .ok (.tuple #[.agg #[.string ⟨#[]⟩], .bool false]) w := by kernel_rfl
theorem ta_5_165 (v : Value) (w : World) : (Instr.typeAssert (.iface 5 v) 20 165 true).run Tryz.prog w = .ok (.tuple #[.agg #[.string ⟨#[]⟩], .bool false]) w := by kernel_rfl
theorem ta_156_165 (v : Value) (w : World) : (Instr.typeAssert (.iface 156 v) 20 165 true).run Tryz.prog w = .ok (.tuple #[.agg #[.string ⟨#[]⟩], .bool false]) w := by kernel_rfl
theorem ta_53_165 (v : Value) (w : World) : (Instr.typeAssert (.iface 53 v) 20 165 true).run Tryz.prog w = .ok (.tuple #[.agg #[.string ⟨#[]⟩], .bool false]) w := by kernel_rfl
theorem ta_22_165 (v : Value) (w : World) : (Instr.typeAssert (.iface 22 v) 20 165 true).run Tryz.prog w = .ok (.tuple #[.agg #[.string ⟨#[]⟩], .bool false]) w := by kernel_rfl
theorem ta_12_165 (v : Value) (w : World) : (Instr.typeAssert (.iface 12 v) 20 165 true).run Tryz.prog w = .ok (.tuple #[.agg #[.string ⟨#[]⟩], .bool false]) w := by kernel_rfl
theorem ta_149_165 (v : Value) (w : World) : (Instr.typeAssert (.iface 149 v) 20 165 true).run Tryz.prog w = .ok (.tuple #[.agg #[.string ⟨#[]⟩], .bool false]) w := by kernel_rfl
theorem ta_151_165 (v : Value) (w : World) : (Instr.typeAssert (.iface 151 v) 20 165 true).run Tryz.prog w = .ok (.tuple #[.agg #[.string ⟨#[]⟩], .bool false]) w := by kernel_rfl
theorem ta_9_165 (v : Value) (w : World) : (Instr.typeAssert (.iface 9 v) 20 165 true).run Tryz.prog w = .ok (.tuple #[.agg #[.string ⟨#[]⟩], .bool false]) w := by kernel_rfl
theorem ta_26_165 (v : Value) (w : World) : (Instr.typeAssert (.iface 26 v) 20 165 true).run Tryz.prog w = .ok (.tuple #[.agg #[.string ⟨#[]⟩], .bool false]) w := by kernel_rfl
theorem ta_164_165 (v : Value) (w : World) : (Instr.typeAssert (.iface 164 v) 20 165 true).run Tryz.prog w = .ok (.tuple #[.agg #[.string ⟨#[]⟩], .bool false]) w := by kernel_rfl
theorem ta_165_165 (v : Value) (w : World) : (Instr.typeAssert (.iface 165 v) 20 165 true).run Tryz.prog w = .ok (.tuple #[v, .bool true]) w := by kernel_rfl

/-- asInt answers so -/
def AiAns (o : Option Int) (w : World) (e : Ending) (w' : World) : Prop := e = .returned (.tuple #[.int .i64 (o.getD 0), .bool o.isSome]) ∧ w = w'
set_option maxRecDepth 100000 in
set_option maxHeartbeats 1000000 in
theorem asInt_n (w : World) : Calls Tryz.prog 100 #[.nilIface] w (AiAns none w) := by
  have q3 := ta_n_3
  have q83 := ta_n_83
  have q84 := ta_n_84
  have q21 := ta_n_21
  have q2 := ta_n_2
  have q88 := ta_n_88
  have q5 := ta_n_5
  have q156 := ta_n_156
  have q53 := ta_n_53
  have q22 := ta_n_22
  have q12 := ta_n_12
  go_enter Tryz.func100, Tryz.ntmps100
  go_wp2
  go_ret2
  exact ⟨rfl, rfl⟩

set_option maxRecDepth 100000 in
set_option maxHeartbeats 1000000 in
theorem asInt_4 (v : Value) (w : World) : Calls Tryz.prog 100 #[.iface 4 v] w (AiAns none w) := by
  have q3 := ta_4_3
  have q83 := ta_4_83
  have q84 := ta_4_84
  have q21 := ta_4_21
  have q2 := ta_4_2
  have q88 := ta_4_88
  have q5 := ta_4_5
  have q156 := ta_4_156
  have q53 := ta_4_53
  have q22 := ta_4_22
  have q12 := ta_4_12
  go_enter Tryz.func100, Tryz.ntmps100
  go_wp2
  go_ret2
  exact ⟨rfl, rfl⟩

set_option maxRecDepth 100000 in
set_option maxHeartbeats 1000000 in
theorem asInt_149 (v : Value) (w : World) : Calls Tryz.prog 100 #[.iface 149 v] w (AiAns none w) := by
  have q3 := ta_149_3
  have q83 := ta_149_83
  have q84 := ta_149_84
  have q21 := ta_149_21
  have q2 := ta_149_2
  have q88 := ta_149_88
  have q5 := ta_149_5
  have q156 := ta_149_156
  have q53 := ta_149_53
  have q22 := ta_149_22
  have q12 := ta_149_12
  go_enter Tryz.func100, Tryz.ntmps100
  go_wp2
  go_ret2
  exact ⟨rfl, rfl⟩

set_option maxRecDepth 100000 in
set_option maxHeartbeats 1000000 in
theorem asInt_151 (v : Value) (w : World) : Calls Tryz.prog 100 #[.iface 151 v] w (AiAns none w) := by
  have q3 := ta_151_3
  have q83 := ta_151_83
  have q84 := ta_151_84
  have q21 := ta_151_21
  have q2 := ta_151_2
  have q88 := ta_151_88
  have q5 := ta_151_5
  have q156 := ta_151_156
  have q53 := ta_151_53
  have q22 := ta_151_22
  have q12 := ta_151_12
  go_enter Tryz.func100, Tryz.ntmps100
  go_wp2
  go_ret2
  exact ⟨rfl, rfl⟩

set_option maxRecDepth 100000 in
set_option maxHeartbeats 1000000 in
theorem asInt_9 (v : Value) (w : World) : Calls Tryz.prog 100 #[.iface 9 v] w (AiAns none w) := by
  have q3 := ta_9_3
  have q83 := ta_9_83
  have q84 := ta_9_84
  have q21 := ta_9_21
  have q2 := ta_9_2
  have q88 := ta_9_88
  have q5 := ta_9_5
  have q156 := ta_9_156
  have q53 := ta_9_53
  have q22 := ta_9_22
  have q12 := ta_9_12
  go_enter Tryz.func100, Tryz.ntmps100
  go_wp2
  go_ret2
  exact ⟨rfl, rfl⟩

set_option maxRecDepth 100000 in
set_option maxHeartbeats 1000000 in
theorem asInt_26 (v : Value) (w : World) : Calls Tryz.prog 100 #[.iface 26 v] w (AiAns none w) := by
  have q3 := ta_26_3
  have q83 := ta_26_83
  have q84 := ta_26_84
  have q21 := ta_26_21
  have q2 := ta_26_2
  have q88 := ta_26_88
  have q5 := ta_26_5
  have q156 := ta_26_156
  have q53 := ta_26_53
  have q22 := ta_26_22
  have q12 := ta_26_12
  go_enter Tryz.func100, Tryz.ntmps100
  go_wp2
  go_ret2
  exact ⟨rfl, rfl⟩

set_option maxRecDepth 100000 in
set_option maxHeartbeats 1000000 in
theorem asInt_164 (v : Value) (w : World) : Calls Tryz.prog 100 #[.iface 164 v] w (AiAns none w) := by
  have q3 := ta_164_3
  have q83 := ta_164_83
  have q84 := ta_164_84
  have q21 := ta_164_21
  have q2 := ta_164_2
  have q88 := ta_164_88
  have q5 := ta_164_5
  have q156 := ta_164_156
  have q53 := ta_164_53
  have q22 := ta_164_22
  have q12 := ta_164_12
  go_enter Tryz.func100, Tryz.ntmps100
  go_wp2
  go_ret2
  exact ⟨rfl, rfl⟩

set_option maxRecDepth 100000 in
set_option maxHeartbeats 1000000 in
theorem asInt_165 (v : Value) (w : World) : Calls Tryz.prog 100 #[.iface 165 v] w (AiAns none w) := by
  have q3 := ta_165_3
  have q83 := ta_165_83
  have q84 := ta_165_84
  have q21 := ta_165_21
  have q2 := ta_165_2
  have q88 := ta_165_88
  have q5 := ta_165_5
  have q156 := ta_165_156
  have q53 := ta_165_53
  have q22 := ta_165_22
  have q12 := ta_165_12
  go_enter Tryz.func100, Tryz.ntmps100
  go_wp2
  go_ret2
  exact ⟨rfl, rfl⟩

set_option maxRecDepth 100000 in
set_option maxHeartbeats 1000000 in
theorem asInt_3 (n : Int) (_h1 : -9223372036854775808 ≤ n) (_h2 : n ≤ 9223372036854775807) (w : World) : Calls Tryz.prog 100 #[.iface 3 (.int .i64 n)] w (AiAns (some n) w) := by
  have q3 := ta_3_3
  go_enter Tryz.func100, Tryz.ntmps100
  go_wp2
  go_ret2
  exact ⟨rfl, rfl⟩

set_option maxRecDepth 100000 in
set_option maxHeartbeats 1000000 in
theorem asInt_83 (n : Int) (h1 : -128 ≤ n) (h2 : n ≤ 127) (w : World) : Calls Tryz.prog 100 #[.iface 83 (.int .i8 n)] w (AiAns (some n) w) := by
  have q3 := ta_83_3
  have q83 := ta_83_83
  go_enter Tryz.func100, Tryz.ntmps100
  go_wp2
  go_ret2
  exact ⟨rfl, rfl⟩

set_option maxRecDepth 100000 in
set_option maxHeartbeats 1000000 in
theorem asInt_84 (n : Int) (h1 : -32768 ≤ n) (h2 : n ≤ 32767) (w : World) : Calls Tryz.prog 100 #[.iface 84 (.int .i16 n)] w (AiAns (some n) w) := by
  have q3 := ta_84_3
  have q83 := ta_84_83
  have q84 := ta_84_84
  go_enter Tryz.func100, Tryz.ntmps100
  go_wp2
  go_ret2
  exact ⟨rfl, rfl⟩

set_option maxRecDepth 100000 in
set_option maxHeartbeats 1000000 in
theorem asInt_21 (n : Int) (h1 : -2147483648 ≤ n) (h2 : n ≤ 2147483647) (w : World) : Calls Tryz.prog 100 #[.iface 21 (.int .i32 n)] w (AiAns (some n) w) := by
  have q3 := ta_21_3
  have q83 := ta_21_83
  have q84 := ta_21_84
  have q21 := ta_21_21
  go_enter Tryz.func100, Tryz.ntmps100
  go_wp2
  go_ret2
  exact ⟨rfl, rfl⟩

set_option maxRecDepth 100000 in
set_option maxHeartbeats 1000000 in
theorem asInt_2 (n : Int) (_h1 : -9223372036854775808 ≤ n) (_h2 : n ≤ 9223372036854775807) (w : World) : Calls Tryz.prog 100 #[.iface 2 (.int .i64 n)] w (AiAns (some n) w) := by
  have q3 := ta_2_3
  have q83 := ta_2_83
  have q84 := ta_2_84
  have q21 := ta_2_21
  have q2 := ta_2_2
  go_enter Tryz.func100, Tryz.ntmps100
  go_wp2
  go_ret2
  exact ⟨rfl, rfl⟩

set_option maxRecDepth 100000 in
set_option maxHeartbeats 1000000 in
theorem asInt_88a (n : Int) (h1 : 0 ≤ n) (h2 : n ≤ 9223372036854775807) (w : World) : Calls Tryz.prog 100 #[.iface 88 (.int .u64 n)] w (AiAns (some n) w) := by
  have q3 := ta_88_3
  have q83 := ta_88_83
  have q84 := ta_88_84
  have q21 := ta_88_21
  have q2 := ta_88_2
  have q88 := ta_88_88
  go_enter Tryz.func100, Tryz.ntmps100
  go_wp2
  go_ret2
  exact ⟨rfl, rfl⟩

set_option maxRecDepth 100000 in
set_option maxHeartbeats 1000000 in
theorem asInt_88b (n : Int) (h1 : 9223372036854775807 < n) (h2 : n ≤ 18446744073709551615) (w : World) : Calls Tryz.prog 100 #[.iface 88 (.int .u64 n)] w (AiAns none w) := by
  have q3 := ta_88_3
  have q83 := ta_88_83
  have q84 := ta_88_84
  have q21 := ta_88_21
  have q2 := ta_88_2
  have q88 := ta_88_88
  have e : IntKind.i64.wrap n = n - 18446744073709551616 := by simp [IntKind.wrap, IntKind.bits, IntKind.signed]; omega
  have e2 : ¬ 0 ≤ n - 18446744073709551616 := by omega
  go_enter Tryz.func100, Tryz.ntmps100
  go_wp2
  go_ret2
  exact ⟨rfl, rfl⟩

set_option maxRecDepth 100000 in
set_option maxHeartbeats 1000000 in
theorem asInt_5 (n : Int) (h1 : 0 ≤ n) (h2 : n ≤ 255) (w : World) : Calls Tryz.prog 100 #[.iface 5 (.int .u8 n)] w (AiAns (some n) w) := by
  have q3 := ta_5_3
  have q83 := ta_5_83
  have q84 := ta_5_84
  have q21 := ta_5_21
  have q2 := ta_5_2
  have q88 := ta_5_88
  have q5 := ta_5_5
  have h3 : ¬ n < 0 := by omega
  go_enter Tryz.func100, Tryz.ntmps100
  go_wp2
  go_ret2
  exact ⟨rfl, rfl⟩

set_option maxRecDepth 100000 in
set_option maxHeartbeats 1000000 in
theorem asInt_156 (n : Int) (h1 : 0 ≤ n) (h2 : n ≤ 65535) (w : World) : Calls Tryz.prog 100 #[.iface 156 (.int .u16 n)] w (AiAns (some n) w) := by
  have q3 := ta_156_3
  have q83 := ta_156_83
  have q84 := ta_156_84
  have q21 := ta_156_21
  have q2 := ta_156_2
  have q88 := ta_156_88
  have q5 := ta_156_5
  have q156 := ta_156_156
  have h3 : ¬ n < 0 := by omega
  go_enter Tryz.func100, Tryz.ntmps100
  go_wp2
  go_ret2
  exact ⟨rfl, rfl⟩

set_option maxRecDepth 100000 in
set_option maxHeartbeats 1000000 in
theorem asInt_53 (n : Int) (h1 : 0 ≤ n) (h2 : n ≤ 4294967295) (w : World) : Calls Tryz.prog 100 #[.iface 53 (.int .u32 n)] w (AiAns (some n) w) := by
  have q3 := ta_53_3
  have q83 := ta_53_83
  have q84 := ta_53_84
  have q21 := ta_53_21
  have q2 := ta_53_2
  have q88 := ta_53_88
  have q5 := ta_53_5
  have q156 := ta_53_156
  have q53 := ta_53_53
  have h3 : ¬ n < 0 := by omega
  go_enter Tryz.func100, Tryz.ntmps100
  go_wp2
  go_ret2
  exact ⟨rfl, rfl⟩

set_option maxRecDepth 100000 in
set_option maxHeartbeats 1000000 in
theorem asInt_22a (n : Int) (h1 : 0 ≤ n) (h2 : n ≤ 9223372036854775807) (w : World) : Calls Tryz.prog 100 #[.iface 22 (.int .u64 n)] w (AiAns (some n) w) := by
  have q3 := ta_22_3
  have q83 := ta_22_83
  have q84 := ta_22_84
  have q21 := ta_22_21
  have q2 := ta_22_2
  have q88 := ta_22_88
  have q5 := ta_22_5
  have q156 := ta_22_156
  have q53 := ta_22_53
  have q22 := ta_22_22
  go_enter Tryz.func100, Tryz.ntmps100
  go_wp2
  go_ret2
  exact ⟨rfl, rfl⟩

set_option maxRecDepth 100000 in
set_option maxHeartbeats 1000000 in
theorem asInt_22b (n : Int) (h1 : 9223372036854775807 < n) (h2 : n ≤ 18446744073709551615) (w : World) : Calls Tryz.prog 100 #[.iface 22 (.int .u64 n)] w (AiAns none w) := by
  have q3 := ta_22_3
  have q83 := ta_22_83
  have q84 := ta_22_84
  have q21 := ta_22_21
  have q2 := ta_22_2
  have q88 := ta_22_88
  have q5 := ta_22_5
  have q156 := ta_22_156
  have q53 := ta_22_53
  have q22 := ta_22_22
  have e : IntKind.i64.wrap n = n - 18446744073709551616 := by simp [IntKind.wrap, IntKind.bits, IntKind.signed]; omega
  have e2 : ¬ 0 ≤ n - 18446744073709551616 := by omega
  go_enter Tryz.func100, Tryz.ntmps100
  go_wp2
  go_ret2
  exact ⟨rfl, rfl⟩

set_option maxRecDepth 100000 in
set_option maxHeartbeats 1000000 in
theorem asInt_12a (n : Int) (h1 : 0 ≤ n) (h2 : n ≤ 9223372036854775807) (w : World) : Calls Tryz.prog 100 #[.iface 12 (.int .u64 n)] w (AiAns (some n) w) := by
  have q3 := ta_12_3
  have q83 := ta_12_83
  have q84 := ta_12_84
  have q21 := ta_12_21
  have q2 := ta_12_2
  have q88 := ta_12_88
  have q5 := ta_12_5
  have q156 := ta_12_156
  have q53 := ta_12_53
  have q22 := ta_12_22
  have q12 := ta_12_12
  go_enter Tryz.func100, Tryz.ntmps100
  go_wp2
  go_ret2
  exact ⟨rfl, rfl⟩

set_option maxRecDepth 100000 in
set_option maxHeartbeats 1000000 in
theorem asInt_12b (n : Int) (h1 : 9223372036854775807 < n) (h2 : n ≤ 18446744073709551615) (w : World) : Calls Tryz.prog 100 #[.iface 12 (.int .u64 n)] w (AiAns none w) := by
  have q3 := ta_12_3
  have q83 := ta_12_83
  have q84 := ta_12_84
  have q21 := ta_12_21
  have q2 := ta_12_2
  have q88 := ta_12_88
  have q5 := ta_12_5
  have q156 := ta_12_156
  have q53 := ta_12_53
  have q22 := ta_12_22
  have q12 := ta_12_12
  have e : IntKind.i64.wrap n = n - 18446744073709551616 := by simp [IntKind.wrap, IntKind.bits, IntKind.signed]; omega
  have e2 : ¬ 0 ≤ n - 18446744073709551616 := by omega
  go_enter Tryz.func100, Tryz.ntmps100
  go_wp2
  go_ret2
  exact ⟨rfl, rfl⟩

theorem asInt_any {b : Nat} {w : World} {v x : Value} {a : Arg} (h : ArgIs b w v x a) (W : World) : Calls Tryz.prog 100 #[x] W (AiAns a.num W) := by
  cases a with
  | nil => cases h; exact asInt_n W
  | bool y => cases h; exact asInt_4 _ W
  | f32 y => obtain ⟨rfl, _⟩ := h; exact asInt_149 _ W
  | f64 y => obtain ⟨rfl, _⟩ := h; exact asInt_151 _ W
  | str y => cases h; exact asInt_9 _ W
  | bytes y => obtain ⟨u, rfl, _⟩ := h; exact asInt_26 _ W
  | err y => cases h; exact asInt_164 _ W
  | strg y => cases h; exact asInt_165 _ W
  | int ty k n =>
    obtain ⟨rfl, ⟨nm, hm⟩, h1, h2⟩ := h
    have hnum : Arg.num (.int ty k n) = if n ≤ 9223372036854775807 then some n else none := rfl
    simp only [intTypes, List.mem_cons, Prod.mk.injEq, List.not_mem_nil, or_false] at hm
    rcases hm with ⟨rfl, rfl, _⟩ | ⟨rfl, rfl, _⟩ | ⟨rfl, rfl, _⟩ | ⟨rfl, rfl, _⟩ | ⟨rfl, rfl, _⟩ | ⟨rfl, rfl, _⟩ | ⟨rfl, rfl, _⟩ | ⟨rfl, rfl, _⟩ | ⟨rfl, rfl, _⟩ | ⟨rfl, rfl, _⟩ | ⟨rfl, rfl, _⟩ <;>
      simp only [IntKind.min, IntKind.max, IntKind.signed, IntKind.bits, if_true, if_false, Bool.false_eq_true] at h1 h2 <;> rw [hnum]
    · rw [if_pos (by omega)]; exact asInt_3 n (by omega) (by omega) W
    · rw [if_pos (by omega)]; exact asInt_83 n (by omega) (by omega) W
    · rw [if_pos (by omega)]; exact asInt_84 n (by omega) (by omega) W
    · rw [if_pos (by omega)]; exact asInt_21 n (by omega) (by omega) W
    · rw [if_pos (by omega)]; exact asInt_2 n (by omega) (by omega) W
    · split
      · exact asInt_88a n (by omega) (by omega) W
      · exact asInt_88b n (by omega) (by omega) W
    · rw [if_pos (by omega)]; exact asInt_5 n (by omega) (by omega) W
    · rw [if_pos (by omega)]; exact asInt_156 n (by omega) (by omega) W
    · rw [if_pos (by omega)]; exact asInt_53 n (by omega) (by omega) W
    · split
      · exact asInt_22a n (by omega) (by omega) W
      · exact asInt_22b n (by omega) (by omega) W
    · split
      · exact asInt_12a n (by omega) (by omega) W
      · exact asInt_12b n (by omega) (by omega) W

set_option maxRecDepth 100000 in
set_option maxHeartbeats 1000000 in
theorem intFromArg_any {b : Nat} {w : World} {v a : Value} {l : List Arg} (h : ArgsAt b w v a l) (k : Nat) (hk : k ≤ l.length) (hn : l.length ≤ 100000000) :
    Calls Tryz.prog 80 #[a, .int .i64 k] w fun e w' => e = .returned (.tuple #[.int .i64 (intFrom l k).1, .bool (intFrom l k).2.1, .int .i64 (intFrom l k).2.2]) ∧ w = w' := by
  obtain ⟨p, c, rfl⟩ := h.slice
  by_cases hlt : k < l.length
  · obtain ⟨ka, ao, x, rfl, hkb, hcell, hA⟩ := h.at hlt
    have hk? : l[k]? = some l[k] := by simp [hlt]
    have C := asInt_any hA w
    cases hm : (l[k]).num with
    | none =>
      have hr : intFrom l k = (0, false, k + 1) := by unfold intFrom; rw [hk?]; simp only [hm]
      rw [hm] at C
      rw [hr]
      have HC := Lib.hid C
      have ht : tooLargeB 0 = false := by decide
      clear h hA hk? hm C hr
      go_enter Tryz.func80, Tryz.ntmps80
      go_wp2_with (first | (go_at_call 100; refine (HC.out).mono ?_; rintro e w' ⟨rfl, rfl⟩) | (go_at_call 101; refine (tooLarge_any _ _).mono ?_; rintro e w' ⟨rfl, rfl⟩))
      go_ret3
      exact ⟨rfl, rfl⟩
    | some n =>
      rw [hm] at C
      have HC := Lib.hid C
      cases ht : tooLargeB n with
      | true =>
        have hr : intFrom l k = (0, false, k + 1) := by unfold intFrom; rw [hk?]; simp only [hm, ht]; rfl
        rw [hr]
        clear h hA hk? hm C hr
        go_enter Tryz.func80, Tryz.ntmps80
        go_wp2_with (first | (go_at_call 100; refine (HC.out).mono ?_; rintro e w' ⟨rfl, rfl⟩) | (go_at_call 101; refine (tooLarge_any _ _).mono ?_; rintro e w' ⟨rfl, rfl⟩))
        go_ret3
        exact ⟨rfl, rfl⟩
      | false =>
        have hr : intFrom l k = (n, true, k + 1) := by unfold intFrom; rw [hk?]; simp only [hm, ht]; rfl
        rw [hr]
        clear h hA hk? hm C hr
        go_enter Tryz.func80, Tryz.ntmps80
        go_wp2_with (first | (go_at_call 100; refine (HC.out).mono ?_; rintro e w' ⟨rfl, rfl⟩) | (go_at_call 101; refine (tooLarge_any _ _).mono ?_; rintro e w' ⟨rfl, rfl⟩))
        go_ret3
        exact ⟨rfl, rfl⟩
  · have hr : intFrom l k = (0, false, k) := by unfold intFrom; rw [List.getElem?_eq_none (by omega)]
    rw [hr]
    have ht : tooLargeB 0 = false := by decide
    clear h hr
    go_enter Tryz.func80, Tryz.ntmps80
    go_wp2_with (go_at_call 101; refine (tooLarge_any _ _).mono ?_; rintro e w' ⟨rfl, rfl⟩)
    go_ret3
    exact ⟨rfl, rfl⟩

def PanAns (r : Int × Nat × Bool) (w : World) (e : Ending) (w' : World) : Prop := e = .returned (.tuple #[.int .i64 r.1, .int .i64 r.2.1, .bool r.2.2]) ∧ w = w'

set_option maxRecDepth 100000 in
set_option maxHeartbeats 1000000 in
theorem parseArgNumber_any (s : ByteArray) (w : World) (hs : s.size ≤ 140737488355328) : Calls Tryz.prog 99 #[.string s] w (PanAns (panM s) w) := by
  have hsz : (s.size : Int) ≤ 9223372036854775807 := by omega
  by_cases h3 : s.size < 3
  · have hr : panM s = (0, 1, false) := by unfold panM; rw [if_pos h3]
    rw [hr]
    have c : (s.size : Int) < 3 := by omega
    clear hr
    go_enter Tryz.func99, Tryz.ntmps99
    go_wp2
    go_ret3
    exact ⟨rfl, rfl⟩
  · have hr : panM s = panFrom s s.size 1 := by unfold panM; rw [if_neg h3]
    rw [hr]
    have c : ¬ (s.size : Int) < 3 := by omega
    obtain ⟨R, hR⟩ : ∃ R, R = panFrom s s.size 1 := ⟨_, rfl⟩
    rw [← hR]
    have HR := Lib.hid hR
    clear hr hR
    go_enter Tryz.func99, Tryz.ntmps99
    go_wp2
    go_loop [5] (fun a => ∃ (i f : Nat), a = .int .i64 i ∧ 1 ≤ i ∧ i ≤ s.size ∧ s.size ≤ i + f ∧ Hid (R = panFrom s f i)) (fun a => s.size - (intOf a).toNat)
    case atStart => exact ⟨1, s.size, rfl, Nat.le_refl _, by omega, by omega, HR.out⟩
    case round =>
      obtain ⟨i, f, rfl, h1, h2, hf, H⟩ := hrel
      by_cases hlt : i < s.size
      · obtain ⟨f, rfl⟩ : ∃ g, f = g + 1 := ⟨f - 1, by omega⟩
        have hb := bt_eq s i hlt
        have HH := H.out
        rw [panFrom, if_pos hlt] at HH
        by_cases h93 : bt s i = 93
        · rw [if_pos h93] at HH
          rw [h93] at hb
          have CP := parsenum_any s 1 i w h2 hs
          obtain ⟨r, hr⟩ : ∃ r, r = parsenumM s 1 i := ⟨_, rfl⟩
          have hle := parsenumM_le s 1 i
          rw [← hr] at HH CP hle
          obtain ⟨r1, r2, r3⟩ := r
          simp only at HH hle
          have HC := Lib.hid CP
          clear H h93 hr CP
          cases r2 with
          | false =>
            simp only [true_or, if_true] at HH
            have HX := Lib.hid HH
            clear HH
            go_wp2_with (go_at_call 81; refine (HC.out).mono ?_; rintro e w' ⟨rfl, rfl⟩)
            go_ret3
            exact ⟨by rw [HX.out]; rfl, rfl⟩
          | true =>
            by_cases hri : r3 = i
            · subst hri
              have HX := Lib.hid (show R = ((r1 : Int) - 1, r3 + 1, true) by rw [HH, if_neg (by simp)])
              clear HH
              go_wp2_with (go_at_call 81; refine (HC.out).mono ?_; rintro e w' ⟨rfl, rfl⟩)
              go_ret3
              exact ⟨by rw [HX.out]; rfl, rfl⟩
            · have HX := Lib.hid (show R = ((0 : Int), i + 1, false) by rw [HH, if_pos (.inr hri)])
              have hri' : ¬ (r3 : Int) = i := by omega
              clear HH
              go_wp2_with (go_at_call 81; refine (HC.out).mono ?_; rintro e w' ⟨rfl, rfl⟩)
              go_ret3
              exact ⟨by rw [HX.out]; rfl, rfl⟩
        · rw [if_neg h93] at HH
          have HX := Lib.hid HH
          clear HH H
          go_wp2
          go_round
          case rel => exact ⟨i + 1, f, by go_num, by omega, by omega, by omega, HX.out⟩
          case measure => simp [intOf]; omega
      · have HX := Lib.hid (show R = ((0 : Int), 1, false) by rw [H.out]; cases f <;> simp [panFrom, hlt])
        clear H
        go_wp2
        go_ret3
        exact ⟨by rw [HX.out]; rfl, rfl⟩

set_option maxRecDepth 100000 in
set_option maxHeartbeats 1000000 in
theorem argNumber_any {b : Nat} {w : World} {v : Value} {ib : List Value} {d : D} (h : PP b w d.s v ib) (t : ByteArray) (n : Nat) (hi : d.i ≤ t.size) (_hk : (d.k : Int) ≤ 100000000) (ht : Fits t.size) (_hn : n ≤ 100000000) :
    Calls Tryz.prog 79 #[.pointer (some ⟨b, 0, none⟩), .int .i64 d.k, .string t, .int .i64 d.i, .int .i64 n] w fun e w' =>
      e = .returned (.tuple #[.int .i64 (idxD t n d).k, .int .i64 (idxD t n d).i, .bool (idxD t n d).af]) ∧ PP b w' (idxD t n d).s v ib ∧ Fr b w v w' v := by
  have hts : (t.size : Int) ≤ 100000000000000 := by have : t.size ≤ 35184372088832 := ht; omega
  by_cases hlt : t.size ≤ d.i
  · have hr : idxD t n d = { d with af := false } := by unfold idxD; rw [if_pos (.inl hlt)]
    rw [hr]
    have hq : (t.size : Int) ≤ d.i := by omega
    have HP := Lib.hid h
    clear hr h
    go_enter Tryz.func79, Tryz.ntmps79
    go_wp2
    go_ret3
    exact ⟨rfl, HP.out, Fr.refl _ _ _⟩
  · have hlt' : d.i < t.size := by omega
    have hb := bt_eq t d.i hlt'
    by_cases h91 : bt t d.i = 91
    · have hsz : (t.extract d.i t.size).size = t.size - d.i := by rw [ByteArray.size_extract]; omega
      have ht2 : t.size ≤ 35184372088832 := ht
      have CP := fun W => parseArgNumber_any (t.extract d.i t.size) W (by omega)
      have hle := panM_le (t.extract d.i t.size)
      rw [hsz] at hle
      obtain ⟨r, hr⟩ : ∃ r, r = panM (t.extract d.i t.size) := ⟨_, rfl⟩
      have hx : idxD t n d = if r.2.2 = true ∧ 0 ≤ r.1 ∧ r.1 < n then ⟨{ d.s with reord := true }, d.i + r.2.1, r.1.toNat, true⟩ else ⟨{ d.s with reord := true, good := false }, d.i + r.2.1, d.k, r.2.2⟩ := by
        unfold idxD
        rw [if_neg (by intro h; rcases h with h | h; exact hlt h; exact h h91)]
        rw [← hr]
      rw [← hr] at CP hle
      rw [h91] at hb
      obtain ⟨r1, r2, r3⟩ := r
      simp only at hx hle CP
      have HC := Lib.hid CP
      have c81 := h.c81
      have c82 := h.c82
      have f81 := h.frz 81
      have f82 := h.frz 82
      have HP := Lib.hid h
      obtain ⟨g1, g2, g3, g4⟩ := hle
      have g2' : r2 ≤ t.size - d.i := by omega
      by_cases hok : r3 = true ∧ 0 ≤ r1 ∧ r1 < n
      · rw [if_pos hok] at hx
        rw [hx]
        obtain ⟨rfl, q1, q2⟩ := hok
        obtain ⟨m, rfl⟩ := Int.eq_ofNat_of_zero_le q1
        clear hx CP hr h h91 g2 g3 g4 hsz
        go_enter Tryz.func79, Tryz.ntmps79
        go_wp2_with (go_at_call 99; refine (HC.out _).mono ?_; rintro e w' ⟨rfl, rfl⟩)
        go_ret3
        exact ⟨by simp, HP.out.setReord true, (Fr.refl _ _ _).setB _ _⟩
      · rw [if_neg hok] at hx
        rw [hx]
        clear hx CP hr h h91 g2 hsz
        have HF : PP b ((w.setCell ⟨b, 81, none⟩ (.bool true)).setCell ⟨b, 82, none⟩ (.bool false)) { d.s with reord := true, good := false } v ib := (HP.out.setReord true).setGood false
        have HF := Lib.hid HF
        cases r3 with
        | false =>
          clear hok
          go_enter Tryz.func79, Tryz.ntmps79
          go_wp2_with (go_at_call 99; refine (HC.out _).mono ?_; rintro e w' ⟨rfl, rfl⟩)
          go_ret3
          exact ⟨by simp, HF.out, ((Fr.refl _ _ _).setB _ _).setB _ _⟩
        | true =>
          by_cases q1 : 0 ≤ r1
          · have q2 : ¬ r1 < n := fun h => hok ⟨rfl, q1, h⟩
            clear hok
            go_enter Tryz.func79, Tryz.ntmps79
            go_wp2_with (go_at_call 99; refine (HC.out _).mono ?_; rintro e w' ⟨rfl, rfl⟩)
            go_ret3
            exact ⟨by simp, HF.out, ((Fr.refl _ _ _).setB _ _).setB _ _⟩
          · have q1' : r1 < 0 := by omega
            clear hok q1
            go_enter Tryz.func79, Tryz.ntmps79
            go_wp2_with (go_at_call 99; refine (HC.out _).mono ?_; rintro e w' ⟨rfl, rfl⟩)
            go_ret3
            exact ⟨by simp, HF.out, ((Fr.refl _ _ _).setB _ _).setB _ _⟩
    · have hr : idxD t n d = { d with af := false } := by unfold idxD; rw [if_pos (.inr h91)]
      rw [hr]
      have HP := Lib.hid h
      clear hr h
      go_enter Tryz.func79, Tryz.ntmps79
      go_wp2
      go_ret3
      exact ⟨rfl, HP.out, Fr.refl _ _ _⟩

set_option maxRecDepth 100000 in
set_option maxHeartbeats 1000000 in
theorem tname_4 (v : Value) (w : World) : Calls Tryz.prog 86 #[.iface 4 v] w fun e w' => e = .returned (.string ⟨(lit "bool").toArray⟩) ∧ w = w' := by
  have hn : ByteArray.mk (lit "bool").toArray = ⟨#[98, 111, 111, 108]⟩ := by decide +kernel
  rw [hn]
  clear hn
  have q4 := ta_4_4
  go_enter Tryz.func86, Tryz.ntmps86
  go_wp2
  go_ret
  exact ⟨rfl, rfl⟩

set_option maxRecDepth 100000 in
set_option maxHeartbeats 1000000 in
theorem tname_3 (v : Value) (w : World) : Calls Tryz.prog 86 #[.iface 3 v] w fun e w' => e = .returned (.string ⟨(lit "int").toArray⟩) ∧ w = w' := by
  have hn : ByteArray.mk (lit "int").toArray = ⟨#[105, 110, 116]⟩ := by decide +kernel
  rw [hn]
  clear hn
  have q4 := ta_3_4
  have q3 := ta_3_3
  go_enter Tryz.func86, Tryz.ntmps86
  go_wp2
  go_ret
  exact ⟨rfl, rfl⟩

set_option maxRecDepth 100000 in
set_option maxHeartbeats 1000000 in
theorem tname_83 (v : Value) (w : World) : Calls Tryz.prog 86 #[.iface 83 v] w fun e w' => e = .returned (.string ⟨(lit "int8").toArray⟩) ∧ w = w' := by
  have hn : ByteArray.mk (lit "int8").toArray = ⟨#[105, 110, 116, 56]⟩ := by decide +kernel
  rw [hn]
  clear hn
  have q4 := ta_83_4
  have q3 := ta_83_3
  have q83 := ta_83_83
  go_enter Tryz.func86, Tryz.ntmps86
  go_wp2
  go_ret
  exact ⟨rfl, rfl⟩

set_option maxRecDepth 100000 in
set_option maxHeartbeats 1000000 in
theorem tname_84 (v : Value) (w : World) : Calls Tryz.prog 86 #[.iface 84 v] w fun e w' => e = .returned (.string ⟨(lit "int16").toArray⟩) ∧ w = w' := by
  have hn : ByteArray.mk (lit "int16").toArray = ⟨#[105, 110, 116, 49, 54]⟩ := by decide +kernel
  rw [hn]
  clear hn
  have q4 := ta_84_4
  have q3 := ta_84_3
  have q83 := ta_84_83
  have q84 := ta_84_84
  go_enter Tryz.func86, Tryz.ntmps86
  go_wp2
  go_ret
  exact ⟨rfl, rfl⟩

set_option maxRecDepth 100000 in
set_option maxHeartbeats 1000000 in
theorem tname_21 (v : Value) (w : World) : Calls Tryz.prog 86 #[.iface 21 v] w fun e w' => e = .returned (.string ⟨(lit "int32").toArray⟩) ∧ w = w' := by
  have hn : ByteArray.mk (lit "int32").toArray = ⟨#[105, 110, 116, 51, 50]⟩ := by decide +kernel
  rw [hn]
  clear hn
  have q4 := ta_21_4
  have q3 := ta_21_3
  have q83 := ta_21_83
  have q84 := ta_21_84
  have q21 := ta_21_21
  go_enter Tryz.func86, Tryz.ntmps86
  go_wp2
  go_ret
  exact ⟨rfl, rfl⟩

set_option maxRecDepth 100000 in
set_option maxHeartbeats 1000000 in
theorem tname_2 (v : Value) (w : World) : Calls Tryz.prog 86 #[.iface 2 v] w fun e w' => e = .returned (.string ⟨(lit "int64").toArray⟩) ∧ w = w' := by
  have hn : ByteArray.mk (lit "int64").toArray = ⟨#[105, 110, 116, 54, 52]⟩ := by decide +kernel
  rw [hn]
  clear hn
  have q4 := ta_2_4
  have q3 := ta_2_3
  have q83 := ta_2_83
  have q84 := ta_2_84
  have q21 := ta_2_21
  have q2 := ta_2_2
  go_enter Tryz.func86, Tryz.ntmps86
  go_wp2
  go_ret
  exact ⟨rfl, rfl⟩

set_option maxRecDepth 100000 in
set_option maxHeartbeats 1000000 in
theorem tname_88 (v : Value) (w : World) : Calls Tryz.prog 86 #[.iface 88 v] w fun e w' => e = .returned (.string ⟨(lit "uint").toArray⟩) ∧ w = w' := by
  have hn : ByteArray.mk (lit "uint").toArray = ⟨#[117, 105, 110, 116]⟩ := by decide +kernel
  rw [hn]
  clear hn
  have q4 := ta_88_4
  have q3 := ta_88_3
  have q83 := ta_88_83
  have q84 := ta_88_84
  have q21 := ta_88_21
  have q2 := ta_88_2
  have q88 := ta_88_88
  go_enter Tryz.func86, Tryz.ntmps86
  go_wp2
  go_ret
  exact ⟨rfl, rfl⟩

set_option maxRecDepth 100000 in
set_option maxHeartbeats 1000000 in
theorem tname_5 (v : Value) (w : World) : Calls Tryz.prog 86 #[.iface 5 v] w fun e w' => e = .returned (.string ⟨(lit "uint8").toArray⟩) ∧ w = w' := by
  have hn : ByteArray.mk (lit "uint8").toArray = ⟨#[117, 105, 110, 116, 56]⟩ := by decide +kernel
  rw [hn]
  clear hn
  have q4 := ta_5_4
  have q3 := ta_5_3
  have q83 := ta_5_83
  have q84 := ta_5_84
  have q21 := ta_5_21
  have q2 := ta_5_2
  have q88 := ta_5_88
  have q5 := ta_5_5
  go_enter Tryz.func86, Tryz.ntmps86
  go_wp2
  go_ret
  exact ⟨rfl, rfl⟩

set_option maxRecDepth 100000 in
set_option maxHeartbeats 1000000 in
theorem tname_156 (v : Value) (w : World) : Calls Tryz.prog 86 #[.iface 156 v] w fun e w' => e = .returned (.string ⟨(lit "uint16").toArray⟩) ∧ w = w' := by
  have hn : ByteArray.mk (lit "uint16").toArray = ⟨#[117, 105, 110, 116, 49, 54]⟩ := by decide +kernel
  rw [hn]
  clear hn
  have q4 := ta_156_4
  have q3 := ta_156_3
  have q83 := ta_156_83
  have q84 := ta_156_84
  have q21 := ta_156_21
  have q2 := ta_156_2
  have q88 := ta_156_88
  have q5 := ta_156_5
  have q156 := ta_156_156
  go_enter Tryz.func86, Tryz.ntmps86
  go_wp2
  go_ret
  exact ⟨rfl, rfl⟩

set_option maxRecDepth 100000 in
set_option maxHeartbeats 1000000 in
theorem tname_53 (v : Value) (w : World) : Calls Tryz.prog 86 #[.iface 53 v] w fun e w' => e = .returned (.string ⟨(lit "uint32").toArray⟩) ∧ w = w' := by
  have hn : ByteArray.mk (lit "uint32").toArray = ⟨#[117, 105, 110, 116, 51, 50]⟩ := by decide +kernel
  rw [hn]
  clear hn
  have q4 := ta_53_4
  have q3 := ta_53_3
  have q83 := ta_53_83
  have q84 := ta_53_84
  have q21 := ta_53_21
  have q2 := ta_53_2
  have q88 := ta_53_88
  have q5 := ta_53_5
  have q156 := ta_53_156
  have q53 := ta_53_53
  go_enter Tryz.func86, Tryz.ntmps86
  go_wp2
  go_ret
  exact ⟨rfl, rfl⟩

set_option maxRecDepth 100000 in
set_option maxHeartbeats 1000000 in
theorem tname_22 (v : Value) (w : World) : Calls Tryz.prog 86 #[.iface 22 v] w fun e w' => e = .returned (.string ⟨(lit "uint64").toArray⟩) ∧ w = w' := by
  have hn : ByteArray.mk (lit "uint64").toArray = ⟨#[117, 105, 110, 116, 54, 52]⟩ := by decide +kernel
  rw [hn]
  clear hn
  have q4 := ta_22_4
  have q3 := ta_22_3
  have q83 := ta_22_83
  have q84 := ta_22_84
  have q21 := ta_22_21
  have q2 := ta_22_2
  have q88 := ta_22_88
  have q5 := ta_22_5
  have q156 := ta_22_156
  have q53 := ta_22_53
  have q22 := ta_22_22
  go_enter Tryz.func86, Tryz.ntmps86
  go_wp2
  go_ret
  exact ⟨rfl, rfl⟩

set_option maxRecDepth 100000 in
set_option maxHeartbeats 1000000 in
theorem tname_12 (v : Value) (w : World) : Calls Tryz.prog 86 #[.iface 12 v] w fun e w' => e = .returned (.string ⟨(lit "uintptr").toArray⟩) ∧ w = w' := by
  have hn : ByteArray.mk (lit "uintptr").toArray = ⟨#[117, 105, 110, 116, 112, 116, 114]⟩ := by decide +kernel
  rw [hn]
  clear hn
  have q4 := ta_12_4
  have q3 := ta_12_3
  have q83 := ta_12_83
  have q84 := ta_12_84
  have q21 := ta_12_21
  have q2 := ta_12_2
  have q88 := ta_12_88
  have q5 := ta_12_5
  have q156 := ta_12_156
  have q53 := ta_12_53
  have q22 := ta_12_22
  have q12 := ta_12_12
  go_enter Tryz.func86, Tryz.ntmps86
  go_wp2
  go_ret
  exact ⟨rfl, rfl⟩

set_option maxRecDepth 100000 in
set_option maxHeartbeats 1000000 in
theorem tname_149 (v : Value) (w : World) : Calls Tryz.prog 86 #[.iface 149 v] w fun e w' => e = .returned (.string ⟨(lit "float32").toArray⟩) ∧ w = w' := by
  have hn : ByteArray.mk (lit "float32").toArray = ⟨#[102, 108, 111, 97, 116, 51, 50]⟩ := by decide +kernel
  rw [hn]
  clear hn
  have q4 := ta_149_4
  have q3 := ta_149_3
  have q83 := ta_149_83
  have q84 := ta_149_84
  have q21 := ta_149_21
  have q2 := ta_149_2
  have q88 := ta_149_88
  have q5 := ta_149_5
  have q156 := ta_149_156
  have q53 := ta_149_53
  have q22 := ta_149_22
  have q12 := ta_149_12
  have q149 := ta_149_149
  go_enter Tryz.func86, Tryz.ntmps86
  go_wp2
  go_ret
  exact ⟨rfl, rfl⟩

set_option maxRecDepth 100000 in
set_option maxHeartbeats 1000000 in
theorem tname_151 (v : Value) (w : World) : Calls Tryz.prog 86 #[.iface 151 v] w fun e w' => e = .returned (.string ⟨(lit "float64").toArray⟩) ∧ w = w' := by
  have hn : ByteArray.mk (lit "float64").toArray = ⟨#[102, 108, 111, 97, 116, 54, 52]⟩ := by decide +kernel
  rw [hn]
  clear hn
  have q4 := ta_151_4
  have q3 := ta_151_3
  have q83 := ta_151_83
  have q84 := ta_151_84
  have q21 := ta_151_21
  have q2 := ta_151_2
  have q88 := ta_151_88
  have q5 := ta_151_5
  have q156 := ta_151_156
  have q53 := ta_151_53
  have q22 := ta_151_22
  have q12 := ta_151_12
  have q149 := ta_151_149
  have q151 := ta_151_151
  go_enter Tryz.func86, Tryz.ntmps86
  go_wp2
  go_ret
  exact ⟨rfl, rfl⟩

set_option maxRecDepth 100000 in
set_option maxHeartbeats 1000000 in
theorem tname_9 (v : Value) (w : World) : Calls Tryz.prog 86 #[.iface 9 v] w fun e w' => e = .returned (.string ⟨(lit "string").toArray⟩) ∧ w = w' := by
  have hn : ByteArray.mk (lit "string").toArray = ⟨#[115, 116, 114, 105, 110, 103]⟩ := by decide +kernel
  rw [hn]
  clear hn
  have q4 := ta_9_4
  have q3 := ta_9_3
  have q83 := ta_9_83
  have q84 := ta_9_84
  have q21 := ta_9_21
  have q2 := ta_9_2
  have q88 := ta_9_88
  have q5 := ta_9_5
  have q156 := ta_9_156
  have q53 := ta_9_53
  have q22 := ta_9_22
  have q12 := ta_9_12
  have q149 := ta_9_149
  have q151 := ta_9_151
  have q152 := ta_9_152
  have q154 := ta_9_154
  have q9 := ta_9_9
  go_enter Tryz.func86, Tryz.ntmps86
  go_wp2
  go_ret
  exact ⟨rfl, rfl⟩

set_option maxRecDepth 100000 in
set_option maxHeartbeats 1000000 in
theorem tname_26 (v : Value) (w : World) : Calls Tryz.prog 86 #[.iface 26 v] w fun e w' => e = .returned (.string ⟨(lit "[]uint8").toArray⟩) ∧ w = w' := by
  have hn : ByteArray.mk (lit "[]uint8").toArray = ⟨#[91, 93, 117, 105, 110, 116, 56]⟩ := by decide +kernel
  rw [hn]
  clear hn
  have q4 := ta_26_4
  have q3 := ta_26_3
  have q83 := ta_26_83
  have q84 := ta_26_84
  have q21 := ta_26_21
  have q2 := ta_26_2
  have q88 := ta_26_88
  have q5 := ta_26_5
  have q156 := ta_26_156
  have q53 := ta_26_53
  have q22 := ta_26_22
  have q12 := ta_26_12
  have q149 := ta_26_149
  have q151 := ta_26_151
  have q152 := ta_26_152
  have q154 := ta_26_154
  have q9 := ta_26_9
  have q26 := ta_26_26
  go_enter Tryz.func86, Tryz.ntmps86
  go_wp2
  go_ret
  exact ⟨rfl, rfl⟩

set_option maxRecDepth 100000 in
set_option maxHeartbeats 1000000 in
theorem tname_164 (v : Value) (w : World) : Calls Tryz.prog 86 #[.iface 164 v] w fun e w' => e = .returned (.string ⟨(lit "fmtprint.textError").toArray⟩) ∧ w = w' := by
  have hn : ByteArray.mk (lit "fmtprint.textError").toArray = ⟨#[102, 109, 116, 112, 114, 105, 110, 116, 46, 116, 101, 120, 116, 69, 114, 114, 111, 114]⟩ := by decide +kernel
  rw [hn]
  clear hn
  have q4 := ta_164_4
  have q3 := ta_164_3
  have q83 := ta_164_83
  have q84 := ta_164_84
  have q21 := ta_164_21
  have q2 := ta_164_2
  have q88 := ta_164_88
  have q5 := ta_164_5
  have q156 := ta_164_156
  have q53 := ta_164_53
  have q22 := ta_164_22
  have q12 := ta_164_12
  have q149 := ta_164_149
  have q151 := ta_164_151
  have q152 := ta_164_152
  have q154 := ta_164_154
  have q9 := ta_164_9
  have q26 := ta_164_26
  have q164 := ta_164_164
  go_enter Tryz.func86, Tryz.ntmps86
  go_wp2
  go_ret
  exact ⟨rfl, rfl⟩

set_option maxRecDepth 100000 in
set_option maxHeartbeats 1000000 in
theorem tname_165 (v : Value) (w : World) : Calls Tryz.prog 86 #[.iface 165 v] w fun e w' => e = .returned (.string ⟨(lit "fmtprint.textStringer").toArray⟩) ∧ w = w' := by
  have hn : ByteArray.mk (lit "fmtprint.textStringer").toArray = ⟨#[102, 109, 116, 112, 114, 105, 110, 116, 46, 116, 101, 120, 116, 83, 116, 114, 105, 110, 103, 101, 114]⟩ := by decide +kernel
  rw [hn]
  clear hn
  have q4 := ta_165_4
  have q3 := ta_165_3
  have q83 := ta_165_83
  have q84 := ta_165_84
  have q21 := ta_165_21
  have q2 := ta_165_2
  have q88 := ta_165_88
  have q5 := ta_165_5
  have q156 := ta_165_156
  have q53 := ta_165_53
  have q22 := ta_165_22
  have q12 := ta_165_12
  have q149 := ta_165_149
  have q151 := ta_165_151
  have q152 := ta_165_152
  have q154 := ta_165_154
  have q9 := ta_165_9
  have q26 := ta_165_26
  have q164 := ta_165_164
  have q165 := ta_165_165
  go_enter Tryz.func86, Tryz.ntmps86
  go_wp2
  go_ret
  exact ⟨rfl, rfl⟩

theorem typeName_any {b : Nat} {w : World} {v x : Value} {a : Arg} (h : ArgIs b w v x a) (hn : a ≠ .nil) (W : World) : Calls Tryz.prog 86 #[x] W fun e w' => e = .returned (.string ⟨a.name.toArray⟩) ∧ W = w' := by
  cases a with
  | nil => exact absurd rfl hn
  | bool y => cases h; exact tname_4 _ W
  | f32 y => obtain ⟨rfl, _⟩ := h; exact tname_149 _ W
  | f64 y => obtain ⟨rfl, _⟩ := h; exact tname_151 _ W
  | str y => cases h; exact tname_9 _ W
  | bytes y => obtain ⟨u, rfl, _⟩ := h; exact tname_26 _ W
  | err y => cases h; exact tname_164 _ W
  | strg y => cases h; exact tname_165 _ W
  | int ty k n =>
    obtain ⟨rfl, ⟨nm, hm⟩, h1, h2⟩ := h
    simp only [intTypes, List.mem_cons, Prod.mk.injEq, List.not_mem_nil, or_false] at hm
    rcases hm with ⟨rfl, rfl, _⟩ | ⟨rfl, rfl, _⟩ | ⟨rfl, rfl, _⟩ | ⟨rfl, rfl, _⟩ | ⟨rfl, rfl, _⟩ | ⟨rfl, rfl, _⟩ | ⟨rfl, rfl, _⟩ | ⟨rfl, rfl, _⟩ | ⟨rfl, rfl, _⟩ | ⟨rfl, rfl, _⟩ | ⟨rfl, rfl, _⟩
    · exact tname_3 _ W
    · exact tname_83 _ W
    · exact tname_84 _ W
    · exact tname_21 _ W
    · exact tname_2 _ W
    · exact tname_88 _ W
    · exact tname_5 _ W
    · exact tname_156 _ W
    · exact tname_53 _ W
    · exact tname_22 _ W
    · exact tname_12 _ W

end Go.Proofs.YtcbliojofnigdaaGreatDoor
