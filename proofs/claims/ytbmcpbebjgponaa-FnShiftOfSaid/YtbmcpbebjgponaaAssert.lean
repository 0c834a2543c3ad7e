/- Type assertions of the package's values: it proves what each answers, by the program's own tables. No conditions. -/
import Derived.Test.YtbmcpbebjgponaaProg
import Derived.WalkKit
namespace Go.Proofs.Ytbmcpbebjgponaa

@[go_sem] theorem assert_int64Val_int64Val (v : Value) (w : World) : (Instr.typeAssert (.iface 71 v) 52 71 true).run Try.prog w = .ok (.tuple #[v, .bool true]) w := by kernel_rfl
@[go_sem] theorem assert_int64Val_intVal (v : Value) (w : World) : (Instr.typeAssert (.iface 71 v) 52 74 true).run Try.prog w = .ok (.tuple #[.agg #[.pointer none], .bool false]) w := by kernel_rfl
@[go_sem] theorem assert_int64Val_ratVal (v : Value) (w : World) : (Instr.typeAssert (.iface 71 v) 52 78 true).run Try.prog w = .ok (.tuple #[.agg #[.pointer none], .bool false]) w := by kernel_rfl
@[go_sem] theorem assert_int64Val_floatVal (v : Value) (w : World) : (Instr.typeAssert (.iface 71 v) 52 81 true).run Try.prog w = .ok (.tuple #[.agg #[.pointer none], .bool false]) w := by kernel_rfl
@[go_sem] theorem assert_int64Val_complexVal (v : Value) (w : World) : (Instr.typeAssert (.iface 71 v) 52 83 true).run Try.prog w = .ok (.tuple #[.agg #[.nilIface, .nilIface], .bool false]) w := by kernel_rfl
@[go_sem] theorem assert_int64Val_unknownVal (v : Value) (w : World) : (Instr.typeAssert (.iface 71 v) 52 85 true).run Try.prog w = .ok (.tuple #[.agg #[], .bool false]) w := by kernel_rfl
@[go_sem] theorem assert_intVal_int64Val (v : Value) (w : World) : (Instr.typeAssert (.iface 74 v) 52 71 true).run Try.prog w = .ok (.tuple #[.int .i64 0, .bool false]) w := by kernel_rfl
@[go_sem] theorem assert_intVal_intVal (v : Value) (w : World) : (Instr.typeAssert (.iface 74 v) 52 74 true).run Try.prog w = .ok (.tuple #[v, .bool true]) w := by kernel_rfl
@[go_sem] theorem assert_intVal_ratVal (v : Value) (w : World) : (Instr.typeAssert (.iface 74 v) 52 78 true).run Try.prog w = .ok (.tuple #[.agg #[.pointer none], .bool false]) w := by kernel_rfl
@[go_sem] theorem assert_intVal_floatVal (v : Value) (w : World) : (Instr.typeAssert (.iface 74 v) 52 81 true).run Try.prog w = .ok (.tuple #[.agg #[.pointer none], .bool false]) w := by kernel_rfl
@[go_sem] theorem assert_intVal_complexVal (v : Value) (w : World) : (Instr.typeAssert (.iface 74 v) 52 83 true).run Try.prog w = .ok (.tuple #[.agg #[.nilIface, .nilIface], .bool false]) w := by kernel_rfl
@[go_sem] theorem assert_intVal_unknownVal (v : Value) (w : World) : (Instr.typeAssert (.iface 74 v) 52 85 true).run Try.prog w = .ok (.tuple #[.agg #[], .bool false]) w := by kernel_rfl
@[go_sem] theorem assert_ratVal_int64Val (v : Value) (w : World) : (Instr.typeAssert (.iface 78 v) 52 71 true).run Try.prog w = .ok (.tuple #[.int .i64 0, .bool false]) w := by kernel_rfl
@[go_sem] theorem assert_ratVal_intVal (v : Value) (w : World) : (Instr.typeAssert (.iface 78 v) 52 74 true).run Try.prog w = .ok (.tuple #[.agg #[.pointer none], .bool false]) w := by kernel_rfl
@[go_sem] theorem assert_ratVal_ratVal (v : Value) (w : World) : (Instr.typeAssert (.iface 78 v) 52 78 true).run Try.prog w = .ok (.tuple #[v, .bool true]) w := by kernel_rfl
@[go_sem] theorem assert_ratVal_floatVal (v : Value) (w : World) : (Instr.typeAssert (.iface 78 v) 52 81 true).run Try.prog w = .ok (.tuple #[.agg #[.pointer none], .bool false]) w := by kernel_rfl
@[go_sem] theorem assert_ratVal_complexVal (v : Value) (w : World) : (Instr.typeAssert (.iface 78 v) 52 83 true).run Try.prog w = .ok (.tuple #[.agg #[.nilIface, .nilIface], .bool false]) w := by kernel_rfl
@[go_sem] theorem assert_ratVal_unknownVal (v : Value) (w : World) : (Instr.typeAssert (.iface 78 v) 52 85 true).run Try.prog w = .ok (.tuple #[.agg #[], .bool false]) w := by kernel_rfl
@[go_sem] theorem assert_floatVal_int64Val (v : Value) (w : World) : (Instr.typeAssert (.iface 81 v) 52 71 true).run Try.prog w = .ok (.tuple #[.int .i64 0, .bool false]) w := by kernel_rfl
@[go_sem] theorem assert_floatVal_intVal (v : Value) (w : World) : (Instr.typeAssert (.iface 81 v) 52 74 true).run Try.prog w = .ok (.tuple #[.agg #[.pointer none], .bool false]) w := by kernel_rfl
@[go_sem] theorem assert_floatVal_ratVal (v : Value) (w : World) : (Instr.typeAssert (.iface 81 v) 52 78 true).run Try.prog w = .ok (.tuple #[.agg #[.pointer none], .bool false]) w := by kernel_rfl
@[go_sem] theorem assert_floatVal_floatVal (v : Value) (w : World) : (Instr.typeAssert (.iface 81 v) 52 81 true).run Try.prog w = .ok (.tuple #[v, .bool true]) w := by kernel_rfl
@[go_sem] theorem assert_floatVal_complexVal (v : Value) (w : World) : (Instr.typeAssert (.iface 81 v) 52 83 true).run Try.prog w = .ok (.tuple #[.agg #[.nilIface, .nilIface], .bool false]) w := by kernel_rfl
@[go_sem] theorem assert_floatVal_unknownVal (v : Value) (w : World) : (Instr.typeAssert (.iface 81 v) 52 85 true).run Try.prog w = .ok (.tuple #[.agg #[], .bool false]) w := by kernel_rfl
@[go_sem] theorem assert_complexVal_int64Val (v : Value) (w : World) : (Instr.typeAssert (.iface 83 v) 52 71 true).run Try.prog w = .ok (.tuple #[.int .i64 0, .bool false]) w := by kernel_rfl
@[go_sem] theorem assert_complexVal_intVal (v : Value) (w : World) : (Instr.typeAssert (.iface 83 v) 52 74 true).run Try.prog w = .ok (.tuple #[.agg #[.pointer none], .bool false]) w := by kernel_rfl
@[go_sem] theorem assert_complexVal_ratVal (v : Value) (w : World) : (Instr.typeAssert (.iface 83 v) 52 78 true).run Try.prog w = .ok (.tuple #[.agg #[.pointer none], .bool false]) w := by kernel_rfl
@[go_sem] theorem assert_complexVal_floatVal (v : Value) (w : World) : (Instr.typeAssert (.iface 83 v) 52 81 true).run Try.prog w = .ok (.tuple #[.agg #[.pointer none], .bool false]) w := by kernel_rfl
@[go_sem] theorem assert_complexVal_complexVal (v : Value) (w : World) : (Instr.typeAssert (.iface 83 v) 52 83 true).run Try.prog w = .ok (.tuple #[v, .bool true]) w := by kernel_rfl
@[go_sem] theorem assert_complexVal_unknownVal (v : Value) (w : World) : (Instr.typeAssert (.iface 83 v) 52 85 true).run Try.prog w = .ok (.tuple #[.agg #[], .bool false]) w := by kernel_rfl
@[go_sem] theorem assert_unknownVal_int64Val (v : Value) (w : World) : (Instr.typeAssert (.iface 85 v) 52 71 true).run Try.prog w = .ok (.tuple #[.int .i64 0, .bool false]) w := by kernel_rfl
@[go_sem] theorem assert_unknownVal_intVal (v : Value) (w : World) : (Instr.typeAssert (.iface 85 v) 52 74 true).run Try.prog w = .ok (.tuple #[.agg #[.pointer none], .bool false]) w := by kernel_rfl
@[go_sem] theorem assert_unknownVal_ratVal (v : Value) (w : World) : (Instr.typeAssert (.iface 85 v) 52 78 true).run Try.prog w = .ok (.tuple #[.agg #[.pointer none], .bool false]) w := by kernel_rfl
@[go_sem] theorem assert_unknownVal_floatVal (v : Value) (w : World) : (Instr.typeAssert (.iface 85 v) 52 81 true).run Try.prog w = .ok (.tuple #[.agg #[.pointer none], .bool false]) w := by kernel_rfl
@[go_sem] theorem assert_unknownVal_complexVal (v : Value) (w : World) : (Instr.typeAssert (.iface 85 v) 52 83 true).run Try.prog w = .ok (.tuple #[.agg #[.nilIface, .nilIface], .bool false]) w := by kernel_rfl
@[go_sem] theorem assert_unknownVal_unknownVal (v : Value) (w : World) : (Instr.typeAssert (.iface 85 v) 52 85 true).run Try.prog w = .ok (.tuple #[v, .bool true]) w := by kernel_rfl
end Go.Proofs.Ytbmcpbebjgponaa
