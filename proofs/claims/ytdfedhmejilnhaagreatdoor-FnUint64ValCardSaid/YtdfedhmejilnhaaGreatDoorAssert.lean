/- Type assertions of the package's values: it proves what each answers, by the program's own tables. No conditions. -/
import Derived.Test.YtdfedhmejilnhaaGreatDoorProg
import Derived.WalkKit
namespace Go.Proofs.YtdfedhmejilnhaaGreatDoor

@[go_sem] theorem assert_int64Val_int64Val (v : Value) (w : World) : (Instr.typeAssert (.iface 59 v) 51 59 true).run Tryz.prog w = .ok (.tuple #[v, .bool true]) w := by kernel_rfl
@[go_sem] theorem assert_int64Val_intVal (v : Value) (w : World) : (Instr.typeAssert (.iface 59 v) 51 62 true).run Tryz.prog w = .ok (.tuple #[.agg #[.pointer none], .bool false]) w := by kernel_rfl
@[go_sem] theorem assert_int64Val_ratVal (v : Value) (w : World) : (Instr.typeAssert (.iface 59 v) 51 73 true).run Tryz.prog w = .ok (.tuple #[.agg #[.pointer none], .bool false]) w := by kernel_rfl
@[go_sem] theorem assert_int64Val_floatVal (v : Value) (w : World) : (Instr.typeAssert (.iface 59 v) 51 76 true).run Tryz.prog w = .ok (.tuple #[.agg #[.pointer none], .bool false]) w := by kernel_rfl
@[go_sem] theorem assert_int64Val_complexVal (v : Value) (w : World) : (Instr.typeAssert (.iface 59 v) 51 78 true).run Tryz.prog w = .ok (.tuple #[.agg #[.nilIface, .nilIface], .bool false]) w := by kernel_rfl
@[go_sem] theorem assert_int64Val_unknownVal (v : Value) (w : World) : (Instr.typeAssert (.iface 59 v) 51 66 true).run Tryz.prog w = .ok (.tuple #[.agg #[], .bool false]) w := by kernel_rfl
@[go_sem] theorem assert_int64Val_boolVal (v : Value) (w : World) : (Instr.typeAssert (.iface 59 v) 51 89 true).run Tryz.prog w = .ok (.tuple #[.bool false, .bool false]) w := by kernel_rfl
@[go_sem] theorem assert_int64Val_stringVal (v : Value) (w : World) : (Instr.typeAssert (.iface 59 v) 51 90 true).run Tryz.prog w = .ok (.tuple #[.pointer none, .bool false]) w := by kernel_rfl
@[go_sem] theorem assert_intVal_int64Val (v : Value) (w : World) : (Instr.typeAssert (.iface 62 v) 51 59 true).run Tryz.prog w = .ok (.tuple #[.int .i64 0, .bool false]) w := by kernel_rfl
@[go_sem] theorem assert_intVal_intVal (v : Value) (w : World) : (Instr.typeAssert (.iface 62 v) 51 62 true).run Tryz.prog w = .ok (.tuple #[v, .bool true]) w := by kernel_rfl
@[go_sem] theorem assert_intVal_ratVal (v : Value) (w : World) : (Instr.typeAssert (.iface 62 v) 51 73 true).run Tryz.prog w = .ok (.tuple #[.agg #[.pointer none], .bool false]) w := by kernel_rfl
@[go_sem] theorem assert_intVal_floatVal (v : Value) (w : World) : (Instr.typeAssert (.iface 62 v) 51 76 true).run Tryz.prog w = .ok (.tuple #[.agg #[.pointer none], .bool false]) w := by kernel_rfl
@[go_sem] theorem assert_intVal_complexVal (v : Value) (w : World) : (Instr.typeAssert (.iface 62 v) 51 78 true).run Tryz.prog w = .ok (.tuple #[.agg #[.nilIface, .nilIface], .bool false]) w := by kernel_rfl
@[go_sem] theorem assert_intVal_unknownVal (v : Value) (w : World) : (Instr.typeAssert (.iface 62 v) 51 66 true).run Tryz.prog w = .ok (.tuple #[.agg #[], .bool false]) w := by kernel_rfl
@[go_sem] theorem assert_intVal_boolVal (v : Value) (w : World) : (Instr.typeAssert (.iface 62 v) 51 89 true).run Tryz.prog w = .ok (.tuple #[.bool false, .bool false]) w := by kernel_rfl
@[go_sem] theorem assert_intVal_stringVal (v : Value) (w : World) : (Instr.typeAssert (.iface 62 v) 51 90 true).run Tryz.prog w = .ok (.tuple #[.pointer none, .bool false]) w := by kernel_rfl
@[go_sem] theorem assert_ratVal_int64Val (v : Value) (w : World) : (Instr.typeAssert (.iface 73 v) 51 59 true).run Tryz.prog w = .ok (.tuple #[.int .i64 0, .bool false]) w := by kernel_rfl
@[go_sem] theorem assert_ratVal_intVal (v : Value) (w : World) : (Instr.typeAssert (.iface 73 v) 51 62 true).run Tryz.prog w = .ok (.tuple #[.agg #[.pointer none], .bool false]) w := by kernel_rfl
@[go_sem] theorem assert_ratVal_ratVal (v : Value) (w : World) : (Instr.typeAssert (.iface 73 v) 51 73 true).run Tryz.prog w = .ok (.tuple #[v, .bool true]) w := by kernel_rfl
@[go_sem] theorem assert_ratVal_floatVal (v : Value) (w : World) : (Instr.typeAssert (.iface 73 v) 51 76 true).run Tryz.prog w = .ok (.tuple #[.agg #[.pointer none], .bool false]) w := by kernel_rfl
@[go_sem] theorem assert_ratVal_complexVal (v : Value) (w : World) : (Instr.typeAssert (.iface 73 v) 51 78 true).run Tryz.prog w = .ok (.tuple #[.agg #[.nilIface, .nilIface], .bool false]) w := by kernel_rfl
@[go_sem] theorem assert_ratVal_unknownVal (v : Value) (w : World) : (Instr.typeAssert (.iface 73 v) 51 66 true).run Tryz.prog w = .ok (.tuple #[.agg #[], .bool false]) w := by kernel_rfl
@[go_sem] theorem assert_ratVal_boolVal (v : Value) (w : World) : (Instr.typeAssert (.iface 73 v) 51 89 true).run Tryz.prog w = .ok (.tuple #[.bool false, .bool false]) w := by kernel_rfl
@[go_sem] theorem assert_ratVal_stringVal (v : Value) (w : World) : (Instr.typeAssert (.iface 73 v) 51 90 true).run Tryz.prog w = .ok (.tuple #[.pointer none, .bool false]) w := by kernel_rfl
@[go_sem] theorem assert_floatVal_int64Val (v : Value) (w : World) : (Instr.typeAssert (.iface 76 v) 51 59 true).run Tryz.prog w = .ok (.tuple #[.int .i64 0, .bool false]) w := by kernel_rfl
@[go_sem] theorem assert_floatVal_intVal (v : Value) (w : World) : (Instr.typeAssert (.iface 76 v) 51 62 true).run Tryz.prog w = .ok (.tuple #[.agg #[.pointer none], .bool false]) w := by kernel_rfl
@[go_sem] theorem assert_floatVal_ratVal (v : Value) (w : World) : (Instr.typeAssert (.iface 76 v) 51 73 true).run Tryz.prog w = .ok (.tuple #[.agg #[.pointer none], .bool false]) w := by kernel_rfl
@[go_sem] theorem assert_floatVal_floatVal (v : Value) (w : World) : (Instr.typeAssert (.iface 76 v) 51 76 true).run Tryz.prog w = .ok (.tuple #[v, .bool true]) w := by kernel_rfl
@[go_sem] theorem assert_floatVal_complexVal (v : Value) (w : World) : (Instr.typeAssert (.iface 76 v) 51 78 true).run Tryz.prog w = .ok (.tuple #[.agg #[.nilIface, .nilIface], .bool false]) w := by kernel_rfl
@[go_sem] theorem assert_floatVal_unknownVal (v : Value) (w : World) : (Instr.typeAssert (.iface 76 v) 51 66 true).run Tryz.prog w = .ok (.tuple #[.agg #[], .bool false]) w := by kernel_rfl
@[go_sem] theorem assert_floatVal_boolVal (v : Value) (w : World) : (Instr.typeAssert (.iface 76 v) 51 89 true).run Tryz.prog w = .ok (.tuple #[.bool false, .bool false]) w := by kernel_rfl
@[go_sem] theorem assert_floatVal_stringVal (v : Value) (w : World) : (Instr.typeAssert (.iface 76 v) 51 90 true).run Tryz.prog w = .ok (.tuple #[.pointer none, .bool false]) w := by kernel_rfl
@[go_sem] theorem assert_complexVal_int64Val (v : Value) (w : World) : (Instr.typeAssert (.iface 78 v) 51 59 true).run Tryz.prog w = .ok (.tuple #[.int .i64 0, .bool false]) w := by kernel_rfl
@[go_sem] theorem assert_complexVal_intVal (v : Value) (w : World) : (Instr.typeAssert (.iface 78 v) 51 62 true).run Tryz.prog w = .ok (.tuple #[.agg #[.pointer none], .bool false]) w := by kernel_rfl
@[go_sem] theorem assert_complexVal_ratVal (v : Value) (w : World) : (Instr.typeAssert (.iface 78 v) 51 73 true).run Tryz.prog w = .ok (.tuple #[.agg #[.pointer none], .bool false]) w := by kernel_rfl
@[go_sem] theorem assert_complexVal_floatVal (v : Value) (w : World) : (Instr.typeAssert (.iface 78 v) 51 76 true).run Tryz.prog w = .ok (.tuple #[.agg #[.pointer none], .bool false]) w := by kernel_rfl
@[go_sem] theorem assert_complexVal_complexVal (v : Value) (w : World) : (Instr.typeAssert (.iface 78 v) 51 78 true).run Tryz.prog w = .ok (.tuple #[v, .bool true]) w := by kernel_rfl
@[go_sem] theorem assert_complexVal_unknownVal (v : Value) (w : World) : (Instr.typeAssert (.iface 78 v) 51 66 true).run Tryz.prog w = .ok (.tuple #[.agg #[], .bool false]) w := by kernel_rfl
@[go_sem] theorem assert_complexVal_boolVal (v : Value) (w : World) : (Instr.typeAssert (.iface 78 v) 51 89 true).run Tryz.prog w = .ok (.tuple #[.bool false, .bool false]) w := by kernel_rfl
@[go_sem] theorem assert_complexVal_stringVal (v : Value) (w : World) : (Instr.typeAssert (.iface 78 v) 51 90 true).run Tryz.prog w = .ok (.tuple #[.pointer none, .bool false]) w := by kernel_rfl
@[go_sem] theorem assert_unknownVal_int64Val (v : Value) (w : World) : (Instr.typeAssert (.iface 66 v) 51 59 true).run Tryz.prog w = .ok (.tuple #[.int .i64 0, .bool false]) w := by kernel_rfl
@[go_sem] theorem assert_unknownVal_intVal (v : Value) (w : World) : (Instr.typeAssert (.iface 66 v) 51 62 true).run Tryz.prog w = .ok (.tuple #[.agg #[.pointer none], .bool false]) w := by kernel_rfl
@[go_sem] theorem assert_unknownVal_ratVal (v : Value) (w : World) : (Instr.typeAssert (.iface 66 v) 51 73 true).run Tryz.prog w = .ok (.tuple #[.agg #[.pointer none], .bool false]) w := by kernel_rfl
@[go_sem] theorem assert_unknownVal_floatVal (v : Value) (w : World) : (Instr.typeAssert (.iface 66 v) 51 76 true).run Tryz.prog w = .ok (.tuple #[.agg #[.pointer none], .bool false]) w := by kernel_rfl
@[go_sem] theorem assert_unknownVal_complexVal (v : Value) (w : World) : (Instr.typeAssert (.iface 66 v) 51 78 true).run Tryz.prog w = .ok (.tuple #[.agg #[.nilIface, .nilIface], .bool false]) w := by kernel_rfl
@[go_sem] theorem assert_unknownVal_unknownVal (v : Value) (w : World) : (Instr.typeAssert (.iface 66 v) 51 66 true).run Tryz.prog w = .ok (.tuple #[v, .bool true]) w := by kernel_rfl
@[go_sem] theorem assert_unknownVal_boolVal (v : Value) (w : World) : (Instr.typeAssert (.iface 66 v) 51 89 true).run Tryz.prog w = .ok (.tuple #[.bool false, .bool false]) w := by kernel_rfl
@[go_sem] theorem assert_unknownVal_stringVal (v : Value) (w : World) : (Instr.typeAssert (.iface 66 v) 51 90 true).run Tryz.prog w = .ok (.tuple #[.pointer none, .bool false]) w := by kernel_rfl
@[go_sem] theorem assert_boolVal_int64Val (v : Value) (w : World) : (Instr.typeAssert (.iface 89 v) 51 59 true).run Tryz.prog w = .ok (.tuple #[.int .i64 0, .bool false]) w := by kernel_rfl
@[go_sem] theorem assert_boolVal_intVal (v : Value) (w : World) : (Instr.typeAssert (.iface 89 v) 51 62 true).run Tryz.prog w = .ok (.tuple #[.agg #[.pointer none], .bool false]) w := by kernel_rfl
@[go_sem] theorem assert_boolVal_ratVal (v : Value) (w : World) : (Instr.typeAssert (.iface 89 v) 51 73 true).run Tryz.prog w = .ok (.tuple #[.agg #[.pointer none], .bool false]) w := by kernel_rfl
@[go_sem] theorem assert_boolVal_floatVal (v : Value) (w : World) : (Instr.typeAssert (.iface 89 v) 51 76 true).run Tryz.prog w = .ok (.tuple #[.agg #[.pointer none], .bool false]) w := by kernel_rfl
@[go_sem] theorem assert_boolVal_complexVal (v : Value) (w : World) : (Instr.typeAssert (.iface 89 v) 51 78 true).run Tryz.prog w = .ok (.tuple #[.agg #[.nilIface, .nilIface], .bool false]) w := by kernel_rfl
@[go_sem] theorem assert_boolVal_unknownVal (v : Value) (w : World) : (Instr.typeAssert (.iface 89 v) 51 66 true).run Tryz.prog w = .ok (.tuple #[.agg #[], .bool false]) w := by kernel_rfl
@[go_sem] theorem assert_boolVal_boolVal (v : Value) (w : World) : (Instr.typeAssert (.iface 89 v) 51 89 true).run Tryz.prog w = .ok (.tuple #[v, .bool true]) w := by kernel_rfl
@[go_sem] theorem assert_boolVal_stringVal (v : Value) (w : World) : (Instr.typeAssert (.iface 89 v) 51 90 true).run Tryz.prog w = .ok (.tuple #[.pointer none, .bool false]) w := by kernel_rfl
@[go_sem] theorem assert_stringVal_int64Val (v : Value) (w : World) : (Instr.typeAssert (.iface 90 v) 51 59 true).run Tryz.prog w = .ok (.tuple #[.int .i64 0, .bool false]) w := by kernel_rfl
@[go_sem] theorem assert_stringVal_intVal (v : Value) (w : World) : (Instr.typeAssert (.iface 90 v) 51 62 true).run Tryz.prog w = .ok (.tuple #[.agg #[.pointer none], .bool false]) w := by kernel_rfl
@[go_sem] theorem assert_stringVal_ratVal (v : Value) (w : World) : (Instr.typeAssert (.iface 90 v) 51 73 true).run Tryz.prog w = .ok (.tuple #[.agg #[.pointer none], .bool false]) w := by kernel_rfl
@[go_sem] theorem assert_stringVal_floatVal (v : Value) (w : World) : (Instr.typeAssert (.iface 90 v) 51 76 true).run Tryz.prog w = .ok (.tuple #[.agg #[.pointer none], .bool false]) w := by kernel_rfl
@[go_sem] theorem assert_stringVal_complexVal (v : Value) (w : World) : (Instr.typeAssert (.iface 90 v) 51 78 true).run Tryz.prog w = .ok (.tuple #[.agg #[.nilIface, .nilIface], .bool false]) w := by kernel_rfl
@[go_sem] theorem assert_stringVal_unknownVal (v : Value) (w : World) : (Instr.typeAssert (.iface 90 v) 51 66 true).run Tryz.prog w = .ok (.tuple #[.agg #[], .bool false]) w := by kernel_rfl
@[go_sem] theorem assert_stringVal_boolVal (v : Value) (w : World) : (Instr.typeAssert (.iface 90 v) 51 89 true).run Tryz.prog w = .ok (.tuple #[.bool false, .bool false]) w := by kernel_rfl
@[go_sem] theorem assert_stringVal_stringVal (v : Value) (w : World) : (Instr.typeAssert (.iface 90 v) 51 90 true).run Tryz.prog w = .ok (.tuple #[v, .bool true]) w := by kernel_rfl
end Go.Proofs.YtdfedhmejilnhaaGreatDoor
