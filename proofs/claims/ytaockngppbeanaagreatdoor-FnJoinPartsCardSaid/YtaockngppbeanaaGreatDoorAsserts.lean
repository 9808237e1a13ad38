/- What a type assertion gives, at the types that occur: one closed fact a pair. No condition. -/
import Derived.Test.YtaockngppbeanaaGreatDoorProg
import Derived.WalkKit
import Derived.Stop.Asserts
namespace Go.Proofs.YtaockngppbeanaaGreatDoor
@[go_sem] theorem ta_nil_3 (xT : TypeId) (w : World) : (Instr.typeAssert .nilIface xT 3 true).run Tryz.prog w = .ok (.tuple #[.int .i64 0, .bool false]) w := by kernel_rfl
@[go_sem] theorem ta_3_3 (v : Value) (xT : TypeId) (w : World) : (Instr.typeAssert (.iface 3 v) xT 3 true).run Tryz.prog w = .ok (.tuple #[v, .bool true]) w := by kernel_rfl
@[go_sem] theorem tb_3_3 (v : Value) (xT : TypeId) (w : World) : (Instr.typeAssert (.iface 3 v) xT 3 false).run Tryz.prog w = .ok v w := by kernel_rfl
@[go_sem] theorem ta_4_3 (v : Value) (xT : TypeId) (w : World) : (Instr.typeAssert (.iface 4 v) xT 3 true).run Tryz.prog w = .ok (.tuple #[.int .i64 0, .bool false]) w := by kernel_rfl
@[go_sem] theorem ta_9_3 (v : Value) (xT : TypeId) (w : World) : (Instr.typeAssert (.iface 9 v) xT 3 true).run Tryz.prog w = .ok (.tuple #[.int .i64 0, .bool false]) w := by kernel_rfl
@[go_sem] theorem ta_70_3 (v : Value) (xT : TypeId) (w : World) : (Instr.typeAssert (.iface 70 v) xT 3 true).run Tryz.prog w = .ok (.tuple #[.int .i64 0, .bool false]) w := by kernel_rfl
@[go_sem] theorem ta_71_3 (v : Value) (xT : TypeId) (w : World) : (Instr.typeAssert (.iface 71 v) xT 3 true).run Tryz.prog w = .ok (.tuple #[.int .i64 0, .bool false]) w := by kernel_rfl
@[go_sem] theorem ta_74_3 (v : Value) (xT : TypeId) (w : World) : (Instr.typeAssert (.iface 74 v) xT 3 true).run Tryz.prog w = .ok (.tuple #[.int .i64 0, .bool false]) w := by kernel_rfl
@[go_sem] theorem ta_150_3 (v : Value) (xT : TypeId) (w : World) : (Instr.typeAssert (.iface 150 v) xT 3 true).run Tryz.prog w = .ok (.tuple #[.int .i64 0, .bool false]) w := by kernel_rfl
@[go_sem] theorem ta_nil_4 (xT : TypeId) (w : World) : (Instr.typeAssert .nilIface xT 4 true).run Tryz.prog w = .ok (.tuple #[.bool false, .bool false]) w := by kernel_rfl
@[go_sem] theorem ta_3_4 (v : Value) (xT : TypeId) (w : World) : (Instr.typeAssert (.iface 3 v) xT 4 true).run Tryz.prog w = .ok (.tuple #[.bool false, .bool false]) w := by kernel_rfl
@[go_sem] theorem ta_4_4 (v : Value) (xT : TypeId) (w : World) : (Instr.typeAssert (.iface 4 v) xT 4 true).run Tryz.prog w = .ok (.tuple #[v, .bool true]) w := by kernel_rfl
@[go_sem] theorem tb_4_4 (v : Value) (xT : TypeId) (w : World) : (Instr.typeAssert (.iface 4 v) xT 4 false).run Tryz.prog w = .ok v w := by kernel_rfl
@[go_sem] theorem ta_9_4 (v : Value) (xT : TypeId) (w : World) : (Instr.typeAssert (.iface 9 v) xT 4 true).run Tryz.prog w = .ok (.tuple #[.bool false, .bool false]) w := by kernel_rfl
@[go_sem] theorem ta_70_4 (v : Value) (xT : TypeId) (w : World) : (Instr.typeAssert (.iface 70 v) xT 4 true).run Tryz.prog w = .ok (.tuple #[.bool false, .bool false]) w := by kernel_rfl
@[go_sem] theorem ta_71_4 (v : Value) (xT : TypeId) (w : World) : (Instr.typeAssert (.iface 71 v) xT 4 true).run Tryz.prog w = .ok (.tuple #[.bool false, .bool false]) w := by kernel_rfl
@[go_sem] theorem ta_74_4 (v : Value) (xT : TypeId) (w : World) : (Instr.typeAssert (.iface 74 v) xT 4 true).run Tryz.prog w = .ok (.tuple #[.bool false, .bool false]) w := by kernel_rfl
@[go_sem] theorem ta_150_4 (v : Value) (xT : TypeId) (w : World) : (Instr.typeAssert (.iface 150 v) xT 4 true).run Tryz.prog w = .ok (.tuple #[.bool false, .bool false]) w := by kernel_rfl
@[go_sem] theorem ta_nil_9 (xT : TypeId) (w : World) : (Instr.typeAssert .nilIface xT 9 true).run Tryz.prog w = .ok (.tuple #[.string ⟨#[]⟩, .bool false]) w := by kernel_rfl
@[go_sem] theorem ta_3_9 (v : Value) (xT : TypeId) (w : World) : (Instr.typeAssert (.iface 3 v) xT 9 true).run Tryz.prog w = .ok (.tuple #[.string ⟨#[]⟩, .bool false]) w := by kernel_rfl
@[go_sem] theorem ta_4_9 (v : Value) (xT : TypeId) (w : World) : (Instr.typeAssert (.iface 4 v) xT 9 true).run Tryz.prog w = .ok (.tuple #[.string ⟨#[]⟩, .bool false]) w := by kernel_rfl
@[go_sem] theorem ta_9_9 (v : Value) (xT : TypeId) (w : World) : (Instr.typeAssert (.iface 9 v) xT 9 true).run Tryz.prog w = .ok (.tuple #[v, .bool true]) w := by kernel_rfl
@[go_sem] theorem tb_9_9 (v : Value) (xT : TypeId) (w : World) : (Instr.typeAssert (.iface 9 v) xT 9 false).run Tryz.prog w = .ok v w := by kernel_rfl
@[go_sem] theorem ta_70_9 (v : Value) (xT : TypeId) (w : World) : (Instr.typeAssert (.iface 70 v) xT 9 true).run Tryz.prog w = .ok (.tuple #[.string ⟨#[]⟩, .bool false]) w := by kernel_rfl
@[go_sem] theorem ta_71_9 (v : Value) (xT : TypeId) (w : World) : (Instr.typeAssert (.iface 71 v) xT 9 true).run Tryz.prog w = .ok (.tuple #[.string ⟨#[]⟩, .bool false]) w := by kernel_rfl
@[go_sem] theorem ta_74_9 (v : Value) (xT : TypeId) (w : World) : (Instr.typeAssert (.iface 74 v) xT 9 true).run Tryz.prog w = .ok (.tuple #[.string ⟨#[]⟩, .bool false]) w := by kernel_rfl
@[go_sem] theorem ta_150_9 (v : Value) (xT : TypeId) (w : World) : (Instr.typeAssert (.iface 150 v) xT 9 true).run Tryz.prog w = .ok (.tuple #[.string ⟨#[]⟩, .bool false]) w := by kernel_rfl
@[go_sem] theorem ta_nil_70 (xT : TypeId) (w : World) : (Instr.typeAssert .nilIface xT 70 true).run Tryz.prog w = .ok (.tuple #[.float .f64 0, .bool false]) w := by kernel_rfl
@[go_sem] theorem ta_3_70 (v : Value) (xT : TypeId) (w : World) : (Instr.typeAssert (.iface 3 v) xT 70 true).run Tryz.prog w = .ok (.tuple #[.float .f64 0, .bool false]) w := by kernel_rfl
@[go_sem] theorem ta_4_70 (v : Value) (xT : TypeId) (w : World) : (Instr.typeAssert (.iface 4 v) xT 70 true).run Tryz.prog w = .ok (.tuple #[.float .f64 0, .bool false]) w := by kernel_rfl
@[go_sem] theorem ta_9_70 (v : Value) (xT : TypeId) (w : World) : (Instr.typeAssert (.iface 9 v) xT 70 true).run Tryz.prog w = .ok (.tuple #[.float .f64 0, .bool false]) w := by kernel_rfl
@[go_sem] theorem ta_70_70 (v : Value) (xT : TypeId) (w : World) : (Instr.typeAssert (.iface 70 v) xT 70 true).run Tryz.prog w = .ok (.tuple #[v, .bool true]) w := by kernel_rfl
@[go_sem] theorem tb_70_70 (v : Value) (xT : TypeId) (w : World) : (Instr.typeAssert (.iface 70 v) xT 70 false).run Tryz.prog w = .ok v w := by kernel_rfl
@[go_sem] theorem ta_71_70 (v : Value) (xT : TypeId) (w : World) : (Instr.typeAssert (.iface 71 v) xT 70 true).run Tryz.prog w = .ok (.tuple #[.float .f64 0, .bool false]) w := by kernel_rfl
@[go_sem] theorem ta_74_70 (v : Value) (xT : TypeId) (w : World) : (Instr.typeAssert (.iface 74 v) xT 70 true).run Tryz.prog w = .ok (.tuple #[.float .f64 0, .bool false]) w := by kernel_rfl
@[go_sem] theorem ta_150_70 (v : Value) (xT : TypeId) (w : World) : (Instr.typeAssert (.iface 150 v) xT 70 true).run Tryz.prog w = .ok (.tuple #[.float .f64 0, .bool false]) w := by kernel_rfl
@[go_sem] theorem ta_nil_71 (xT : TypeId) (w : World) : (Instr.typeAssert .nilIface xT 71 true).run Tryz.prog w = .ok (.tuple #[.slice none 0 0, .bool false]) w := by kernel_rfl
@[go_sem] theorem ta_3_71 (v : Value) (xT : TypeId) (w : World) : (Instr.typeAssert (.iface 3 v) xT 71 true).run Tryz.prog w = .ok (.tuple #[.slice none 0 0, .bool false]) w := by kernel_rfl
@[go_sem] theorem ta_4_71 (v : Value) (xT : TypeId) (w : World) : (Instr.typeAssert (.iface 4 v) xT 71 true).run Tryz.prog w = .ok (.tuple #[.slice none 0 0, .bool false]) w := by kernel_rfl
@[go_sem] theorem ta_9_71 (v : Value) (xT : TypeId) (w : World) : (Instr.typeAssert (.iface 9 v) xT 71 true).run Tryz.prog w = .ok (.tuple #[.slice none 0 0, .bool false]) w := by kernel_rfl
@[go_sem] theorem ta_70_71 (v : Value) (xT : TypeId) (w : World) : (Instr.typeAssert (.iface 70 v) xT 71 true).run Tryz.prog w = .ok (.tuple #[.slice none 0 0, .bool false]) w := by kernel_rfl
@[go_sem] theorem ta_71_71 (v : Value) (xT : TypeId) (w : World) : (Instr.typeAssert (.iface 71 v) xT 71 true).run Tryz.prog w = .ok (.tuple #[v, .bool true]) w := by kernel_rfl
@[go_sem] theorem tb_71_71 (v : Value) (xT : TypeId) (w : World) : (Instr.typeAssert (.iface 71 v) xT 71 false).run Tryz.prog w = .ok v w := by kernel_rfl
@[go_sem] theorem ta_74_71 (v : Value) (xT : TypeId) (w : World) : (Instr.typeAssert (.iface 74 v) xT 71 true).run Tryz.prog w = .ok (.tuple #[.slice none 0 0, .bool false]) w := by kernel_rfl
@[go_sem] theorem ta_150_71 (v : Value) (xT : TypeId) (w : World) : (Instr.typeAssert (.iface 150 v) xT 71 true).run Tryz.prog w = .ok (.tuple #[.slice none 0 0, .bool false]) w := by kernel_rfl
@[go_sem] theorem ta_nil_74 (xT : TypeId) (w : World) : (Instr.typeAssert .nilIface xT 74 true).run Tryz.prog w = .ok (.tuple #[.map none, .bool false]) w := by kernel_rfl
@[go_sem] theorem ta_3_74 (v : Value) (xT : TypeId) (w : World) : (Instr.typeAssert (.iface 3 v) xT 74 true).run Tryz.prog w = .ok (.tuple #[.map none, .bool false]) w := by kernel_rfl
@[go_sem] theorem ta_4_74 (v : Value) (xT : TypeId) (w : World) : (Instr.typeAssert (.iface 4 v) xT 74 true).run Tryz.prog w = .ok (.tuple #[.map none, .bool false]) w := by kernel_rfl
@[go_sem] theorem ta_9_74 (v : Value) (xT : TypeId) (w : World) : (Instr.typeAssert (.iface 9 v) xT 74 true).run Tryz.prog w = .ok (.tuple #[.map none, .bool false]) w := by kernel_rfl
@[go_sem] theorem ta_70_74 (v : Value) (xT : TypeId) (w : World) : (Instr.typeAssert (.iface 70 v) xT 74 true).run Tryz.prog w = .ok (.tuple #[.map none, .bool false]) w := by kernel_rfl
@[go_sem] theorem ta_71_74 (v : Value) (xT : TypeId) (w : World) : (Instr.typeAssert (.iface 71 v) xT 74 true).run Tryz.prog w = .ok (.tuple #[.map none, .bool false]) w := by kernel_rfl
@[go_sem] theorem ta_74_74 (v : Value) (xT : TypeId) (w : World) : (Instr.typeAssert (.iface 74 v) xT 74 true).run Tryz.prog w = .ok (.tuple #[v, .bool true]) w := by kernel_rfl
@[go_sem] theorem tb_74_74 (v : Value) (xT : TypeId) (w : World) : (Instr.typeAssert (.iface 74 v) xT 74 false).run Tryz.prog w = .ok v w := by kernel_rfl
@[go_sem] theorem ta_150_74 (v : Value) (xT : TypeId) (w : World) : (Instr.typeAssert (.iface 150 v) xT 74 true).run Tryz.prog w = .ok (.tuple #[.map none, .bool false]) w := by kernel_rfl
@[go_sem] theorem ta_nil_125 (xT : TypeId) (w : World) : (Instr.typeAssert .nilIface xT 125 true).run Tryz.prog w = .ok (.tuple #[.pointer none, .bool false]) w := by kernel_rfl
@[go_sem] theorem ta_3_125 (v : Value) (xT : TypeId) (w : World) : (Instr.typeAssert (.iface 3 v) xT 125 true).run Tryz.prog w = .ok (.tuple #[.pointer none, .bool false]) w := by kernel_rfl
@[go_sem] theorem ta_4_125 (v : Value) (xT : TypeId) (w : World) : (Instr.typeAssert (.iface 4 v) xT 125 true).run Tryz.prog w = .ok (.tuple #[.pointer none, .bool false]) w := by kernel_rfl
@[go_sem] theorem ta_9_125 (v : Value) (xT : TypeId) (w : World) : (Instr.typeAssert (.iface 9 v) xT 125 true).run Tryz.prog w = .ok (.tuple #[.pointer none, .bool false]) w := by kernel_rfl
@[go_sem] theorem ta_70_125 (v : Value) (xT : TypeId) (w : World) : (Instr.typeAssert (.iface 70 v) xT 125 true).run Tryz.prog w = .ok (.tuple #[.pointer none, .bool false]) w := by kernel_rfl
@[go_sem] theorem ta_71_125 (v : Value) (xT : TypeId) (w : World) : (Instr.typeAssert (.iface 71 v) xT 125 true).run Tryz.prog w = .ok (.tuple #[.pointer none, .bool false]) w := by kernel_rfl
@[go_sem] theorem ta_74_125 (v : Value) (xT : TypeId) (w : World) : (Instr.typeAssert (.iface 74 v) xT 125 true).run Tryz.prog w = .ok (.tuple #[.pointer none, .bool false]) w := by kernel_rfl
@[go_sem] theorem ta_150_125 (v : Value) (xT : TypeId) (w : World) : (Instr.typeAssert (.iface 150 v) xT 125 true).run Tryz.prog w = .ok (.tuple #[.pointer none, .bool false]) w := by kernel_rfl
@[go_sem] theorem ta_nil_126 (xT : TypeId) (w : World) : (Instr.typeAssert .nilIface xT 126 true).run Tryz.prog w = .ok (.tuple #[.string ⟨#[]⟩, .bool false]) w := by kernel_rfl
@[go_sem] theorem ta_3_126 (v : Value) (xT : TypeId) (w : World) : (Instr.typeAssert (.iface 3 v) xT 126 true).run Tryz.prog w = .ok (.tuple #[.string ⟨#[]⟩, .bool false]) w := by kernel_rfl
@[go_sem] theorem ta_4_126 (v : Value) (xT : TypeId) (w : World) : (Instr.typeAssert (.iface 4 v) xT 126 true).run Tryz.prog w = .ok (.tuple #[.string ⟨#[]⟩, .bool false]) w := by kernel_rfl
@[go_sem] theorem ta_9_126 (v : Value) (xT : TypeId) (w : World) : (Instr.typeAssert (.iface 9 v) xT 126 true).run Tryz.prog w = .ok (.tuple #[.string ⟨#[]⟩, .bool false]) w := by kernel_rfl
@[go_sem] theorem ta_70_126 (v : Value) (xT : TypeId) (w : World) : (Instr.typeAssert (.iface 70 v) xT 126 true).run Tryz.prog w = .ok (.tuple #[.string ⟨#[]⟩, .bool false]) w := by kernel_rfl
@[go_sem] theorem ta_71_126 (v : Value) (xT : TypeId) (w : World) : (Instr.typeAssert (.iface 71 v) xT 126 true).run Tryz.prog w = .ok (.tuple #[.string ⟨#[]⟩, .bool false]) w := by kernel_rfl
@[go_sem] theorem ta_74_126 (v : Value) (xT : TypeId) (w : World) : (Instr.typeAssert (.iface 74 v) xT 126 true).run Tryz.prog w = .ok (.tuple #[.string ⟨#[]⟩, .bool false]) w := by kernel_rfl
@[go_sem] theorem ta_150_126 (v : Value) (xT : TypeId) (w : World) : (Instr.typeAssert (.iface 150 v) xT 126 true).run Tryz.prog w = .ok (.tuple #[.string ⟨#[]⟩, .bool false]) w := by kernel_rfl
@[go_sem] theorem ta_nil_150 (xT : TypeId) (w : World) : (Instr.typeAssert .nilIface xT 150 true).run Tryz.prog w = .ok (.tuple #[.pointer none, .bool false]) w := by kernel_rfl
@[go_sem] theorem ta_3_150 (v : Value) (xT : TypeId) (w : World) : (Instr.typeAssert (.iface 3 v) xT 150 true).run Tryz.prog w = .ok (.tuple #[.pointer none, .bool false]) w := by kernel_rfl
@[go_sem] theorem ta_4_150 (v : Value) (xT : TypeId) (w : World) : (Instr.typeAssert (.iface 4 v) xT 150 true).run Tryz.prog w = .ok (.tuple #[.pointer none, .bool false]) w := by kernel_rfl
@[go_sem] theorem ta_9_150 (v : Value) (xT : TypeId) (w : World) : (Instr.typeAssert (.iface 9 v) xT 150 true).run Tryz.prog w = .ok (.tuple #[.pointer none, .bool false]) w := by kernel_rfl
@[go_sem] theorem ta_70_150 (v : Value) (xT : TypeId) (w : World) : (Instr.typeAssert (.iface 70 v) xT 150 true).run Tryz.prog w = .ok (.tuple #[.pointer none, .bool false]) w := by kernel_rfl
@[go_sem] theorem ta_71_150 (v : Value) (xT : TypeId) (w : World) : (Instr.typeAssert (.iface 71 v) xT 150 true).run Tryz.prog w = .ok (.tuple #[.pointer none, .bool false]) w := by kernel_rfl
@[go_sem] theorem ta_74_150 (v : Value) (xT : TypeId) (w : World) : (Instr.typeAssert (.iface 74 v) xT 150 true).run Tryz.prog w = .ok (.tuple #[.pointer none, .bool false]) w := by kernel_rfl
@[go_sem] theorem ta_150_150 (v : Value) (xT : TypeId) (w : World) : (Instr.typeAssert (.iface 150 v) xT 150 true).run Tryz.prog w = .ok (.tuple #[v, .bool true]) w := by kernel_rfl
@[go_sem] theorem tb_150_150 (v : Value) (xT : TypeId) (w : World) : (Instr.typeAssert (.iface 150 v) xT 150 false).run Tryz.prog w = .ok v w := by kernel_rfl
@[go_sem] theorem ta_nil_78 (xT : TypeId) (w : World) : (Instr.typeAssert .nilIface xT 78 true).run Tryz.prog w = .ok (.tuple #[.nilIface, .bool false]) w := by kernel_rfl
@[go_sem] theorem ta_3_78 (v : Value) (xT : TypeId) (w : World) : (Instr.typeAssert (.iface 3 v) xT 78 true).run Tryz.prog w = .ok (.tuple #[.nilIface, .bool false]) w := run_typeAssert_lacksB Tryz.underlying78 (by kernel_rfl) (by kernel_rfl) v xT w
@[go_sem] theorem ta_4_78 (v : Value) (xT : TypeId) (w : World) : (Instr.typeAssert (.iface 4 v) xT 78 true).run Tryz.prog w = .ok (.tuple #[.nilIface, .bool false]) w := run_typeAssert_lacksB Tryz.underlying78 (by kernel_rfl) (by kernel_rfl) v xT w
@[go_sem] theorem ta_9_78 (v : Value) (xT : TypeId) (w : World) : (Instr.typeAssert (.iface 9 v) xT 78 true).run Tryz.prog w = .ok (.tuple #[.nilIface, .bool false]) w := run_typeAssert_lacksB Tryz.underlying78 (by kernel_rfl) (by kernel_rfl) v xT w
@[go_sem] theorem ta_70_78 (v : Value) (xT : TypeId) (w : World) : (Instr.typeAssert (.iface 70 v) xT 78 true).run Tryz.prog w = .ok (.tuple #[.nilIface, .bool false]) w := run_typeAssert_lacksB Tryz.underlying78 (by kernel_rfl) (by kernel_rfl) v xT w
@[go_sem] theorem ta_71_78 (v : Value) (xT : TypeId) (w : World) : (Instr.typeAssert (.iface 71 v) xT 78 true).run Tryz.prog w = .ok (.tuple #[.nilIface, .bool false]) w := run_typeAssert_lacksB Tryz.underlying78 (by kernel_rfl) (by kernel_rfl) v xT w
@[go_sem] theorem ta_74_78 (v : Value) (xT : TypeId) (w : World) : (Instr.typeAssert (.iface 74 v) xT 78 true).run Tryz.prog w = .ok (.tuple #[.nilIface, .bool false]) w := run_typeAssert_lacksB Tryz.underlying78 (by kernel_rfl) (by kernel_rfl) v xT w
@[go_sem] theorem ta_150_78 (v : Value) (xT : TypeId) (w : World) : (Instr.typeAssert (.iface 150 v) xT 78 true).run Tryz.prog w = .ok (.tuple #[.nilIface, .bool false]) w := run_typeAssert_lacksB Tryz.underlying78 (by kernel_rfl) (by kernel_rfl) v xT w
@[go_sem] theorem ta_120_78 (v : Value) (xT : TypeId) (w : World) : (Instr.typeAssert (.iface 120 v) xT 78 true).run Tryz.prog w = .ok (.tuple #[.iface 120 v, .bool true]) w := run_typeAssert_hasB Tryz.underlying78 (by kernel_rfl) v xT w
end Go.Proofs.YtaockngppbeanaaGreatDoor
