/- What a type's assertion answers at each kind of node; nodes against nil. (Printed by gen_ta.py.) -/
import Derived.Test.YtigalkobmfbdaaaGreatDoorBaseZ1
namespace Go.Proofs.YtigalkobmfbdaaaGreatDoor
open Go.RowKit
theorem ta_nil :
    (∀ w : World, (Instr.typeAssert .nilIface 78 87 true).run Tryz.prog w = .ok (.tuple #[.agg #[.string ⟨#[]⟩, .string ⟨#[]⟩, .string ⟨#[]⟩], .bool false]) w) ∧
    (∀ w : World, (Instr.typeAssert .nilIface 78 127 true).run Tryz.prog w = .ok (.tuple #[.agg #[.string ⟨#[]⟩, .slice none 0 0], .bool false]) w) ∧
    (∀ w : World, (Instr.typeAssert .nilIface 78 130 true).run Tryz.prog w = .ok (.tuple #[.agg #[], .bool false]) w) ∧
    (∀ w : World, (Instr.typeAssert .nilIface 78 131 true).run Tryz.prog w = .ok (.tuple #[.agg #[], .bool false]) w) ∧
    (∀ w : World, (Instr.typeAssert .nilIface 78 132 true).run Tryz.prog w = .ok (.tuple #[.string ⟨#[]⟩, .bool false]) w) ∧
    (∀ w : World, (Instr.typeAssert .nilIface 78 134 true).run Tryz.prog w = .ok (.tuple #[.string ⟨#[]⟩, .bool false]) w) ∧
    (∀ w : World, (Instr.typeAssert .nilIface 78 136 true).run Tryz.prog w = .ok (.tuple #[.agg #[.nilIface, .nilIface], .bool false]) w) ∧
    (∀ w : World, (Instr.typeAssert .nilIface 78 138 true).run Tryz.prog w = .ok (.tuple #[.agg #[.string ⟨#[]⟩, .nilIface, .int .i64 0], .bool false]) w) ∧
    (∀ w : World, (Instr.typeAssert .nilIface 78 140 true).run Tryz.prog w = .ok (.tuple #[.agg #[.slice none 0 0], .bool false]) w) ∧
    (∀ w : World, (Instr.typeAssert .nilIface 78 141 true).run Tryz.prog w = .ok (.tuple #[.agg #[.slice none 0 0], .bool false]) w) ∧
    (∀ w : World, (binOp BinOp.eql 78 .nilIface .nilIface).run Tryz.prog w = .ok (.bool true) w) ∧
    (∀ w : World, (binOp BinOp.neq 78 .nilIface .nilIface).run Tryz.prog w = .ok (.bool false) w) :=
  ⟨fun w => by kernel_rfl, fun w => by kernel_rfl, fun w => by kernel_rfl, fun w => by kernel_rfl, fun w => by kernel_rfl, fun w => by kernel_rfl, fun w => by kernel_rfl, fun w => by kernel_rfl, fun w => by kernel_rfl, fun w => by kernel_rfl, fun w => by kernel_rfl, fun w => by kernel_rfl⟩
theorem ta_87 (x : Value) :
    (∀ w : World, (Instr.typeAssert (.iface 87 x) 78 87 true).run Tryz.prog w = .ok (.tuple #[x, .bool true]) w) ∧
    (∀ w : World, (Instr.typeAssert (.iface 87 x) 78 127 true).run Tryz.prog w = .ok (.tuple #[.agg #[.string ⟨#[]⟩, .slice none 0 0], .bool false]) w) ∧
    (∀ w : World, (Instr.typeAssert (.iface 87 x) 78 130 true).run Tryz.prog w = .ok (.tuple #[.agg #[], .bool false]) w) ∧
    (∀ w : World, (Instr.typeAssert (.iface 87 x) 78 131 true).run Tryz.prog w = .ok (.tuple #[.agg #[], .bool false]) w) ∧
    (∀ w : World, (Instr.typeAssert (.iface 87 x) 78 132 true).run Tryz.prog w = .ok (.tuple #[.string ⟨#[]⟩, .bool false]) w) ∧
    (∀ w : World, (Instr.typeAssert (.iface 87 x) 78 134 true).run Tryz.prog w = .ok (.tuple #[.string ⟨#[]⟩, .bool false]) w) ∧
    (∀ w : World, (Instr.typeAssert (.iface 87 x) 78 136 true).run Tryz.prog w = .ok (.tuple #[.agg #[.nilIface, .nilIface], .bool false]) w) ∧
    (∀ w : World, (Instr.typeAssert (.iface 87 x) 78 138 true).run Tryz.prog w = .ok (.tuple #[.agg #[.string ⟨#[]⟩, .nilIface, .int .i64 0], .bool false]) w) ∧
    (∀ w : World, (Instr.typeAssert (.iface 87 x) 78 140 true).run Tryz.prog w = .ok (.tuple #[.agg #[.slice none 0 0], .bool false]) w) ∧
    (∀ w : World, (Instr.typeAssert (.iface 87 x) 78 141 true).run Tryz.prog w = .ok (.tuple #[.agg #[.slice none 0 0], .bool false]) w) ∧
    (∀ w : World, (binOp BinOp.eql 78 (.iface 87 x) .nilIface).run Tryz.prog w = .ok (.bool false) w) ∧
    (∀ w : World, (binOp BinOp.neq 78 (.iface 87 x) .nilIface).run Tryz.prog w = .ok (.bool true) w) :=
  ⟨fun w => by kernel_rfl, fun w => by kernel_rfl, fun w => by kernel_rfl, fun w => by kernel_rfl, fun w => by kernel_rfl, fun w => by kernel_rfl, fun w => by kernel_rfl, fun w => by kernel_rfl, fun w => by kernel_rfl, fun w => by kernel_rfl, fun w => by kernel_rfl, fun w => by kernel_rfl⟩
theorem ta_127 (x : Value) :
    (∀ w : World, (Instr.typeAssert (.iface 127 x) 78 87 true).run Tryz.prog w = .ok (.tuple #[.agg #[.string ⟨#[]⟩, .string ⟨#[]⟩, .string ⟨#[]⟩], .bool false]) w) ∧
    (∀ w : World, (Instr.typeAssert (.iface 127 x) 78 127 true).run Tryz.prog w = .ok (.tuple #[x, .bool true]) w) ∧
    (∀ w : World, (Instr.typeAssert (.iface 127 x) 78 130 true).run Tryz.prog w = .ok (.tuple #[.agg #[], .bool false]) w) ∧
    (∀ w : World, (Instr.typeAssert (.iface 127 x) 78 131 true).run Tryz.prog w = .ok (.tuple #[.agg #[], .bool false]) w) ∧
    (∀ w : World, (Instr.typeAssert (.iface 127 x) 78 132 true).run Tryz.prog w = .ok (.tuple #[.string ⟨#[]⟩, .bool false]) w) ∧
    (∀ w : World, (Instr.typeAssert (.iface 127 x) 78 134 true).run Tryz.prog w = .ok (.tuple #[.string ⟨#[]⟩, .bool false]) w) ∧
    (∀ w : World, (Instr.typeAssert (.iface 127 x) 78 136 true).run Tryz.prog w = .ok (.tuple #[.agg #[.nilIface, .nilIface], .bool false]) w) ∧
    (∀ w : World, (Instr.typeAssert (.iface 127 x) 78 138 true).run Tryz.prog w = .ok (.tuple #[.agg #[.string ⟨#[]⟩, .nilIface, .int .i64 0], .bool false]) w) ∧
    (∀ w : World, (Instr.typeAssert (.iface 127 x) 78 140 true).run Tryz.prog w = .ok (.tuple #[.agg #[.slice none 0 0], .bool false]) w) ∧
    (∀ w : World, (Instr.typeAssert (.iface 127 x) 78 141 true).run Tryz.prog w = .ok (.tuple #[.agg #[.slice none 0 0], .bool false]) w) ∧
    (∀ w : World, (binOp BinOp.eql 78 (.iface 127 x) .nilIface).run Tryz.prog w = .ok (.bool false) w) ∧
    (∀ w : World, (binOp BinOp.neq 78 (.iface 127 x) .nilIface).run Tryz.prog w = .ok (.bool true) w) :=
  ⟨fun w => by kernel_rfl, fun w => by kernel_rfl, fun w => by kernel_rfl, fun w => by kernel_rfl, fun w => by kernel_rfl, fun w => by kernel_rfl, fun w => by kernel_rfl, fun w => by kernel_rfl, fun w => by kernel_rfl, fun w => by kernel_rfl, fun w => by kernel_rfl, fun w => by kernel_rfl⟩
theorem ta_130 (x : Value) :
    (∀ w : World, (Instr.typeAssert (.iface 130 x) 78 87 true).run Tryz.prog w = .ok (.tuple #[.agg #[.string ⟨#[]⟩, .string ⟨#[]⟩, .string ⟨#[]⟩], .bool false]) w) ∧
    (∀ w : World, (Instr.typeAssert (.iface 130 x) 78 127 true).run Tryz.prog w = .ok (.tuple #[.agg #[.string ⟨#[]⟩, .slice none 0 0], .bool false]) w) ∧
    (∀ w : World, (Instr.typeAssert (.iface 130 x) 78 130 true).run Tryz.prog w = .ok (.tuple #[x, .bool true]) w) ∧
    (∀ w : World, (Instr.typeAssert (.iface 130 x) 78 131 true).run Tryz.prog w = .ok (.tuple #[.agg #[], .bool false]) w) ∧
    (∀ w : World, (Instr.typeAssert (.iface 130 x) 78 132 true).run Tryz.prog w = .ok (.tuple #[.string ⟨#[]⟩, .bool false]) w) ∧
    (∀ w : World, (Instr.typeAssert (.iface 130 x) 78 134 true).run Tryz.prog w = .ok (.tuple #[.string ⟨#[]⟩, .bool false]) w) ∧
    (∀ w : World, (Instr.typeAssert (.iface 130 x) 78 136 true).run Tryz.prog w = .ok (.tuple #[.agg #[.nilIface, .nilIface], .bool false]) w) ∧
    (∀ w : World, (Instr.typeAssert (.iface 130 x) 78 138 true).run Tryz.prog w = .ok (.tuple #[.agg #[.string ⟨#[]⟩, .nilIface, .int .i64 0], .bool false]) w) ∧
    (∀ w : World, (Instr.typeAssert (.iface 130 x) 78 140 true).run Tryz.prog w = .ok (.tuple #[.agg #[.slice none 0 0], .bool false]) w) ∧
    (∀ w : World, (Instr.typeAssert (.iface 130 x) 78 141 true).run Tryz.prog w = .ok (.tuple #[.agg #[.slice none 0 0], .bool false]) w) ∧
    (∀ w : World, (binOp BinOp.eql 78 (.iface 130 x) .nilIface).run Tryz.prog w = .ok (.bool false) w) ∧
    (∀ w : World, (binOp BinOp.neq 78 (.iface 130 x) .nilIface).run Tryz.prog w = .ok (.bool true) w) :=
  ⟨fun w => by kernel_rfl, fun w => by kernel_rfl, fun w => by kernel_rfl, fun w => by kernel_rfl, fun w => by kernel_rfl, fun w => by kernel_rfl, fun w => by kernel_rfl, fun w => by kernel_rfl, fun w => by kernel_rfl, fun w => by kernel_rfl, fun w => by kernel_rfl, fun w => by kernel_rfl⟩
theorem ta_131 (x : Value) :
    (∀ w : World, (Instr.typeAssert (.iface 131 x) 78 87 true).run Tryz.prog w = .ok (.tuple #[.agg #[.string ⟨#[]⟩, .string ⟨#[]⟩, .string ⟨#[]⟩], .bool false]) w) ∧
    (∀ w : World, (Instr.typeAssert (.iface 131 x) 78 127 true).run Tryz.prog w = .ok (.tuple #[.agg #[.string ⟨#[]⟩, .slice none 0 0], .bool false]) w) ∧
    (∀ w : World, (Instr.typeAssert (.iface 131 x) 78 130 true).run Tryz.prog w = .ok (.tuple #[.agg #[], .bool false]) w) ∧
    (∀ w : World, (Instr.typeAssert (.iface 131 x) 78 131 true).run Tryz.prog w = .ok (.tuple #[x, .bool true]) w) ∧
    (∀ w : World, (Instr.typeAssert (.iface 131 x) 78 132 true).run Tryz.prog w = .ok (.tuple #[.string ⟨#[]⟩, .bool false]) w) ∧
    (∀ w : World, (Instr.typeAssert (.iface 131 x) 78 134 true).run Tryz.prog w = .ok (.tuple #[.string ⟨#[]⟩, .bool false]) w) ∧
    (∀ w : World, (Instr.typeAssert (.iface 131 x) 78 136 true).run Tryz.prog w = .ok (.tuple #[.agg #[.nilIface, .nilIface], .bool false]) w) ∧
    (∀ w : World, (Instr.typeAssert (.iface 131 x) 78 138 true).run Tryz.prog w = .ok (.tuple #[.agg #[.string ⟨#[]⟩, .nilIface, .int .i64 0], .bool false]) w) ∧
    (∀ w : World, (Instr.typeAssert (.iface 131 x) 78 140 true).run Tryz.prog w = .ok (.tuple #[.agg #[.slice none 0 0], .bool false]) w) ∧
    (∀ w : World, (Instr.typeAssert (.iface 131 x) 78 141 true).run Tryz.prog w = .ok (.tuple #[.agg #[.slice none 0 0], .bool false]) w) ∧
    (∀ w : World, (binOp BinOp.eql 78 (.iface 131 x) .nilIface).run Tryz.prog w = .ok (.bool false) w) ∧
    (∀ w : World, (binOp BinOp.neq 78 (.iface 131 x) .nilIface).run Tryz.prog w = .ok (.bool true) w) :=
  ⟨fun w => by kernel_rfl, fun w => by kernel_rfl, fun w => by kernel_rfl, fun w => by kernel_rfl, fun w => by kernel_rfl, fun w => by kernel_rfl, fun w => by kernel_rfl, fun w => by kernel_rfl, fun w => by kernel_rfl, fun w => by kernel_rfl, fun w => by kernel_rfl, fun w => by kernel_rfl⟩
theorem ta_132 (x : Value) :
    (∀ w : World, (Instr.typeAssert (.iface 132 x) 78 87 true).run Tryz.prog w = .ok (.tuple #[.agg #[.string ⟨#[]⟩, .string ⟨#[]⟩, .string ⟨#[]⟩], .bool false]) w) ∧
    (∀ w : World, (Instr.typeAssert (.iface 132 x) 78 127 true).run Tryz.prog w = .ok (.tuple #[.agg #[.string ⟨#[]⟩, .slice none 0 0], .bool false]) w) ∧
    (∀ w : World, (Instr.typeAssert (.iface 132 x) 78 130 true).run Tryz.prog w = .ok (.tuple #[.agg #[], .bool false]) w) ∧
    (∀ w : World, (Instr.typeAssert (.iface 132 x) 78 131 true).run Tryz.prog w = .ok (.tuple #[.agg #[], .bool false]) w) ∧
    (∀ w : World, (Instr.typeAssert (.iface 132 x) 78 132 true).run Tryz.prog w = .ok (.tuple #[x, .bool true]) w) ∧
    (∀ w : World, (Instr.typeAssert (.iface 132 x) 78 134 true).run Tryz.prog w = .ok (.tuple #[.string ⟨#[]⟩, .bool false]) w) ∧
    (∀ w : World, (Instr.typeAssert (.iface 132 x) 78 136 true).run Tryz.prog w = .ok (.tuple #[.agg #[.nilIface, .nilIface], .bool false]) w) ∧
    (∀ w : World, (Instr.typeAssert (.iface 132 x) 78 138 true).run Tryz.prog w = .ok (.tuple #[.agg #[.string ⟨#[]⟩, .nilIface, .int .i64 0], .bool false]) w) ∧
    (∀ w : World, (Instr.typeAssert (.iface 132 x) 78 140 true).run Tryz.prog w = .ok (.tuple #[.agg #[.slice none 0 0], .bool false]) w) ∧
    (∀ w : World, (Instr.typeAssert (.iface 132 x) 78 141 true).run Tryz.prog w = .ok (.tuple #[.agg #[.slice none 0 0], .bool false]) w) ∧
    (∀ w : World, (binOp BinOp.eql 78 (.iface 132 x) .nilIface).run Tryz.prog w = .ok (.bool false) w) ∧
    (∀ w : World, (binOp BinOp.neq 78 (.iface 132 x) .nilIface).run Tryz.prog w = .ok (.bool true) w) :=
  ⟨fun w => by kernel_rfl, fun w => by kernel_rfl, fun w => by kernel_rfl, fun w => by kernel_rfl, fun w => by kernel_rfl, fun w => by kernel_rfl, fun w => by kernel_rfl, fun w => by kernel_rfl, fun w => by kernel_rfl, fun w => by kernel_rfl, fun w => by kernel_rfl, fun w => by kernel_rfl⟩
theorem ta_134 (x : Value) :
    (∀ w : World, (Instr.typeAssert (.iface 134 x) 78 87 true).run Tryz.prog w = .ok (.tuple #[.agg #[.string ⟨#[]⟩, .string ⟨#[]⟩, .string ⟨#[]⟩], .bool false]) w) ∧
    (∀ w : World, (Instr.typeAssert (.iface 134 x) 78 127 true).run Tryz.prog w = .ok (.tuple #[.agg #[.string ⟨#[]⟩, .slice none 0 0], .bool false]) w) ∧
    (∀ w : World, (Instr.typeAssert (.iface 134 x) 78 130 true).run Tryz.prog w = .ok (.tuple #[.agg #[], .bool false]) w) ∧
    (∀ w : World, (Instr.typeAssert (.iface 134 x) 78 131 true).run Tryz.prog w = .ok (.tuple #[.agg #[], .bool false]) w) ∧
    (∀ w : World, (Instr.typeAssert (.iface 134 x) 78 132 true).run Tryz.prog w = .ok (.tuple #[.string ⟨#[]⟩, .bool false]) w) ∧
    (∀ w : World, (Instr.typeAssert (.iface 134 x) 78 134 true).run Tryz.prog w = .ok (.tuple #[x, .bool true]) w) ∧
    (∀ w : World, (Instr.typeAssert (.iface 134 x) 78 136 true).run Tryz.prog w = .ok (.tuple #[.agg #[.nilIface, .nilIface], .bool false]) w) ∧
    (∀ w : World, (Instr.typeAssert (.iface 134 x) 78 138 true).run Tryz.prog w = .ok (.tuple #[.agg #[.string ⟨#[]⟩, .nilIface, .int .i64 0], .bool false]) w) ∧
    (∀ w : World, (Instr.typeAssert (.iface 134 x) 78 140 true).run Tryz.prog w = .ok (.tuple #[.agg #[.slice none 0 0], .bool false]) w) ∧
    (∀ w : World, (Instr.typeAssert (.iface 134 x) 78 141 true).run Tryz.prog w = .ok (.tuple #[.agg #[.slice none 0 0], .bool false]) w) ∧
    (∀ w : World, (binOp BinOp.eql 78 (.iface 134 x) .nilIface).run Tryz.prog w = .ok (.bool false) w) ∧
    (∀ w : World, (binOp BinOp.neq 78 (.iface 134 x) .nilIface).run Tryz.prog w = .ok (.bool true) w) :=
  ⟨fun w => by kernel_rfl, fun w => by kernel_rfl, fun w => by kernel_rfl, fun w => by kernel_rfl, fun w => by kernel_rfl, fun w => by kernel_rfl, fun w => by kernel_rfl, fun w => by kernel_rfl, fun w => by kernel_rfl, fun w => by kernel_rfl, fun w => by kernel_rfl, fun w => by kernel_rfl⟩
theorem ta_136 (x : Value) :
    (∀ w : World, (Instr.typeAssert (.iface 136 x) 78 87 true).run Tryz.prog w = .ok (.tuple #[.agg #[.string ⟨#[]⟩, .string ⟨#[]⟩, .string ⟨#[]⟩], .bool false]) w) ∧
    (∀ w : World, (Instr.typeAssert (.iface 136 x) 78 127 true).run Tryz.prog w = .ok (.tuple #[.agg #[.string ⟨#[]⟩, .slice none 0 0], .bool false]) w) ∧
    (∀ w : World, (Instr.typeAssert (.iface 136 x) 78 130 true).run Tryz.prog w = .ok (.tuple #[.agg #[], .bool false]) w) ∧
    (∀ w : World, (Instr.typeAssert (.iface 136 x) 78 131 true).run Tryz.prog w = .ok (.tuple #[.agg #[], .bool false]) w) ∧
    (∀ w : World, (Instr.typeAssert (.iface 136 x) 78 132 true).run Tryz.prog w = .ok (.tuple #[.string ⟨#[]⟩, .bool false]) w) ∧
    (∀ w : World, (Instr.typeAssert (.iface 136 x) 78 134 true).run Tryz.prog w = .ok (.tuple #[.string ⟨#[]⟩, .bool false]) w) ∧
    (∀ w : World, (Instr.typeAssert (.iface 136 x) 78 136 true).run Tryz.prog w = .ok (.tuple #[x, .bool true]) w) ∧
    (∀ w : World, (Instr.typeAssert (.iface 136 x) 78 138 true).run Tryz.prog w = .ok (.tuple #[.agg #[.string ⟨#[]⟩, .nilIface, .int .i64 0], .bool false]) w) ∧
    (∀ w : World, (Instr.typeAssert (.iface 136 x) 78 140 true).run Tryz.prog w = .ok (.tuple #[.agg #[.slice none 0 0], .bool false]) w) ∧
    (∀ w : World, (Instr.typeAssert (.iface 136 x) 78 141 true).run Tryz.prog w = .ok (.tuple #[.agg #[.slice none 0 0], .bool false]) w) ∧
    (∀ w : World, (binOp BinOp.eql 78 (.iface 136 x) .nilIface).run Tryz.prog w = .ok (.bool false) w) ∧
    (∀ w : World, (binOp BinOp.neq 78 (.iface 136 x) .nilIface).run Tryz.prog w = .ok (.bool true) w) :=
  ⟨fun w => by kernel_rfl, fun w => by kernel_rfl, fun w => by kernel_rfl, fun w => by kernel_rfl, fun w => by kernel_rfl, fun w => by kernel_rfl, fun w => by kernel_rfl, fun w => by kernel_rfl, fun w => by kernel_rfl, fun w => by kernel_rfl, fun w => by kernel_rfl, fun w => by kernel_rfl⟩
theorem ta_138 (x : Value) :
    (∀ w : World, (Instr.typeAssert (.iface 138 x) 78 87 true).run Tryz.prog w = .ok (.tuple #[.agg #[.string ⟨#[]⟩, .string ⟨#[]⟩, .string ⟨#[]⟩], .bool false]) w) ∧
    (∀ w : World, (Instr.typeAssert (.iface 138 x) 78 127 true).run Tryz.prog w = .ok (.tuple #[.agg #[.string ⟨#[]⟩, .slice none 0 0], .bool false]) w) ∧
    (∀ w : World, (Instr.typeAssert (.iface 138 x) 78 130 true).run Tryz.prog w = .ok (.tuple #[.agg #[], .bool false]) w) ∧
    (∀ w : World, (Instr.typeAssert (.iface 138 x) 78 131 true).run Tryz.prog w = .ok (.tuple #[.agg #[], .bool false]) w) ∧
    (∀ w : World, (Instr.typeAssert (.iface 138 x) 78 132 true).run Tryz.prog w = .ok (.tuple #[.string ⟨#[]⟩, .bool false]) w) ∧
    (∀ w : World, (Instr.typeAssert (.iface 138 x) 78 134 true).run Tryz.prog w = .ok (.tuple #[.string ⟨#[]⟩, .bool false]) w) ∧
    (∀ w : World, (Instr.typeAssert (.iface 138 x) 78 136 true).run Tryz.prog w = .ok (.tuple #[.agg #[.nilIface, .nilIface], .bool false]) w) ∧
    (∀ w : World, (Instr.typeAssert (.iface 138 x) 78 138 true).run Tryz.prog w = .ok (.tuple #[x, .bool true]) w) ∧
    (∀ w : World, (Instr.typeAssert (.iface 138 x) 78 140 true).run Tryz.prog w = .ok (.tuple #[.agg #[.slice none 0 0], .bool false]) w) ∧
    (∀ w : World, (Instr.typeAssert (.iface 138 x) 78 141 true).run Tryz.prog w = .ok (.tuple #[.agg #[.slice none 0 0], .bool false]) w) ∧
    (∀ w : World, (binOp BinOp.eql 78 (.iface 138 x) .nilIface).run Tryz.prog w = .ok (.bool false) w) ∧
    (∀ w : World, (binOp BinOp.neq 78 (.iface 138 x) .nilIface).run Tryz.prog w = .ok (.bool true) w) :=
  ⟨fun w => by kernel_rfl, fun w => by kernel_rfl, fun w => by kernel_rfl, fun w => by kernel_rfl, fun w => by kernel_rfl, fun w => by kernel_rfl, fun w => by kernel_rfl, fun w => by kernel_rfl, fun w => by kernel_rfl, fun w => by kernel_rfl, fun w => by kernel_rfl, fun w => by kernel_rfl⟩
theorem ta_140 (x : Value) :
    (∀ w : World, (Instr.typeAssert (.iface 140 x) 78 87 true).run Tryz.prog w = .ok (.tuple #[.agg #[.string ⟨#[]⟩, .string ⟨#[]⟩, .string ⟨#[]⟩], .bool false]) w) ∧
    (∀ w : World, (Instr.typeAssert (.iface 140 x) 78 127 true).run Tryz.prog w = .ok (.tuple #[.agg #[.string ⟨#[]⟩, .slice none 0 0], .bool false]) w) ∧
    (∀ w : World, (Instr.typeAssert (.iface 140 x) 78 130 true).run Tryz.prog w = .ok (.tuple #[.agg #[], .bool false]) w) ∧
    (∀ w : World, (Instr.typeAssert (.iface 140 x) 78 131 true).run Tryz.prog w = .ok (.tuple #[.agg #[], .bool false]) w) ∧
    (∀ w : World, (Instr.typeAssert (.iface 140 x) 78 132 true).run Tryz.prog w = .ok (.tuple #[.string ⟨#[]⟩, .bool false]) w) ∧
    (∀ w : World, (Instr.typeAssert (.iface 140 x) 78 134 true).run Tryz.prog w = .ok (.tuple #[.string ⟨#[]⟩, .bool false]) w) ∧
    (∀ w : World, (Instr.typeAssert (.iface 140 x) 78 136 true).run Tryz.prog w = .ok (.tuple #[.agg #[.nilIface, .nilIface], .bool false]) w) ∧
    (∀ w : World, (Instr.typeAssert (.iface 140 x) 78 138 true).run Tryz.prog w = .ok (.tuple #[.agg #[.string ⟨#[]⟩, .nilIface, .int .i64 0], .bool false]) w) ∧
    (∀ w : World, (Instr.typeAssert (.iface 140 x) 78 140 true).run Tryz.prog w = .ok (.tuple #[x, .bool true]) w) ∧
    (∀ w : World, (Instr.typeAssert (.iface 140 x) 78 141 true).run Tryz.prog w = .ok (.tuple #[.agg #[.slice none 0 0], .bool false]) w) ∧
    (∀ w : World, (binOp BinOp.eql 78 (.iface 140 x) .nilIface).run Tryz.prog w = .ok (.bool false) w) ∧
    (∀ w : World, (binOp BinOp.neq 78 (.iface 140 x) .nilIface).run Tryz.prog w = .ok (.bool true) w) :=
  ⟨fun w => by kernel_rfl, fun w => by kernel_rfl, fun w => by kernel_rfl, fun w => by kernel_rfl, fun w => by kernel_rfl, fun w => by kernel_rfl, fun w => by kernel_rfl, fun w => by kernel_rfl, fun w => by kernel_rfl, fun w => by kernel_rfl, fun w => by kernel_rfl, fun w => by kernel_rfl⟩
theorem ta_141 (x : Value) :
    (∀ w : World, (Instr.typeAssert (.iface 141 x) 78 87 true).run Tryz.prog w = .ok (.tuple #[.agg #[.string ⟨#[]⟩, .string ⟨#[]⟩, .string ⟨#[]⟩], .bool false]) w) ∧
    (∀ w : World, (Instr.typeAssert (.iface 141 x) 78 127 true).run Tryz.prog w = .ok (.tuple #[.agg #[.string ⟨#[]⟩, .slice none 0 0], .bool false]) w) ∧
    (∀ w : World, (Instr.typeAssert (.iface 141 x) 78 130 true).run Tryz.prog w = .ok (.tuple #[.agg #[], .bool false]) w) ∧
    (∀ w : World, (Instr.typeAssert (.iface 141 x) 78 131 true).run Tryz.prog w = .ok (.tuple #[.agg #[], .bool false]) w) ∧
    (∀ w : World, (Instr.typeAssert (.iface 141 x) 78 132 true).run Tryz.prog w = .ok (.tuple #[.string ⟨#[]⟩, .bool false]) w) ∧
    (∀ w : World, (Instr.typeAssert (.iface 141 x) 78 134 true).run Tryz.prog w = .ok (.tuple #[.string ⟨#[]⟩, .bool false]) w) ∧
    (∀ w : World, (Instr.typeAssert (.iface 141 x) 78 136 true).run Tryz.prog w = .ok (.tuple #[.agg #[.nilIface, .nilIface], .bool false]) w) ∧
    (∀ w : World, (Instr.typeAssert (.iface 141 x) 78 138 true).run Tryz.prog w = .ok (.tuple #[.agg #[.string ⟨#[]⟩, .nilIface, .int .i64 0], .bool false]) w) ∧
    (∀ w : World, (Instr.typeAssert (.iface 141 x) 78 140 true).run Tryz.prog w = .ok (.tuple #[.agg #[.slice none 0 0], .bool false]) w) ∧
    (∀ w : World, (Instr.typeAssert (.iface 141 x) 78 141 true).run Tryz.prog w = .ok (.tuple #[x, .bool true]) w) ∧
    (∀ w : World, (binOp BinOp.eql 78 (.iface 141 x) .nilIface).run Tryz.prog w = .ok (.bool false) w) ∧
    (∀ w : World, (binOp BinOp.neq 78 (.iface 141 x) .nilIface).run Tryz.prog w = .ok (.bool true) w) :=
  ⟨fun w => by kernel_rfl, fun w => by kernel_rfl, fun w => by kernel_rfl, fun w => by kernel_rfl, fun w => by kernel_rfl, fun w => by kernel_rfl, fun w => by kernel_rfl, fun w => by kernel_rfl, fun w => by kernel_rfl, fun w => by kernel_rfl, fun w => by kernel_rfl, fun w => by kernel_rfl⟩
end Go.Proofs.YtigalkobmfbdaaaGreatDoor
