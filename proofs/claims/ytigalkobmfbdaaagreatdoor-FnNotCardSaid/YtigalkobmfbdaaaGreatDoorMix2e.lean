/- What a type's assertion answers at each kind of node; nodes against nil. (Printed by gen_ta.py.) -/
import Derived.Test.YtigalkobmfbdaaaGreatDoorMix2a
import Derived.Test.YtigalkobmfbdaaaGreatDoorMix2c
import Derived.Test.YtigalkobmfbdaaaGreatDoorMix2d
import Derived.Laws.EntriesVeiled
import Derived.Deep.RegionHeld3
namespace Go.Proofs.YtigalkobmfbdaaaGreatDoor
open Go.RowKit
theorem ta_nil :
  (∀ w : World,(Instr.typeAssert .nilIface 78 87 true).run Tryz.prog w=.ok (.tuple #[.agg #[.string ⟨#[]⟩,.string ⟨#[]⟩,.string ⟨#[]⟩],.bool false]) w) ∧
  (∀ w : World,(Instr.typeAssert .nilIface 78 127 true).run Tryz.prog w=.ok (.tuple #[.agg #[.string ⟨#[]⟩,.slice none 0 0],.bool false]) w) ∧
  (∀ w : World,(Instr.typeAssert .nilIface 78 130 true).run Tryz.prog w=.ok (.tuple #[.agg #[],.bool false]) w) ∧
  (∀ w : World,(Instr.typeAssert .nilIface 78 131 true).run Tryz.prog w=.ok (.tuple #[.agg #[],.bool false]) w) ∧
  (∀ w : World,(Instr.typeAssert .nilIface 78 132 true).run Tryz.prog w=.ok (.tuple #[.string ⟨#[]⟩,.bool false]) w) ∧
  (∀ w : World,(Instr.typeAssert .nilIface 78 134 true).run Tryz.prog w=.ok (.tuple #[.string ⟨#[]⟩,.bool false]) w) ∧
  (∀ w : World,(Instr.typeAssert .nilIface 78 136 true).run Tryz.prog w=.ok (.tuple #[.agg #[.nilIface,.nilIface],.bool false]) w) ∧
  (∀ w : World,(Instr.typeAssert .nilIface 78 138 true).run Tryz.prog w=.ok (.tuple #[.agg #[.string ⟨#[]⟩,.nilIface,.int .i64 0],.bool false]) w) ∧
  (∀ w : World,(Instr.typeAssert .nilIface 78 140 true).run Tryz.prog w=.ok (.tuple #[.agg #[.slice none 0 0],.bool false]) w) ∧
  (∀ w : World,(Instr.typeAssert .nilIface 78 141 true).run Tryz.prog w=.ok (.tuple #[.agg #[.slice none 0 0],.bool false]) w) ∧
  (∀ w : World,(binOp BinOp.eql 78 .nilIface .nilIface).run Tryz.prog w=.ok (.bool true) w) ∧
  (∀ w : World,(binOp BinOp.neq 78 .nilIface .nilIface).run Tryz.prog w=.ok (.bool false) w) :=
 ⟨fun w=>by kernel_rfl,fun w=>by kernel_rfl,fun w=>by kernel_rfl,fun w=>by kernel_rfl,fun w=>by kernel_rfl,fun w=>by kernel_rfl,fun w=>by kernel_rfl,fun w=>by kernel_rfl,fun w=>by kernel_rfl,fun w=>by kernel_rfl,fun w=>by kernel_rfl,fun w=>by kernel_rfl⟩
theorem ta_87 (x : Value) :
  (∀ w : World,(Instr.typeAssert (.iface 87 x) 78 87 true).run Tryz.prog w=.ok (.tuple #[x,.bool true]) w) ∧
  (∀ w : World,(Instr.typeAssert (.iface 87 x) 78 127 true).run Tryz.prog w=.ok (.tuple #[.agg #[.string ⟨#[]⟩,.slice none 0 0],.bool false]) w) ∧
  (∀ w : World,(Instr.typeAssert (.iface 87 x) 78 130 true).run Tryz.prog w=.ok (.tuple #[.agg #[],.bool false]) w) ∧
  (∀ w : World,(Instr.typeAssert (.iface 87 x) 78 131 true).run Tryz.prog w=.ok (.tuple #[.agg #[],.bool false]) w) ∧
  (∀ w : World,(Instr.typeAssert (.iface 87 x) 78 132 true).run Tryz.prog w=.ok (.tuple #[.string ⟨#[]⟩,.bool false]) w) ∧
  (∀ w : World,(Instr.typeAssert (.iface 87 x) 78 134 true).run Tryz.prog w=.ok (.tuple #[.string ⟨#[]⟩,.bool false]) w) ∧
  (∀ w : World,(Instr.typeAssert (.iface 87 x) 78 136 true).run Tryz.prog w=.ok (.tuple #[.agg #[.nilIface,.nilIface],.bool false]) w) ∧
  (∀ w : World,(Instr.typeAssert (.iface 87 x) 78 138 true).run Tryz.prog w=.ok (.tuple #[.agg #[.string ⟨#[]⟩,.nilIface,.int .i64 0],.bool false]) w) ∧
  (∀ w : World,(Instr.typeAssert (.iface 87 x) 78 140 true).run Tryz.prog w=.ok (.tuple #[.agg #[.slice none 0 0],.bool false]) w) ∧
  (∀ w : World,(Instr.typeAssert (.iface 87 x) 78 141 true).run Tryz.prog w=.ok (.tuple #[.agg #[.slice none 0 0],.bool false]) w) ∧
  (∀ w : World,(binOp BinOp.eql 78 (.iface 87 x) .nilIface).run Tryz.prog w=.ok (.bool false) w) ∧
  (∀ w : World,(binOp BinOp.neq 78 (.iface 87 x) .nilIface).run Tryz.prog w=.ok (.bool true) w) :=
 ⟨fun w=>by kernel_rfl,fun w=>by kernel_rfl,fun w=>by kernel_rfl,fun w=>by kernel_rfl,fun w=>by kernel_rfl,fun w=>by kernel_rfl,fun w=>by kernel_rfl,fun w=>by kernel_rfl,fun w=>by kernel_rfl,fun w=>by kernel_rfl,fun w=>by kernel_rfl,fun w=>by kernel_rfl⟩
theorem ta_127 (x : Value) :
  (∀ w : World,(Instr.typeAssert (.iface 127 x) 78 87 true).run Tryz.prog w=.ok (.tuple #[.agg #[.string ⟨#[]⟩,.string ⟨#[]⟩,.string ⟨#[]⟩],.bool false]) w) ∧
  (∀ w : World,(Instr.typeAssert (.iface 127 x) 78 127 true).run Tryz.prog w=.ok (.tuple #[x,.bool true]) w) ∧
  (∀ w : World,(Instr.typeAssert (.iface 127 x) 78 130 true).run Tryz.prog w=.ok (.tuple #[.agg #[],.bool false]) w) ∧
  (∀ w : World,(Instr.typeAssert (.iface 127 x) 78 131 true).run Tryz.prog w=.ok (.tuple #[.agg #[],.bool false]) w) ∧
  (∀ w : World,(Instr.typeAssert (.iface 127 x) 78 132 true).run Tryz.prog w=.ok (.tuple #[.string ⟨#[]⟩,.bool false]) w) ∧
  (∀ w : World,(Instr.typeAssert (.iface 127 x) 78 134 true).run Tryz.prog w=.ok (.tuple #[.string ⟨#[]⟩,.bool false]) w) ∧
  (∀ w : World,(Instr.typeAssert (.iface 127 x) 78 136 true).run Tryz.prog w=.ok (.tuple #[.agg #[.nilIface,.nilIface],.bool false]) w) ∧
  (∀ w : World,(Instr.typeAssert (.iface 127 x) 78 138 true).run Tryz.prog w=.ok (.tuple #[.agg #[.string ⟨#[]⟩,.nilIface,.int .i64 0],.bool false]) w) ∧
  (∀ w : World,(Instr.typeAssert (.iface 127 x) 78 140 true).run Tryz.prog w=.ok (.tuple #[.agg #[.slice none 0 0],.bool false]) w) ∧
  (∀ w : World,(Instr.typeAssert (.iface 127 x) 78 141 true).run Tryz.prog w=.ok (.tuple #[.agg #[.slice none 0 0],.bool false]) w) ∧
  (∀ w : World,(binOp BinOp.eql 78 (.iface 127 x) .nilIface).run Tryz.prog w=.ok (.bool false) w) ∧
  (∀ w : World,(binOp BinOp.neq 78 (.iface 127 x) .nilIface).run Tryz.prog w=.ok (.bool true) w) :=
 ⟨fun w=>by kernel_rfl,fun w=>by kernel_rfl,fun w=>by kernel_rfl,fun w=>by kernel_rfl,fun w=>by kernel_rfl,fun w=>by kernel_rfl,fun w=>by kernel_rfl,fun w=>by kernel_rfl,fun w=>by kernel_rfl,fun w=>by kernel_rfl,fun w=>by kernel_rfl,fun w=>by kernel_rfl⟩
theorem ta_130 (x : Value) :
  (∀ w : World,(Instr.typeAssert (.iface 130 x) 78 87 true).run Tryz.prog w=.ok (.tuple #[.agg #[.string ⟨#[]⟩,.string ⟨#[]⟩,.string ⟨#[]⟩],.bool false]) w) ∧
  (∀ w : World,(Instr.typeAssert (.iface 130 x) 78 127 true).run Tryz.prog w=.ok (.tuple #[.agg #[.string ⟨#[]⟩,.slice none 0 0],.bool false]) w) ∧
  (∀ w : World,(Instr.typeAssert (.iface 130 x) 78 130 true).run Tryz.prog w=.ok (.tuple #[x,.bool true]) w) ∧
  (∀ w : World,(Instr.typeAssert (.iface 130 x) 78 131 true).run Tryz.prog w=.ok (.tuple #[.agg #[],.bool false]) w) ∧
  (∀ w : World,(Instr.typeAssert (.iface 130 x) 78 132 true).run Tryz.prog w=.ok (.tuple #[.string ⟨#[]⟩,.bool false]) w) ∧
  (∀ w : World,(Instr.typeAssert (.iface 130 x) 78 134 true).run Tryz.prog w=.ok (.tuple #[.string ⟨#[]⟩,.bool false]) w) ∧
  (∀ w : World,(Instr.typeAssert (.iface 130 x) 78 136 true).run Tryz.prog w=.ok (.tuple #[.agg #[.nilIface,.nilIface],.bool false]) w) ∧
  (∀ w : World,(Instr.typeAssert (.iface 130 x) 78 138 true).run Tryz.prog w=.ok (.tuple #[.agg #[.string ⟨#[]⟩,.nilIface,.int .i64 0],.bool false]) w) ∧
  (∀ w : World,(Instr.typeAssert (.iface 130 x) 78 140 true).run Tryz.prog w=.ok (.tuple #[.agg #[.slice none 0 0],.bool false]) w) ∧
  (∀ w : World,(Instr.typeAssert (.iface 130 x) 78 141 true).run Tryz.prog w=.ok (.tuple #[.agg #[.slice none 0 0],.bool false]) w) ∧
  (∀ w : World,(binOp BinOp.eql 78 (.iface 130 x) .nilIface).run Tryz.prog w=.ok (.bool false) w) ∧
  (∀ w : World,(binOp BinOp.neq 78 (.iface 130 x) .nilIface).run Tryz.prog w=.ok (.bool true) w) :=
 ⟨fun w=>by kernel_rfl,fun w=>by kernel_rfl,fun w=>by kernel_rfl,fun w=>by kernel_rfl,fun w=>by kernel_rfl,fun w=>by kernel_rfl,fun w=>by kernel_rfl,fun w=>by kernel_rfl,fun w=>by kernel_rfl,fun w=>by kernel_rfl,fun w=>by kernel_rfl,fun w=>by kernel_rfl⟩
theorem ta_131 (x : Value) :
  (∀ w : World,(Instr.typeAssert (.iface 131 x) 78 87 true).run Tryz.prog w=.ok (.tuple #[.agg #[.string ⟨#[]⟩,.string ⟨#[]⟩,.string ⟨#[]⟩],.bool false]) w) ∧
  (∀ w : World,(Instr.typeAssert (.iface 131 x) 78 127 true).run Tryz.prog w=.ok (.tuple #[.agg #[.string ⟨#[]⟩,.slice none 0 0],.bool false]) w) ∧
  (∀ w : World,(Instr.typeAssert (.iface 131 x) 78 130 true).run Tryz.prog w=.ok (.tuple #[.agg #[],.bool false]) w) ∧
  (∀ w : World,(Instr.typeAssert (.iface 131 x) 78 131 true).run Tryz.prog w=.ok (.tuple #[x,.bool true]) w) ∧
  (∀ w : World,(Instr.typeAssert (.iface 131 x) 78 132 true).run Tryz.prog w=.ok (.tuple #[.string ⟨#[]⟩,.bool false]) w) ∧
  (∀ w : World,(Instr.typeAssert (.iface 131 x) 78 134 true).run Tryz.prog w=.ok (.tuple #[.string ⟨#[]⟩,.bool false]) w) ∧
  (∀ w : World,(Instr.typeAssert (.iface 131 x) 78 136 true).run Tryz.prog w=.ok (.tuple #[.agg #[.nilIface,.nilIface],.bool false]) w) ∧
  (∀ w : World,(Instr.typeAssert (.iface 131 x) 78 138 true).run Tryz.prog w=.ok (.tuple #[.agg #[.string ⟨#[]⟩,.nilIface,.int .i64 0],.bool false]) w) ∧
  (∀ w : World,(Instr.typeAssert (.iface 131 x) 78 140 true).run Tryz.prog w=.ok (.tuple #[.agg #[.slice none 0 0],.bool false]) w) ∧
  (∀ w : World,(Instr.typeAssert (.iface 131 x) 78 141 true).run Tryz.prog w=.ok (.tuple #[.agg #[.slice none 0 0],.bool false]) w) ∧
  (∀ w : World,(binOp BinOp.eql 78 (.iface 131 x) .nilIface).run Tryz.prog w=.ok (.bool false) w) ∧
  (∀ w : World,(binOp BinOp.neq 78 (.iface 131 x) .nilIface).run Tryz.prog w=.ok (.bool true) w) :=
 ⟨fun w=>by kernel_rfl,fun w=>by kernel_rfl,fun w=>by kernel_rfl,fun w=>by kernel_rfl,fun w=>by kernel_rfl,fun w=>by kernel_rfl,fun w=>by kernel_rfl,fun w=>by kernel_rfl,fun w=>by kernel_rfl,fun w=>by kernel_rfl,fun w=>by kernel_rfl,fun w=>by kernel_rfl⟩
theorem ta_132 (x : Value) :
  (∀ w : World,(Instr.typeAssert (.iface 132 x) 78 87 true).run Tryz.prog w=.ok (.tuple #[.agg #[.string ⟨#[]⟩,.string ⟨#[]⟩,.string ⟨#[]⟩],.bool false]) w) ∧
  (∀ w : World,(Instr.typeAssert (.iface 132 x) 78 127 true).run Tryz.prog w=.ok (.tuple #[.agg #[.string ⟨#[]⟩,.slice none 0 0],.bool false]) w) ∧
  (∀ w : World,(Instr.typeAssert (.iface 132 x) 78 130 true).run Tryz.prog w=.ok (.tuple #[.agg #[],.bool false]) w) ∧
  (∀ w : World,(Instr.typeAssert (.iface 132 x) 78 131 true).run Tryz.prog w=.ok (.tuple #[.agg #[],.bool false]) w) ∧
  (∀ w : World,(Instr.typeAssert (.iface 132 x) 78 132 true).run Tryz.prog w=.ok (.tuple #[x,.bool true]) w) ∧
  (∀ w : World,(Instr.typeAssert (.iface 132 x) 78 134 true).run Tryz.prog w=.ok (.tuple #[.string ⟨#[]⟩,.bool false]) w) ∧
  (∀ w : World,(Instr.typeAssert (.iface 132 x) 78 136 true).run Tryz.prog w=.ok (.tuple #[.agg #[.nilIface,.nilIface],.bool false]) w) ∧
  (∀ w : World,(Instr.typeAssert (.iface 132 x) 78 138 true).run Tryz.prog w=.ok (.tuple #[.agg #[.string ⟨#[]⟩,.nilIface,.int .i64 0],.bool false]) w) ∧
  (∀ w : World,(Instr.typeAssert (.iface 132 x) 78 140 true).run Tryz.prog w=.ok (.tuple #[.agg #[.slice none 0 0],.bool false]) w) ∧
  (∀ w : World,(Instr.typeAssert (.iface 132 x) 78 141 true).run Tryz.prog w=.ok (.tuple #[.agg #[.slice none 0 0],.bool false]) w) ∧
  (∀ w : World,(binOp BinOp.eql 78 (.iface 132 x) .nilIface).run Tryz.prog w=.ok (.bool false) w) ∧
  (∀ w : World,(binOp BinOp.neq 78 (.iface 132 x) .nilIface).run Tryz.prog w=.ok (.bool true) w) :=
 ⟨fun w=>by kernel_rfl,fun w=>by kernel_rfl,fun w=>by kernel_rfl,fun w=>by kernel_rfl,fun w=>by kernel_rfl,fun w=>by kernel_rfl,fun w=>by kernel_rfl,fun w=>by kernel_rfl,fun w=>by kernel_rfl,fun w=>by kernel_rfl,fun w=>by kernel_rfl,fun w=>by kernel_rfl⟩
theorem ta_134 (x : Value) :
  (∀ w : World,(Instr.typeAssert (.iface 134 x) 78 87 true).run Tryz.prog w=.ok (.tuple #[.agg #[.string ⟨#[]⟩,.string ⟨#[]⟩,.string ⟨#[]⟩],.bool false]) w) ∧
  (∀ w : World,(Instr.typeAssert (.iface 134 x) 78 127 true).run Tryz.prog w=.ok (.tuple #[.agg #[.string ⟨#[]⟩,.slice none 0 0],.bool false]) w) ∧
  (∀ w : World,(Instr.typeAssert (.iface 134 x) 78 130 true).run Tryz.prog w=.ok (.tuple #[.agg #[],.bool false]) w) ∧
  (∀ w : World,(Instr.typeAssert (.iface 134 x) 78 131 true).run Tryz.prog w=.ok (.tuple #[.agg #[],.bool false]) w) ∧
  (∀ w : World,(Instr.typeAssert (.iface 134 x) 78 132 true).run Tryz.prog w=.ok (.tuple #[.string ⟨#[]⟩,.bool false]) w) ∧
  (∀ w : World,(Instr.typeAssert (.iface 134 x) 78 134 true).run Tryz.prog w=.ok (.tuple #[x,.bool true]) w) ∧
  (∀ w : World,(Instr.typeAssert (.iface 134 x) 78 136 true).run Tryz.prog w=.ok (.tuple #[.agg #[.nilIface,.nilIface],.bool false]) w) ∧
  (∀ w : World,(Instr.typeAssert (.iface 134 x) 78 138 true).run Tryz.prog w=.ok (.tuple #[.agg #[.string ⟨#[]⟩,.nilIface,.int .i64 0],.bool false]) w) ∧
  (∀ w : World,(Instr.typeAssert (.iface 134 x) 78 140 true).run Tryz.prog w=.ok (.tuple #[.agg #[.slice none 0 0],.bool false]) w) ∧
  (∀ w : World,(Instr.typeAssert (.iface 134 x) 78 141 true).run Tryz.prog w=.ok (.tuple #[.agg #[.slice none 0 0],.bool false]) w) ∧
  (∀ w : World,(binOp BinOp.eql 78 (.iface 134 x) .nilIface).run Tryz.prog w=.ok (.bool false) w) ∧
  (∀ w : World,(binOp BinOp.neq 78 (.iface 134 x) .nilIface).run Tryz.prog w=.ok (.bool true) w) :=
 ⟨fun w=>by kernel_rfl,fun w=>by kernel_rfl,fun w=>by kernel_rfl,fun w=>by kernel_rfl,fun w=>by kernel_rfl,fun w=>by kernel_rfl,fun w=>by kernel_rfl,fun w=>by kernel_rfl,fun w=>by kernel_rfl,fun w=>by kernel_rfl,fun w=>by kernel_rfl,fun w=>by kernel_rfl⟩
theorem ta_136 (x : Value) :
  (∀ w : World,(Instr.typeAssert (.iface 136 x) 78 87 true).run Tryz.prog w=.ok (.tuple #[.agg #[.string ⟨#[]⟩,.string ⟨#[]⟩,.string ⟨#[]⟩],.bool false]) w) ∧
  (∀ w : World,(Instr.typeAssert (.iface 136 x) 78 127 true).run Tryz.prog w=.ok (.tuple #[.agg #[.string ⟨#[]⟩,.slice none 0 0],.bool false]) w) ∧
  (∀ w : World,(Instr.typeAssert (.iface 136 x) 78 130 true).run Tryz.prog w=.ok (.tuple #[.agg #[],.bool false]) w) ∧
  (∀ w : World,(Instr.typeAssert (.iface 136 x) 78 131 true).run Tryz.prog w=.ok (.tuple #[.agg #[],.bool false]) w) ∧
  (∀ w : World,(Instr.typeAssert (.iface 136 x) 78 132 true).run Tryz.prog w=.ok (.tuple #[.string ⟨#[]⟩,.bool false]) w) ∧
  (∀ w : World,(Instr.typeAssert (.iface 136 x) 78 134 true).run Tryz.prog w=.ok (.tuple #[.string ⟨#[]⟩,.bool false]) w) ∧
  (∀ w : World,(Instr.typeAssert (.iface 136 x) 78 136 true).run Tryz.prog w=.ok (.tuple #[x,.bool true]) w) ∧
  (∀ w : World,(Instr.typeAssert (.iface 136 x) 78 138 true).run Tryz.prog w=.ok (.tuple #[.agg #[.string ⟨#[]⟩,.nilIface,.int .i64 0],.bool false]) w) ∧
  (∀ w : World,(Instr.typeAssert (.iface 136 x) 78 140 true).run Tryz.prog w=.ok (.tuple #[.agg #[.slice none 0 0],.bool false]) w) ∧
  (∀ w : World,(Instr.typeAssert (.iface 136 x) 78 141 true).run Tryz.prog w=.ok (.tuple #[.agg #[.slice none 0 0],.bool false]) w) ∧
  (∀ w : World,(binOp BinOp.eql 78 (.iface 136 x) .nilIface).run Tryz.prog w=.ok (.bool false) w) ∧
  (∀ w : World,(binOp BinOp.neq 78 (.iface 136 x) .nilIface).run Tryz.prog w=.ok (.bool true) w) :=
 ⟨fun w=>by kernel_rfl,fun w=>by kernel_rfl,fun w=>by kernel_rfl,fun w=>by kernel_rfl,fun w=>by kernel_rfl,fun w=>by kernel_rfl,fun w=>by kernel_rfl,fun w=>by kernel_rfl,fun w=>by kernel_rfl,fun w=>by kernel_rfl,fun w=>by kernel_rfl,fun w=>by kernel_rfl⟩
theorem ta_138 (x : Value) :
  (∀ w : World,(Instr.typeAssert (.iface 138 x) 78 87 true).run Tryz.prog w=.ok (.tuple #[.agg #[.string ⟨#[]⟩,.string ⟨#[]⟩,.string ⟨#[]⟩],.bool false]) w) ∧
  (∀ w : World,(Instr.typeAssert (.iface 138 x) 78 127 true).run Tryz.prog w=.ok (.tuple #[.agg #[.string ⟨#[]⟩,.slice none 0 0],.bool false]) w) ∧
  (∀ w : World,(Instr.typeAssert (.iface 138 x) 78 130 true).run Tryz.prog w=.ok (.tuple #[.agg #[],.bool false]) w) ∧
  (∀ w : World,(Instr.typeAssert (.iface 138 x) 78 131 true).run Tryz.prog w=.ok (.tuple #[.agg #[],.bool false]) w) ∧
  (∀ w : World,(Instr.typeAssert (.iface 138 x) 78 132 true).run Tryz.prog w=.ok (.tuple #[.string ⟨#[]⟩,.bool false]) w) ∧
  (∀ w : World,(Instr.typeAssert (.iface 138 x) 78 134 true).run Tryz.prog w=.ok (.tuple #[.string ⟨#[]⟩,.bool false]) w) ∧
  (∀ w : World,(Instr.typeAssert (.iface 138 x) 78 136 true).run Tryz.prog w=.ok (.tuple #[.agg #[.nilIface,.nilIface],.bool false]) w) ∧
  (∀ w : World,(Instr.typeAssert (.iface 138 x) 78 138 true).run Tryz.prog w=.ok (.tuple #[x,.bool true]) w) ∧
  (∀ w : World,(Instr.typeAssert (.iface 138 x) 78 140 true).run Tryz.prog w=.ok (.tuple #[.agg #[.slice none 0 0],.bool false]) w) ∧
  (∀ w : World,(Instr.typeAssert (.iface 138 x) 78 141 true).run Tryz.prog w=.ok (.tuple #[.agg #[.slice none 0 0],.bool false]) w) ∧
  (∀ w : World,(binOp BinOp.eql 78 (.iface 138 x) .nilIface).run Tryz.prog w=.ok (.bool false) w) ∧
  (∀ w : World,(binOp BinOp.neq 78 (.iface 138 x) .nilIface).run Tryz.prog w=.ok (.bool true) w) :=
 ⟨fun w=>by kernel_rfl,fun w=>by kernel_rfl,fun w=>by kernel_rfl,fun w=>by kernel_rfl,fun w=>by kernel_rfl,fun w=>by kernel_rfl,fun w=>by kernel_rfl,fun w=>by kernel_rfl,fun w=>by kernel_rfl,fun w=>by kernel_rfl,fun w=>by kernel_rfl,fun w=>by kernel_rfl⟩
theorem ta_140 (x : Value) :
  (∀ w : World,(Instr.typeAssert (.iface 140 x) 78 87 true).run Tryz.prog w=.ok (.tuple #[.agg #[.string ⟨#[]⟩,.string ⟨#[]⟩,.string ⟨#[]⟩],.bool false]) w) ∧
  (∀ w : World,(Instr.typeAssert (.iface 140 x) 78 127 true).run Tryz.prog w=.ok (.tuple #[.agg #[.string ⟨#[]⟩,.slice none 0 0],.bool false]) w) ∧
  (∀ w : World,(Instr.typeAssert (.iface 140 x) 78 130 true).run Tryz.prog w=.ok (.tuple #[.agg #[],.bool false]) w) ∧
  (∀ w : World,(Instr.typeAssert (.iface 140 x) 78 131 true).run Tryz.prog w=.ok (.tuple #[.agg #[],.bool false]) w) ∧
  (∀ w : World,(Instr.typeAssert (.iface 140 x) 78 132 true).run Tryz.prog w=.ok (.tuple #[.string ⟨#[]⟩,.bool false]) w) ∧
  (∀ w : World,(Instr.typeAssert (.iface 140 x) 78 134 true).run Tryz.prog w=.ok (.tuple #[.string ⟨#[]⟩,.bool false]) w) ∧
  (∀ w : World,(Instr.typeAssert (.iface 140 x) 78 136 true).run Tryz.prog w=.ok (.tuple #[.agg #[.nilIface,.nilIface],.bool false]) w) ∧
  (∀ w : World,(Instr.typeAssert (.iface 140 x) 78 138 true).run Tryz.prog w=.ok (.tuple #[.agg #[.string ⟨#[]⟩,.nilIface,.int .i64 0],.bool false]) w) ∧
  (∀ w : World,(Instr.typeAssert (.iface 140 x) 78 140 true).run Tryz.prog w=.ok (.tuple #[x,.bool true]) w) ∧
  (∀ w : World,(Instr.typeAssert (.iface 140 x) 78 141 true).run Tryz.prog w=.ok (.tuple #[.agg #[.slice none 0 0],.bool false]) w) ∧
  (∀ w : World,(binOp BinOp.eql 78 (.iface 140 x) .nilIface).run Tryz.prog w=.ok (.bool false) w) ∧
  (∀ w : World,(binOp BinOp.neq 78 (.iface 140 x) .nilIface).run Tryz.prog w=.ok (.bool true) w) :=
 ⟨fun w=>by kernel_rfl,fun w=>by kernel_rfl,fun w=>by kernel_rfl,fun w=>by kernel_rfl,fun w=>by kernel_rfl,fun w=>by kernel_rfl,fun w=>by kernel_rfl,fun w=>by kernel_rfl,fun w=>by kernel_rfl,fun w=>by kernel_rfl,fun w=>by kernel_rfl,fun w=>by kernel_rfl⟩
theorem ta_141 (x : Value) :
  (∀ w : World,(Instr.typeAssert (.iface 141 x) 78 87 true).run Tryz.prog w=.ok (.tuple #[.agg #[.string ⟨#[]⟩,.string ⟨#[]⟩,.string ⟨#[]⟩],.bool false]) w) ∧
  (∀ w : World,(Instr.typeAssert (.iface 141 x) 78 127 true).run Tryz.prog w=.ok (.tuple #[.agg #[.string ⟨#[]⟩,.slice none 0 0],.bool false]) w) ∧
  (∀ w : World,(Instr.typeAssert (.iface 141 x) 78 130 true).run Tryz.prog w=.ok (.tuple #[.agg #[],.bool false]) w) ∧
  (∀ w : World,(Instr.typeAssert (.iface 141 x) 78 131 true).run Tryz.prog w=.ok (.tuple #[.agg #[],.bool false]) w) ∧
  (∀ w : World,(Instr.typeAssert (.iface 141 x) 78 132 true).run Tryz.prog w=.ok (.tuple #[.string ⟨#[]⟩,.bool false]) w) ∧
  (∀ w : World,(Instr.typeAssert (.iface 141 x) 78 134 true).run Tryz.prog w=.ok (.tuple #[.string ⟨#[]⟩,.bool false]) w) ∧
  (∀ w : World,(Instr.typeAssert (.iface 141 x) 78 136 true).run Tryz.prog w=.ok (.tuple #[.agg #[.nilIface,.nilIface],.bool false]) w) ∧
  (∀ w : World,(Instr.typeAssert (.iface 141 x) 78 138 true).run Tryz.prog w=.ok (.tuple #[.agg #[.string ⟨#[]⟩,.nilIface,.int .i64 0],.bool false]) w) ∧
  (∀ w : World,(Instr.typeAssert (.iface 141 x) 78 140 true).run Tryz.prog w=.ok (.tuple #[.agg #[.slice none 0 0],.bool false]) w) ∧
  (∀ w : World,(Instr.typeAssert (.iface 141 x) 78 141 true).run Tryz.prog w=.ok (.tuple #[x,.bool true]) w) ∧
  (∀ w : World,(binOp BinOp.eql 78 (.iface 141 x) .nilIface).run Tryz.prog w=.ok (.bool false) w) ∧
  (∀ w : World,(binOp BinOp.neq 78 (.iface 141 x) .nilIface).run Tryz.prog w=.ok (.bool true) w) :=
 ⟨fun w=>by kernel_rfl,fun w=>by kernel_rfl,fun w=>by kernel_rfl,fun w=>by kernel_rfl,fun w=>by kernel_rfl,fun w=>by kernel_rfl,fun w=>by kernel_rfl,fun w=>by kernel_rfl,fun w=>by kernel_rfl,fun w=>by kernel_rfl,fun w=>by kernel_rfl,fun w=>by kernel_rfl⟩
end Go.Proofs.YtigalkobmfbdaaaGreatDoor
set_option maxRecDepth 100000
set_option maxHeartbeats 1000000
namespace Go.Proofs.YtigalkobmfbdaaaGreatDoor
open Go.RowKit
mutual
def PN.cnt : PN -> Nat
 | .nul=>1
 | .any=>1
 | .nil=>1
 | .str _=>1
 | .tok _=>1
 | .struct _ ks=>cntAll ks + 1
 | .list h t=>PN.cnt h + PN.cnt t + 1
 | .bind _ n _=>PN.cnt n + 1
 | .or ks=>cntAll ks + 1
 | .and ks=>cntAll ks + 1
 | .index _ _ _=>1
def cntAll : List PN -> Nat
 | []=>0
 | n :: ns=>PN.cnt n + cntAll ns
end
theorem cntAll_get : ∀ {ks : List PN} (j : Nat) (hj : j < ks.length),ks[j].cnt <= cntAll ks
 | n :: ns,0,_=>by rw [cntAll];exact Nat.le_add_right _ _
 | n :: ns,j + 1,hj=>by have:=cntAll_get (ks:=ns) j (by simpa using hj);rw [cntAll];simp only [List.getElem_cons_succ];omega
theorem PN.cnt_pos (n : PN) : 0 < n.cnt:=by cases n <;> rw [PN.cnt] <;> omega
theorem cntAll_len : ∀ l : List PN,l.length <= cntAll l
 | []=>Nat.zero_le _
 | n :: ns=>by have:=cntAll_len ns;have:=n.cnt_pos;rw [cntAll];simp only [List.length_cons];omega
theorem plainNs_get : ∀ {ks : List PN} (_ : plainNs ks=true) (j : Nat) (hj : j < ks.length),plainN ks[j]=true
 | n :: ns,h,0,_=>by rw [plainNs,Bool.and_eq_true] at h;exact h.1
 | n :: ns,h,j + 1,hj=>by rw [plainNs,Bool.and_eq_true] at h;simpa using plainNs_get h.2 j (by simpa using hj)
theorem Blk2 {w : World} {b : Nat} {p q : Value} {t : TypeId} (h : Blk w b #[p,q] t) : w.cell? ⟨b,0,none⟩=some p /\ w.cell? ⟨b,1,none⟩=some q:=⟨by rw [h.cell];rfl,by rw [h.cell];rfl⟩
theorem Blk1 {w : World} {b : Nat} {p : Value} {t : TypeId} (h : Blk w b #[p] t) : w.cell? ⟨b,0,none⟩=some p:=by rw [h.cell];rfl
theorem Blk.second (w : World) (A : Obj) (cs : Array Value) (t : TypeId) : Blk ((w.alloc A).alloc (.cells cs t)) (w.heap.size + 1) cs t:=by
 have:=Blk.new (w.alloc A) cs t
 simpa using this
abbrev anyV : Value:=.iface 130 (.agg #[])
def SymC (n : PN) : Prop:=∀ (X : Nat -> Prop) (v : Value) (w : World),NodeAt X w v n -> plainN n=true -> Calls Tryz.prog 90 #[v,.bool false] w fun e w'=>e=.returned anyV /\ Ext w w'
theorem and_any (p : Option Addr) (w : World) : Calls Tryz.prog 116 #[anyV,.pointer p] w fun e w'=>e=.returned (.tuple #[]) /\ Ext w w':=by
 obtain ⟨t1,t2,t3,t4,t5,t6,t7,t8,t9,t10,t11,t12⟩:=ta_130 (.agg #[])
 go_enter Tryz.func116,Tryz.ntmps116
 go_wp2_with fail
 go_end0
 exact ⟨rfl,Ext.alloc _ _⟩
theorem sym_leaf {n : PN} (hn : n=.nul \/ n=.any \/ n=.nil \/ (∃ s,n=.str s) \/ ∃ s,n=.tok s) : SymC n:=by
 intro X v w hv hp
 rcases hn with rfl | rfl | rfl | ⟨s,rfl⟩ | ⟨s,rfl⟩ <;> rw [NodeAt] at hv <;> subst hv
 ·obtain ⟨t1,t2,t3,t4,t5,t6,t7,t8,t9,t10,t11,t12⟩:=ta_nil
  go_enter Tryz.func90,Tryz.ntmps90
  go_wp2_with fail
  go_ret
  exact ⟨rfl,Ext.refl _⟩
 ·obtain ⟨t1,t2,t3,t4,t5,t6,t7,t8,t9,t10,t11,t12⟩:=ta_130 (.agg #[])
  go_enter Tryz.func90,Tryz.ntmps90
  go_wp2_with fail
  go_ret
  exact ⟨rfl,Ext.alloc _ _⟩
 ·obtain ⟨t1,t2,t3,t4,t5,t6,t7,t8,t9,t10,t11,t12⟩:=ta_131 (.agg #[])
  go_enter Tryz.func90,Tryz.ntmps90
  go_wp2_with fail
  go_ret
  exact ⟨rfl,Ext.refl _⟩
 ·obtain ⟨t1,t2,t3,t4,t5,t6,t7,t8,t9,t10,t11,t12⟩:=ta_132 (.string s)
  go_enter Tryz.func90,Tryz.ntmps90
  go_wp2_with fail
  go_ret
  exact ⟨rfl,Ext.refl _⟩
 ·obtain ⟨t1,t2,t3,t4,t5,t6,t7,t8,t9,t10,t11,t12⟩:=ta_134 (.string s)
  go_enter Tryz.func90,Tryz.ntmps90
  go_wp2_with fail
  go_ret
  exact ⟨rfl,Ext.refl _⟩
theorem sym_bind {nm : ByteArray} {n : PN} {i : Int} (ih : SymC n) : SymC (.bind nm n i):=by
 intro X v w hv hp
 rw [NodeAt] at hv
 obtain ⟨nv,rfl,hn⟩:=hv
 rw [plainN] at hp
 have H:=Lib.hid (And.intro hn hp)
 clear hn hp
 rcases H.out.1.shape with rfl | ⟨tt,xx,rfl⟩
 ·obtain ⟨t1,t2,t3,t4,t5,t6,t7,t8,t9,t10,t11,t12⟩:=ta_138 (.agg #[.string nm,.nilIface,.int .i64 i])
  go_enter Tryz.func90,Tryz.ntmps90
  go_wp2_with fail
  refine (ih X _ _ (H.out.1.mono ((Ext.alloc _ _).keeps X)) H.out.2).mono ?_
  rintro e w' ⟨rfl,hE⟩
  go_wp2_with fail
  go_ret
  exact ⟨rfl,hE.of_alloc⟩
 ·obtain ⟨t1,t2,t3,t4,t5,t6,t7,t8,t9,t10,t11,t12⟩:=ta_138 (.agg #[.string nm,.iface tt xx,.int .i64 i])
  go_enter Tryz.func90,Tryz.ntmps90
  go_wp2_with fail
  refine (ih X _ _ (H.out.1.mono ((Ext.alloc _ _).keeps X)) H.out.2).mono ?_
  rintro e w' ⟨rfl,hE⟩
  go_wp2_with fail
  go_ret
  exact ⟨rfl,hE.of_alloc⟩
theorem sym_list_one {h t : PN} (ih1 : SymC h) (ih2 : SymC t) (X : Nat -> Prop) (p q : Value) (w : World) (H : Hid (NodeAt X w p h /\ NodeAt X w q t /\ plainN h=true /\ plainN t=true)) : Calls Tryz.prog 90 #[.iface 136 (.agg #[p,q]),.bool false] w fun e w'=>e=.returned anyV /\ Ext w w':=by
 obtain ⟨t1,t2,t3,t4,t5,t6,t7,t8,t9,t10,t11,t12⟩:=ta_136 (.agg #[p,q])
 have HA : Hid (Blk ((w.alloc (.cells #[p,q] 136)).alloc (.cells #[.slice none 0 0] 141)) w.heap.size #[p,q] 136):=Lib.hid ((Blk.new w #[p,q] 136).ext (Ext.alloc _ _))
 have HB : Hid (Blk ((w.alloc (.cells #[p,q] 136)).alloc (.cells #[.slice none 0 0] 141)) (w.heap.size + 1) #[.slice none 0 0] 141):=Lib.hid (Blk.second _ _ _ _)
 have HW : Hid (Ext w ((w.alloc (.cells #[p,q] 136)).alloc (.cells #[.slice none 0 0] 141))):=Lib.hid ((Ext.alloc _ _).trans (Ext.alloc _ _))
 rcases H.out.1.shape with rfl | ⟨tt,xx,rfl⟩ <;> rcases H.out.2.1.shape with rfl | ⟨tt2,xx2,rfl⟩
 all_goals
  go_enter Tryz.func90,Tryz.ntmps90
  go_wp2_with fail
  refine (ih1 X _ _ (H.out.1.mono (HW.out.keeps X)) H.out.2.2.1).mono ?_
  rintro e w1 ⟨rfl,hE1⟩
  have HE1:=Lib.hid hE1
  clear hE1
  go_wp2_with fail
  refine (and_any _ _).mono ?_
  rintro e w2 ⟨rfl,hE2⟩
  have HE2:=Lib.hid (HE1.out.trans hE2)
  clear hE2
  obtain ⟨c0,c1⟩:=Blk2 (HA.out.ext HE2.out)
  go_wp2_with fail
  refine (ih2 X _ _ (H.out.2.1.mono ((HW.out.trans HE2.out).keeps X)) H.out.2.2.2).mono ?_
  rintro e w3 ⟨rfl,hE3⟩
  have HE3:=Lib.hid (HE2.out.trans hE3)
  clear hE3
  go_wp2_with fail
  refine (and_any _ _).mono ?_
  rintro e w4 ⟨rfl,hE4⟩
  have HE4:=Lib.hid (HE3.out.trans hE4)
  clear hE4
  have c2:=Blk1 (HB.out.ext HE4.out)
  go_wp2_with fail
  go_ret
  exact ⟨rfl,HW.out.trans HE4.out⟩
theorem sym_list {h t : PN} (ih1 : SymC h) (ih2 : SymC t) : SymC (.list h t):=by
 intro X v w hv hp
 rw [NodeAt] at hv
 obtain ⟨p,q,rfl,hh,ht⟩:=hv
 rw [plainN,Bool.and_eq_true] at hp
 exact sym_list_one ih1 ih2 X p q w (Lib.hid ⟨hh,ht,hp⟩)
theorem sym_or {ks : List PN} (ih : ∀ (j : Nat) (hj : j < ks.length),SymC ks[j]) : SymC (.or ks):=by
 intro X v w hv hp
 rw [NodeAt] at hv
 obtain ⟨a,c,rfl,hc,hk⟩:=hv
 rw [plainN,Bool.and_eq_true,Bool.not_eq_true',List.isEmpty_eq_false_iff] at hp
 have h0 : 0 < ks.length:=List.length_pos_iff.2 hp.1
 obtain ⟨b,o,u,rfl,hb,hcell,hn⟩:=hk.get 0 h0
 have hpl:=plainNs_get hp.2 0 h0
 have hc0:=hcell
 rw [Nat.add_zero] at hc0
 have H:=Lib.hid (And.intro hn hpl)
 have hz : (0 : Int) < (ks.length : Int):=by omega
 clear hn hpl hp hk hcell hb
 obtain ⟨t1,t2,t3,t4,t5,t6,t7,t8,t9,t10,t11,t12⟩:=ta_140 (.agg #[.slice (some ⟨b,o,none⟩) ks.length c])
 obtain ⟨s1,s2,s3,s4,s5,s6,s7,s8,s9,s10,s11,s12⟩:=ta_130 (.agg #[])
 have HW : Hid (Ext w ((w.alloc (.cells #[.slice (some ⟨b,o,none⟩) ks.length c] 140)).alloc (.cells #[.slice none 0 0] 140))):=Lib.hid ((Ext.alloc _ _).trans (Ext.alloc _ _))
 have hbl:=cell_lt hc0
 simp only at hbl
 have hne1 : b ≠ w.heap.size:=by omega
 have hne2 : b ≠ w.heap.size + 1:=by omega
 rcases H.out.1.shape with rfl | ⟨tt,xx,rfl⟩
 all_goals
  go_enter Tryz.func90,Tryz.ntmps90
  go_wp2_with fail
  go_loopw [33] (fun i wr=>i=.int .i64 0 /\ wr=((w.alloc (.cells #[.slice (some ⟨b,o,none⟩) ks.length c] 140)).alloc (.cells #[.slice none 0 0] 140))) (fun _ _=>0)
  case atStart=>exact ⟨rfl,rfl⟩
  case round =>
   obtain ⟨rfl,rfl⟩:=hrel
   go_wp2_with fail
   refine (ih 0 h0 X _ _ (H.out.1.mono (HW.out.keeps X)) H.out.2).mono ?_
   rintro e w1 ⟨rfl,hE1⟩
   have HE1:=Lib.hid (HW.out.trans hE1)
   clear hE1
   go_wp2_with fail
   go_ret
   exact ⟨rfl,HE1.out.trans (Ext.alloc _ _)⟩
theorem zz_plain {ks : List PN} (ih : ∀ (j : Nat) (hj : j < ks.length),SymC ks[j]) (X : Nat -> Prop) (nm : ByteArray) (a : Option Addr) (c : Nat) (w : World) (hk : NodesAt X w a ks) (hp : plainNs ks=true) (hlen : ks.length <= 100000) :
  Calls Tryz.prog 117 #[.agg #[.string nm,.slice a ks.length c],.bool false,.func (.func 116) #[] #[]] w fun e w'=>e=.returned anyV /\ Ext w w':=by
 have HK:=Lib.hid (And.intro hk hp)
 clear hk hp
 have HA : Hid (Blk ((w.alloc (.cells #[.string nm,.slice a ks.length c] 127)).alloc (.cells #[.slice none 0 0] 141)) (w.heap.size + 1) #[.slice none 0 0] 141):=Lib.hid (Blk.second _ _ _ _)
 have HW : Hid (Ext w ((w.alloc (.cells #[.string nm,.slice a ks.length c] 127)).alloc (.cells #[.slice none 0 0] 141))):=Lib.hid ((Ext.alloc _ _).trans (Ext.alloc _ _))
 go_enter Tryz.func117,Tryz.ntmps117
 go_wp2_with fail
 go_loopw [14] (fun i wr=>∃ j : Nat,i=.int .i64 j /\ j <= ks.length /\ Ext ((w.alloc (.cells #[.string nm,.slice a ks.length c] 127)).alloc (.cells #[.slice none 0 0] 141)) wr) (fun i _=>ks.length - (intOf i).toNat)
 case atStart=>exact ⟨0,rfl,Nat.zero_le _,Ext.refl _⟩
 case round =>
  obtain ⟨j,rfl,hj,hE⟩:=hrel
  have KE:=Lib.hid hE
  clear hE
  by_cases hlt : j < ks.length
  ·obtain ⟨b,o,u,rfl,hb,hcell,hn⟩:=HK.out.1.get j hlt
   have hcw:=(HW.out.trans KE.out).keep hcell
   have H:=Lib.hid (And.intro hn (plainNs_get HK.out.2 j hlt))
   clear hn hcell hb
   rcases H.out.1.shape with rfl | ⟨tt,xx,rfl⟩
   all_goals
    go_wp2_with fail
    refine (ih j hlt X _ _ (H.out.1.mono ((HW.out.trans KE.out).keeps X)) H.out.2).mono ?_
    rintro e w1 ⟨rfl,hE1⟩
    have HE1:=Lib.hid (KE.out.trans hE1)
    clear hE1
    go_wp2_with fail
    refine (and_any _ _).mono ?_
    rintro e w2 ⟨rfl,hE2⟩
    have HE2:=Lib.hid (HE1.out.trans hE2)
    clear hE2
    go_wp2_with fail
    exact ⟨⟨j + 1,by go_num,by omega,HE2.out⟩,by simp [intOf];omega⟩
  ·obtain rfl : j=ks.length:=by omega
   have c2:=Blk1 (HA.out.ext KE.out)
   go_wp2_with fail
   go_ret
   exact ⟨rfl,HW.out.trans KE.out⟩
theorem sym_struct {nm : ByteArray} {ks : List PN} (ih : ∀ (j : Nat) (hj : j < ks.length),SymC ks[j]) (hlen : ks.length <= 100000) : SymC (.struct nm ks):=by
 intro X v w hv hp
 rw [NodeAt] at hv
 obtain ⟨a,c,rfl,hc,hk⟩:=hv
 rw [plainN,Bool.and_eq_true,Bool.not_eq_true'] at hp
 have hs:=hp.1
 have HK:=Lib.hid (And.intro hk hp.2)
 clear hk hp
 obtain ⟨t1,t2,t3,t4,t5,t6,t7,t8,t9,t10,t11,t12⟩:=ta_127 (.agg #[.string nm,.slice a ks.length c])
 cases hn : (nm.toList == [78,111,116])
 ·go_enter Tryz.func90,Tryz.ntmps90
  go_wp2_with fail
  refine (zz_plain ih X nm a c _ (HK.out.1.mono ((Ext.alloc _ _).keeps X)) HK.out.2 hlen).mono ?_
  rintro e w1 ⟨rfl,hE1⟩
  go_wp2_with fail
  go_ret
  exact ⟨rfl,hE1.of_alloc⟩
 ·go_enter Tryz.func90,Tryz.ntmps90
  go_wp2_with fail
  go_ret
  exact ⟨rfl,Ext.alloc _ _⟩
theorem sym_all : ∀ (k : Nat) (n : PN),n.cnt < k -> n.cnt <= 100000 -> plainN n=true -> SymC n
 | 0,_,h,_,_=>by omega
 | k + 1,.nul,_,_,_=>sym_leaf (.inl rfl)
 | k + 1,.any,_,_,_=>sym_leaf (.inr (.inl rfl))
 | k + 1,.nil,_,_,_=>sym_leaf (.inr (.inr (.inl rfl)))
 | k + 1,.str s,_,_,_=>sym_leaf (.inr (.inr (.inr (.inl ⟨s,rfl⟩))))
 | k + 1,.tok s,_,_,_=>sym_leaf (.inr (.inr (.inr (.inr ⟨s,rfl⟩))))
 | k + 1,.bind nm n i,h,hl,hp=>by
  rw [PN.cnt] at h hl
  rw [plainN] at hp
  exact sym_bind (sym_all k n (by omega) (by omega) hp)
 | k + 1,.list x y,h,hl,hp=>by
  rw [PN.cnt] at h hl
  rw [plainN,Bool.and_eq_true] at hp
  exact sym_list (sym_all k x (by omega) (by omega) hp.1) (sym_all k y (by omega) (by omega) hp.2)
 | k + 1,.or ks,h,hl,hp=>by
  rw [PN.cnt] at h hl
  rw [plainN,Bool.and_eq_true] at hp
  exact sym_or fun j hj=>sym_all k _ (by have:=cntAll_get j hj;omega) (by have:=cntAll_get j hj;omega) (plainNs_get hp.2 j hj)
 | k + 1,.struct nm ks,h,hl,hp=>by
  rw [PN.cnt] at h hl
  rw [plainN,Bool.and_eq_true] at hp
  exact sym_struct (fun j hj=>sym_all k _ (by have:=cntAll_get j hj;omega) (by have:=cntAll_get j hj;omega) (plainNs_get hp.2 j hj)) (by have:=cntAll_len ks;omega)
 | k + 1,.and ks,_,_,hp=>by rw [plainN] at hp;cases hp
 | k + 1,.index _ _ _,_,_,hp=>by rw [plainN] at hp;cases hp
theorem sym_calls {n : PN} (hp : plainN n=true) (hl : n.cnt <= 100000) : SymC n:=sym_all (n.cnt + 1) n (Nat.lt_succ_self _) hl hp
end Go.Proofs.YtigalkobmfbdaaaGreatDoor
set_option maxRecDepth 100000
set_option maxHeartbeats 4000000
namespace Go.Proofs.YtigalkobmfbdaaaGreatDoor
open Go.RowKit Go.WideMaps
theorem underlying160 : Tryz.prog.underlying 160=some (.map 9 4):=by kernel_rfl
theorem underlying4 : Tryz.prog.underlying 4=some .bool:=by kernel_rfl
theorem law9b : Maps.Keyed Tryz.prog 9:=Maps.string_keyed underlying9
def SetIs (w : World) (mb k : Nat) (names : Names) : Prop :=
 ∃ D : DataW Unit,w.ownsMap Tryz.prog 9 (plainElem Tryz.prog 4) mb k D /\ Maps.size D=names.length /\ ∀ s,Maps.has D (keyL s)=decide (s ∈ names)
theorem SetIs.mono {w : World} {mb k k' : Nat} {names : Names} (h : SetIs w mb k names) (hk : k <= k') : SetIs w mb k' names:=by
 obtain ⟨D,h1,h2⟩:=h;exact ⟨D,h1.mono hk,h2⟩
theorem SetIs.extM {M : Nat -> Prop} {w w' : World} {mb k : Nat} {names : Names} (h : SetIs w mb k names) (hE : ExtM M w w') (hM : ¬ M mb) : SetIs w' mb k names:=by
 obtain ⟨D,h1,h2⟩:=h
 have hlt:=h1.lt
 obtain ⟨es,clock,hb,r⟩:=h1
 exact ⟨D,⟨es,clock,(hE.block mb hlt hM).trans hb,r⟩,h2⟩
theorem SetIs.ext {w w' : World} {mb k : Nat} {names : Names} (h : SetIs w mb k names) (hE : Ext w w') : SetIs w' mb k names:=h.extM (hE.toM fun _=>False) (fun h=>h)
theorem SetIs.add {w' : World} {mb k : Nat} {names : Names} {D : DataW Unit} (h2 : Maps.size D=names.length) (h3 : ∀ s,Maps.has D (keyL s)=decide (s ∈ names)) (hT : Maps.Tidy D) {s : List UInt8} {v : DataW Unit} (h : w'.ownsMap Tryz.prog 9 (plainElem Tryz.prog 4) mb (k + 1) (D.put (keyL s) v)) : SetIs w' mb (k + 1) (addName names s):=by
 refine ⟨_,h,?_,fun t=>?_⟩
 ·rw [Maps.size_put hT,h3]
  unfold addName
  by_cases hs : s ∈ names <;> simp [hs,h2]
 ·by_cases e : t=s
  ·subst e;rw [Maps.has_put_same hT.isMap (k:=keyL t) trivial];simp [mem_addName]
  ·rw [Maps.has_put_other (keyL_ne e),h3];simp [mem_addName,e]
theorem named_types_facts : ∀ x ∈ fieldsT,(x.1.toList == [66,117,105,108,116,105,110])=false /\ (x.1.toList == [79,98,106,101,99,116])=false /\ (x.1.toList == [83,121,109,98,111,108])=false /\ (x.1.toList == [73,110,116,101,103,101,114,76,105,116,101,114,97,108])=false /\ (x.1.toList == [84,114,117,108,121,67,111,110,115,116,97,110,116,69,120,112,114,101,115,115,105,111,110])=false /\ (x.1.toList == [69,108,108,105,112,115,105,115])=false:=by decide +kernel
theorem types_named {k : ByteArray} (hn : named k=true) (w : World) : Calls Tryz.prog 122 #[.string k] w fun e w'=>∃ g,e=.returned (.tuple #[.slice (some ⟨g,0,none⟩) 1 1,.bool true]) /\ w'.cell? ⟨g,0,none⟩=some (.string k) /\ w.heap.size <= g /\ Ext w w':=by
 obtain ⟨y,hy,rfl⟩:=named_key hn
 obtain ⟨h1,h2,h3,h4,h5,h6⟩:=named_types_facts y hy
 have HS:=Lib.hid ((named_facts y hy).2.2.1 hn)
 clear hn hy
 go_enter Tryz.func122,Tryz.ntmps122
 go_wp2_with fail
 refine (sn_some HS.out _).mono ?_
 rintro e w1 ⟨rfl,rfl⟩
 go_wp2_with fail
 go_ret2
 exact ⟨_,rfl,Blk1 (Blk.new _ _ _),Nat.le_refl _,Ext.alloc _ _⟩
theorem cntAll_take : ∀ (ks : List PN) (j : Nat) (h : j < ks.length),cntAll (ks.take (j + 1))=cntAll (ks.take j) + ks[j].cnt
 | n :: ns,0,_=>by simp [cntAll]
 | n :: ns,j + 1,h=>by
  have:=cntAll_take ns j (by simpa using h)
  simp only [List.take_succ_cons,cntAll,List.getElem_cons_succ,this]
  omega
theorem cntAll_take_le : ∀ (ks : List PN) (j : Nat),cntAll (ks.take j) <= cntAll ks
 | [],j=>by simp
 | n :: ns,0=>by simp [cntAll]
 | n :: ns,j + 1=>by
  have:=cntAll_take_le ns j
  simp only [List.take_succ_cons,cntAll]
  omega
theorem toTrees_tame : ∀ {ks : List PN} (_ : tameAll (toTrees ks)=true) (j : Nat) (hj : j < ks.length),tame (toTree ks[j])=true
 | n :: ns,h,0,_=>by rw [toTrees] at h;simp only [tameAll,Bool.and_eq_true] at h;exact h.1
 | n :: ns,h,j + 1,hj=>by rw [toTrees] at h;simp only [tameAll,Bool.and_eq_true] at h;simpa using toTrees_tame h.2 j (by simpa using hj)
def EntryC (n : PN) : Prop:=∀ (acc E : Names),entryN n acc=some E -> ∀ (X : Nat -> Prop) (v : Value) (w : World) (mb k : Nat),NodeAt X w v n -> (∀ b,X b -> b ≠ mb) -> SetIs w mb k acc -> k + n.cnt <= 100000 →
 Calls Tryz.prog 92 #[v,.map (some mb)] w fun e w'=>e=.returned .nilIface /\ ExtM (·=mb) w w' /\ SetIs w' mb (k + n.cnt) E
theorem entry_struct {nm : ByteArray} {ks : List PN} (ih : ∀ (j : Nat) (hj : j < ks.length),EntryC ks[j]) (hz : nm.size <= 100000) : EntryC (.struct nm ks):=by
 intro acc E hE X v w mb k hv hX hS hk
 rw [NodeAt] at hv
 obtain ⟨a,c,rfl,hc,hks⟩:=hv
 rw [entryN_struct] at hE
 obtain ⟨t1,t2,t3,t4,t5,t6,t7,t8,t9,t10,t11,t12⟩:=ta_127 (.agg #[.string nm,.slice a ks.length c])
 cases hN : (nm.toList == [78,111,116])
 ·rw [hN] at hE
  simp only [Bool.false_eq_true,if_false] at hE
  cases hn : named nm
  ·rw [hn] at hE;cases hE
  rw [hn,if_pos rfl] at hE
  have HE:=Lib.hid (Option.some.inj hE)
  have HS:=Lib.hid hS
  have HN:=Lib.hid hn
  have hcnt : (PN.struct nm ks).cnt=cntAll ks + 1:=by rw [PN.cnt]
  have hk' : k + 1 <= 100000:=by omega
  have HK : Hid (k + 1 <= k + (PN.struct nm ks).cnt):=Lib.hid (by omega)
  clear hE hS hn hks hcnt hk
  go_enter Tryz.func92,Tryz.ntmps92
  go_wp2_with fail
  refine (types_named HN.out _).mono ?_
  rintro e w1 ⟨g,rfl,hcg,hg,hE1⟩
  have HE1:=Lib.hid hE1
  clear hE1
  go_wp2_with fail
  have HS1:=Lib.hid (HS.out.ext ((Ext.alloc w (.cells #[.string nm,.slice a ks.length c] 127)).trans HE1.out))
  go_loopg [98] 1 (fun j i wr=>i=.int .i64 (match j with | 0=>1 | _=>0) /\ j <= 1 /\ ExtM (·=mb) w1 wr /\ SetIs wr mb (if j=0 then k + 1 else k) (if j=0 then E else acc))
  case atStart=>exact ⟨rfl,Nat.le_refl _,ExtM.refl _ _,by simpa using HS1.out⟩
  case round =>
   obtain ⟨rfl,hj,hX1,hS1⟩:=hrel
   have hmb : mb < w.heap.size:=by obtain ⟨D,h,-⟩:=HS.out;exact h.lt
   have hgs : w.heap.size < g:=by simp at hg;omega
   have hcr:=hX1.keep (M:=(·=mb)) (by simp only;omega) hcg
   have KX:=Lib.hid hX1
   have KS:=Lib.hid hS1
   clear hX1 hS1 hcg hg
   cases gk with
   | zero =>
    go_wp2_with fail
    go_ret
    have h1:=KS.out
    simp only [if_true] at h1
    exact ⟨rfl,((Ext.alloc _ _).trans HE1.out).extM KX.out,h1.mono HK.out⟩
   | succ m =>
    obtain rfl : m=0:=by omega
    obtain ⟨D,hO,h2,h3⟩:=KS.out
    simp only [Nat.zero_add,Nat.one_ne_zero,if_false] at hO h2 h3
    have hT:=hO.tidy law9b
    have HD:=Lib.hid (And.intro h2 (And.intro h3 hT))
    have HO:=Lib.hid hO
    clear h2 h3 hO hT
    have hkey:=keyOf_string_mk (P:=Tryz.prog) underlying9 (s:=nm) (by unfold maxLen;omega)
    rw [<- ByteArray.toList_eq] at hkey
    go_wp2_with (first
     | (at_mapUpdate;refine wpList_mapUpdate_own _ rfl _ _ _ 160 rfl 9 4 law9b underlying160 _ mb _ _ rfl HO.out (by unfold maxLen;omega) _ _ _ rfl rfl hkey _ [] (plainElem_bool underlying4 true) ?_;intro w2 hown2 hgrow2;go_frame)
     | go_in)
    go_roundg 0
    case measure=>omega
    case rel =>
     refine ⟨rfl,by omega,KX.out.trans' (ExtM.of_grown hgrow2),?_⟩
     simp only [if_true]
     rw [<- HE.out]
     exact SetIs.add HD.out.1 HD.out.2.1 HD.out.2.2 hown2
 ·rw [hN,if_pos rfl] at hE
  match ks,ih,hks,hE with
  | [n],ih,hks,hE =>
   obtain ⟨b,o,u,rfl,hb,hcell,hn⟩:=hks.get 0 (by simp)
   have hc0:=hcell
   rw [Nat.add_zero] at hc0
   simp only [List.getElem_cons_zero] at hn
   have hbl:=cell_lt hc0
   simp only at hbl
   have HS:=Lib.hid hS
   have HX:=Lib.hid hX
   have H:=Lib.hid hn
   have hcnt : (PN.struct nm [n]).cnt=n.cnt + 1:=by rw [PN.cnt,cntAll,cntAll]
   have hk' : k + n.cnt <= 100000:=by omega
   have HK : Hid (k + n.cnt <= k + (PN.struct nm [n]).cnt):=Lib.hid (by omega)
   have HE:=Lib.hid hE
   simp only [List.length_singleton] at t1 t2 t3 t4 t5 t6 t7 t8 t9 t10 t11 t12
   simp only [List.length_singleton]
   clear hE hS hX hks hcnt hk hn hcell hb
   rcases H.out.shape with rfl | ⟨tt,xx,rfl⟩
   all_goals
    go_enter Tryz.func92,Tryz.ntmps92
    go_wp2_with fail
    refine (ih 0 (by simp) acc E HE.out X _ _ mb k (H.out.mono ((Ext.alloc _ _).keeps X)) HX.out (HS.out.ext (Ext.alloc _ _)) hk').mono ?_
    rintro e w1 ⟨rfl,hX1,hS1⟩
    go_wp2_with fail
    go_ret
    exact ⟨rfl,(Ext.alloc _ _).extM hX1,hS1.mono HK.out⟩
theorem entry_or {ks : List PN} (ih : ∀ (j : Nat) (hj : j < ks.length),EntryC ks[j]) (hlen : ks.length <= 100000) : EntryC (.or ks):=by
 intro acc E hE X v w mb k hv hX hS hk
 rw [NodeAt] at hv
 obtain ⟨a,c,rfl,hc,hks⟩:=hv
 rw [entryN] at hE
 have hcnt : (PN.or ks).cnt=cntAll ks + 1:=by rw [PN.cnt]
 obtain ⟨t1,t2,t3,t4,t5,t6,t7,t8,t9,t10,t11,t12⟩:=ta_140 (.agg #[.slice a ks.length c])
 have q5:=nilne
 have HS:=Lib.hid hS
 have HX:=Lib.hid hX
 have HE:=Lib.hid hE
 have H:=Lib.hid hks
 have hmb : mb < w.heap.size:=by obtain ⟨D,h,-⟩:=hS;exact h.lt
 have hk' : k + cntAll ks <= 100000:=by omega
 have HK : Hid (k + cntAll ks <= k + (PN.or ks).cnt):=Lib.hid (by omega)
 clear hE hS hX hks hcnt hk
 go_enter Tryz.func92,Tryz.ntmps92
 go_wp2_with fail
 have HW:=Lib.hid (Ext.alloc w (.cells #[.slice a ks.length c] 140))
 go_loopw [27] (fun i wr=>∃ (j : Nat) (acc' : Names),i=.int .i64 j /\ j <= ks.length /\ entryNs (ks.drop j) acc'=some E /\ ExtM (·=mb) (w.alloc (.cells #[.slice a ks.length c] 140)) wr /\ SetIs wr mb (k + cntAll (ks.take j)) acc') (fun i _=>ks.length - (intOf i).toNat)
 case atStart=>exact ⟨0,acc,rfl,Nat.zero_le _,by simpa using HE.out,ExtM.refl _ _,by simpa [cntAll] using HS.out.ext HW.out⟩
 case round =>
  obtain ⟨j,acc',rfl,hj,hE',hX1,hS1⟩:=hrel
  have KX:=Lib.hid hX1
  have KS:=Lib.hid hS1
  have KE:=Lib.hid hE'
  clear hX1 hS1 hE'
  by_cases hlt : j < ks.length
  ·obtain ⟨b,o,u,rfl,hb,hcell,hn⟩:=H.out.get j hlt
   have hbm:=HX.out b hb
   have hcw:=KX.out.keep (M:=(·=mb)) (by simp only;omega) (HW.out.keep hcell)
   have hke : Keeps X w wr:=(HW.out.keeps X).trans (KX.out.keeps fun b hb e=>HX.out b hb e)
   have HN:=Lib.hid (hn.mono hke)
   have e1:=KE.out
   rw [List.drop_eq_getElem_cons hlt,entryNs] at e1
   have htk : cntAll (ks.take (j + 1))=cntAll (ks.take j) + ks[j].cnt:=cntAll_take ks j hlt
   have hle : cntAll (ks.take (j + 1)) <= cntAll ks:=cntAll_take_le ks (j + 1)
   clear hcell hn hke hb
   cases hA : entryN ks[j] acc' with
   | none=>rw [hA] at e1;cases e1
   | some A =>
    rw [hA] at e1
    have HA:=Lib.hid hA
    have HE1:=Lib.hid e1
    have hkk : k + cntAll (ks.take j) + ks[j].cnt <= 100000:=by omega
    have HT:=Lib.hid htk
    clear e1 hA htk hle
    rcases HN.out.shape with rfl | ⟨tt,xx,rfl⟩
    all_goals
     go_wp2_with fail
     refine (ih j hlt acc' A HA.out X _ _ mb _ HN.out HX.out KS.out hkk).mono ?_
     rintro e w1 ⟨rfl,hX2,hS2⟩
     have KX2:=Lib.hid hX2
     have KS2:=Lib.hid hS2
     clear hX2 hS2
     go_wp2_with fail
     exact ⟨⟨j + 1,A,by go_num,by omega,HE1.out,KX.out.trans' KX2.out,by rw [HT.out,<- Nat.add_assoc];exact KS2.out⟩,by simp [intOf];omega⟩
  ·obtain rfl : j=ks.length:=by omega
   go_wp2_with fail
   go_ret
   have e1:=KE.out
   rw [List.drop_length,entryNs] at e1
   obtain rfl:=Option.some.inj e1
   have h1:=KS.out
   rw [List.take_length] at h1
   exact ⟨rfl,HW.out.extM KX.out,h1.mono HK.out⟩
theorem entry_all : ∀ (k : Nat) (n : PN),n.cnt < k -> n.cnt <= 100000 -> tame (toTree n)=true -> EntryC n
 | 0,_,h,_,_=>by omega
 | k + 1,.nul,_,_,_=>fun _ _ h=>(by unfold entryN at h;cases h)
 | k + 1,.any,_,_,_=>fun _ _ h=>(by unfold entryN at h;cases h)
 | k + 1,.nil,_,_,_=>fun _ _ h=>(by unfold entryN at h;cases h)
 | k + 1,.str s,_,_,_=>fun _ _ h=>(by unfold entryN at h;cases h)
 | k + 1,.tok s,_,_,_=>fun _ _ h=>(by unfold entryN at h;cases h)
 | k + 1,.bind _ _ _,_,_,_=>fun _ _ h=>(by unfold entryN at h;cases h)
 | k + 1,.list _ _,_,_,_=>fun _ _ h=>(by unfold entryN at h;cases h)
 | k + 1,.and _,_,_,_=>fun _ _ h=>(by unfold entryN at h;cases h)
 | k + 1,.index _ _ _,_,_,_=>fun _ _ h=>(by unfold entryN at h;cases h)
 | k + 1,.or ks,h,hl,ht=>by
  rw [PN.cnt] at h hl
  rw [toTree] at ht
  have hta:=(tame_parts ht).2.2
  exact entry_or (fun j hj=>entry_all k _ (by have:=cntAll_get j hj;omega) (by have:=cntAll_get j hj;omega) (toTrees_tame hta j hj)) (by have:=cntAll_len ks;omega)
 | k + 1,.struct nm ks,h,hl,ht=>by
  rw [PN.cnt] at h hl
  rw [toTree] at ht
  obtain ⟨h1,-,hta⟩:=tame_parts ht
  exact entry_struct (fun j hj=>entry_all k _ (by have:=cntAll_get j hj;omega) (by have:=cntAll_get j hj;omega) (toTrees_tame hta j hj)) (by omega)
end Go.Proofs.YtigalkobmfbdaaaGreatDoor
set_option maxRecDepth 100000
set_option maxHeartbeats 4000000
namespace Go.Proofs.YtigalkobmfbdaaaGreatDoor
open Go.RowKit
abbrev rootF (p7 p6 : Option Addr) : Value:=.func (.func 120) #[] #[.pointer p7,.pointer p6]
def RootC (n : PN) : Prop:=∀ (X : Nat -> Prop) (v : Value) (w : World) (b7 : Nat) (p6 : Option Addr),NodeAt X w v n -> plainN n=true -> w.cell? ⟨b7,0,none⟩=some (rootF (some ⟨b7,0,none⟩) p6) →
 Calls Tryz.prog 120 #[v,.pointer (some ⟨b7,0,none⟩),.pointer p6] w fun e w'=>e=.returned (.bool false) /\ Ext w w'
theorem root_leaf {n : PN} (hn : n=.nul \/ n=.any \/ n=.nil \/ (∃ s,n=.str s) \/ (∃ s,n=.tok s) \/ ∃ h t,n=.list h t) : RootC n:=by
 intro X v w b7 p6 hv hp hc
 rcases hn with rfl | rfl | rfl | ⟨s,rfl⟩ | ⟨s,rfl⟩ | ⟨h,t,rfl⟩ <;> rw [NodeAt] at hv
 ·subst hv
  obtain ⟨t1,t2,t3,t4,t5,t6,t7,t8,t9,t10,t11,t12⟩:=ta_nil
  go_enter Tryz.func120,Tryz.ntmps120
  go_wp2_with fail
  go_ret
  exact ⟨rfl,Ext.refl _⟩
 ·subst hv
  obtain ⟨t1,t2,t3,t4,t5,t6,t7,t8,t9,t10,t11,t12⟩:=ta_130 (.agg #[])
  go_enter Tryz.func120,Tryz.ntmps120
  go_wp2_with fail
  go_ret
  exact ⟨rfl,Ext.refl _⟩
 ·subst hv
  obtain ⟨t1,t2,t3,t4,t5,t6,t7,t8,t9,t10,t11,t12⟩:=ta_131 (.agg #[])
  go_enter Tryz.func120,Tryz.ntmps120
  go_wp2_with fail
  go_ret
  exact ⟨rfl,Ext.refl _⟩
 ·subst hv
  obtain ⟨t1,t2,t3,t4,t5,t6,t7,t8,t9,t10,t11,t12⟩:=ta_132 (.string s)
  go_enter Tryz.func120,Tryz.ntmps120
  go_wp2_with fail
  go_ret
  exact ⟨rfl,Ext.refl _⟩
 ·subst hv
  obtain ⟨t1,t2,t3,t4,t5,t6,t7,t8,t9,t10,t11,t12⟩:=ta_134 (.string s)
  go_enter Tryz.func120,Tryz.ntmps120
  go_wp2_with fail
  go_ret
  exact ⟨rfl,Ext.refl _⟩
 ·obtain ⟨p,q,rfl,-⟩:=hv
  obtain ⟨t1,t2,t3,t4,t5,t6,t7,t8,t9,t10,t11,t12⟩:=ta_136 (.agg #[p,q])
  go_enter Tryz.func120,Tryz.ntmps120
  go_wp2_with fail
  go_ret
  exact ⟨rfl,Ext.refl _⟩
theorem root_bind {nm : ByteArray} {n : PN} {i : Int} (ih : RootC n) : RootC (.bind nm n i):=by
 intro X v w b7 p6 hv hp hc
 rw [NodeAt] at hv
 obtain ⟨nv,rfl,hn⟩:=hv
 rw [plainN] at hp
 have hl:=cell_lt hc
 simp only at hl
 have hne : b7 ≠ w.heap.size:=by omega
 have H:=Lib.hid (And.intro hn hp)
 have HC:=Lib.hid hc
 clear hn hp
 rcases H.out.1.shape with rfl | ⟨tt,xx,rfl⟩
 ·obtain ⟨t1,t2,t3,t4,t5,t6,t7,t8,t9,t10,t11,t12⟩:=ta_138 (.agg #[.string nm,.nilIface,.int .i64 i])
  go_enter Tryz.func120,Tryz.ntmps120
  go_wp2_with fail
  refine (ih X _ _ b7 p6 (H.out.1.mono ((Ext.alloc _ _).keeps X)) H.out.2 ((Ext.alloc _ _).keep HC.out)).mono ?_
  rintro e w' ⟨rfl,hE⟩
  go_wp2_with fail
  go_ret
  exact ⟨rfl,hE.of_alloc⟩
 ·obtain ⟨t1,t2,t3,t4,t5,t6,t7,t8,t9,t10,t11,t12⟩:=ta_138 (.agg #[.string nm,.iface tt xx,.int .i64 i])
  go_enter Tryz.func120,Tryz.ntmps120
  go_wp2_with fail
  refine (ih X _ _ b7 p6 (H.out.1.mono ((Ext.alloc _ _).keeps X)) H.out.2 ((Ext.alloc _ _).keep HC.out)).mono ?_
  rintro e w' ⟨rfl,hE⟩
  go_wp2_with fail
  go_ret
  exact ⟨rfl,hE.of_alloc⟩
theorem root_struct {nm : ByteArray} {ks : List PN} : RootC (.struct nm ks):=by
 intro X v w b7 p6 hv hp hc
 rw [NodeAt] at hv
 obtain ⟨a,c,rfl,hcc,hk⟩:=hv
 rw [plainN,Bool.and_eq_true,Bool.not_eq_true'] at hp
 have hs:=hp.1
 clear hk hp
 obtain ⟨t1,t2,t3,t4,t5,t6,t7,t8,t9,t10,t11,t12⟩:=ta_127 (.agg #[.string nm,.slice a ks.length c])
 go_enter Tryz.func120,Tryz.ntmps120
 go_wp2_with fail
 go_quiet (fail)
 go_wp2_with fail
 go_ret
 exact ⟨rfl,(Ext.alloc _ _).trans (Ext.drewN _ _)⟩
theorem as_struct {X : Nat -> Prop} {w : World} {u : Value} {n : PN} (h : NodeAt X w u n) : (∃ nm ks a c,n=.struct nm ks /\ u=.iface 127 (.agg #[.string nm,.slice a ks.length c]) /\ ks.length <= c /\ NodesAt X w a ks) \/ ((∀ w : World,(Instr.typeAssert u 78 127 true).run Tryz.prog w=.ok (.tuple #[.agg #[.string ⟨#[]⟩,.slice none 0 0],.bool false]) w) /\ ∀ nm ks,n ≠ .struct nm ks):=by
 cases n <;> rw [NodeAt] at h
 ·subst h;exact .inr ⟨ta_nil.2.1,fun _ _=>by simp⟩
 ·subst h;exact .inr ⟨(ta_130 _).2.1,fun _ _=>by simp⟩
 ·subst h;exact .inr ⟨(ta_131 _).2.1,fun _ _=>by simp⟩
 ·subst h;exact .inr ⟨(ta_132 _).2.1,fun _ _=>by simp⟩
 ·subst h;exact .inr ⟨(ta_134 _).2.1,fun _ _=>by simp⟩
 ·obtain ⟨a,c,rfl,hc,hk⟩:=h;exact .inl ⟨_,_,a,c,rfl,rfl,hc,hk⟩
 ·obtain ⟨p,q,rfl,-⟩:=h;exact .inr ⟨(ta_136 _).2.1,fun _ _=>by simp⟩
 ·obtain ⟨nv,rfl,-⟩:=h;exact .inr ⟨(ta_138 _).2.1,fun _ _=>by simp⟩
 ·obtain ⟨a,c,rfl,-⟩:=h;exact .inr ⟨(ta_140 _).2.1,fun _ _=>by simp⟩
 ·obtain ⟨a,c,rfl,-⟩:=h;exact .inr ⟨(ta_141 _).2.1,fun _ _=>by simp⟩
 ·subst h;exact .inr ⟨(ta_87 _).2.1,fun _ _=>by simp⟩
theorem root_or {ks : List PN} : RootC (.or ks):=by
 intro X v w b7 p6 hv hp hcl
 rw [NodeAt] at hv
 obtain ⟨a,c,rfl,hc,hk⟩:=hv
 rw [plainN,Bool.and_eq_true,Bool.not_eq_true',List.isEmpty_eq_false_iff] at hp
 have h0 : 0 < ks.length:=List.length_pos_iff.2 hp.1
 obtain ⟨b,o,u,rfl,hb,hcell,hn⟩:=hk.get 0 h0
 have hpl:=plainNs_get hp.2 0 h0
 have hc0:=hcell
 rw [Nat.add_zero] at hc0
 have hz : (0 : Int) < (ks.length : Int):=by omega
 clear hp hk hcell hb hcl
 obtain ⟨t1,t2,t3,t4,t5,t6,t7,t8,t9,t10,t11,t12⟩:=ta_140 (.agg #[.slice (some ⟨b,o,none⟩) ks.length c])
 have HW : Hid (Ext w (w.alloc (.cells #[.slice (some ⟨b,o,none⟩) ks.length c] 140))):=Lib.hid (Ext.alloc _ _)
 have hbl:=cell_lt hc0
 simp only at hbl
 have hne1 : b ≠ w.heap.size:=by omega
 rcases as_struct hn with ⟨nm,kk,a',c',e1,rfl,-⟩ | ⟨hta,-⟩
 ·rw [e1,plainN,Bool.and_eq_true,Bool.not_eq_true'] at hpl
  have hs:=hpl.1
  clear hpl e1 hn
  have hta:=(ta_127 (.agg #[.string nm,.slice a' kk.length c'])).2.1
  go_enter Tryz.func120,Tryz.ntmps120
  go_wp2_with fail
  go_loopw [41] (fun i wr=>i=.int .i64 0 /\ wr=w.alloc (.cells #[.slice (some ⟨b,o,none⟩) ks.length c] 140)) (fun _ _=>0)
  case atStart=>exact ⟨rfl,rfl⟩
  case round =>
   obtain ⟨rfl,rfl⟩:=hrel
   go_wp2_with fail
   go_quiet (fail)
   go_wp2_with fail
   go_ret
   exact ⟨rfl,(HW.out.trans (Ext.alloc _ _)).trans (Ext.drewN _ _)⟩
 ·have HS:=Lib.hid hn
  clear hn hpl
  rcases HS.out.shape with rfl | ⟨tt,xx,rfl⟩
  all_goals
   go_enter Tryz.func120,Tryz.ntmps120
   go_wp2_with fail
   go_loopw [41] (fun i wr=>i=.int .i64 0 /\ wr=w.alloc (.cells #[.slice (some ⟨b,o,none⟩) ks.length c] 140)) (fun _ _=>0)
   case atStart=>exact ⟨rfl,rfl⟩
   case round =>
    obtain ⟨rfl,rfl⟩:=hrel
    go_wp2_with fail
    go_quiet (fail)
    go_wp2_with fail
    go_ret
    exact ⟨rfl,(HW.out.trans (Ext.alloc _ _)).trans (Ext.drewN _ _)⟩
theorem root_all : ∀ (k : Nat) (n : PN),n.cnt < k -> plainN n=true -> RootC n
 | 0,_,h,_=>by omega
 | k + 1,.nul,_,_=>root_leaf (.inl rfl)
 | k + 1,.any,_,_=>root_leaf (.inr (.inl rfl))
 | k + 1,.nil,_,_=>root_leaf (.inr (.inr (.inl rfl)))
 | k + 1,.str s,_,_=>root_leaf (.inr (.inr (.inr (.inl ⟨s,rfl⟩))))
 | k + 1,.tok s,_,_=>root_leaf (.inr (.inr (.inr (.inr (.inl ⟨s,rfl⟩)))))
 | k + 1,.list x y,_,_=>root_leaf (.inr (.inr (.inr (.inr (.inr ⟨x,y,rfl⟩)))))
 | k + 1,.bind nm n i,h,hp=>by
  rw [PN.cnt] at h
  rw [plainN] at hp
  exact root_bind (root_all k n (by omega) hp)
 | k + 1,.or ks,h,hp=>root_or
 | k + 1,.struct nm ks,h,hp=>root_struct
 | k + 1,.and ks,_,hp=>by rw [plainN] at hp;cases hp
 | k + 1,.index _ _ _,_,hp=>by rw [plainN] at hp;cases hp
def noCall : PN -> Bool
 | .struct nm _=>!(nm.toList == [67,97,108,108,69,120,112,114])
 | _=>true
theorem roots_other {X : Nat -> Prop} {v : Value} {n : PN} {w : World} (hv : NodeAt X w v n) (hn : noCall n=true) : Calls Tryz.prog 91 #[v] w fun e w'=>e=.returned (.slice none 0 0) /\ Ext w w':=by
 rcases as_struct hv with ⟨nm,kk,a',c',rfl,rfl,-⟩ | ⟨hta,-⟩
 ·have hta:=(ta_127 (.agg #[.string nm,.slice a' kk.length c'])).2.1
  rw [noCall,Bool.not_eq_true'] at hn
  clear hv
  go_enter Tryz.func91,Tryz.ntmps91
  go_wp2_with fail
  go_ret
  exact ⟨rfl,Ext.alloc _ _⟩
 ·have HS:=Lib.hid hv
  clear hv hn
  rcases HS.out.shape with rfl | ⟨tt,xx,rfl⟩
  all_goals
   go_enter Tryz.func91,Tryz.ntmps91
   go_wp2_with fail
   go_ret
   exact ⟨rfl,Ext.alloc _ _⟩
theorem Blk.fourth (w : World) (A B C : Obj) (cs : Array Value) (t : TypeId) : Blk ((((w.alloc A).alloc B).alloc C).alloc (.cells cs t)) (w.heap.size + 1 + 1 + 1) cs t:=by
 have:=Blk.new (((w.alloc A).alloc B).alloc C) cs t
 simpa using this
theorem roots_call {X : Nat -> Prop} {a : Option Addr} {c : Nat} {n : PN} {ns : List PN} {w : World} (hk : NodesAt X w a (n :: ns)) (hp : plainN n=true) :
  Calls Tryz.prog 91 #[.iface 127 (.agg #[.string ⟨#[67,97,108,108,69,120,112,114]⟩,.slice a (n :: ns).length c])] w fun e w'=>e=.returned (.slice none 0 0) /\ Ext w w':=by
 obtain ⟨b,o,u,rfl,hb,hcell,hn⟩:=hk.get 0 (by simp)
 have hc0:=hcell
 rw [Nat.add_zero] at hc0
 simp only [List.getElem_cons_zero] at hn
 have hz : (0 : Int) < ((n :: ns).length : Int):=by simp only [List.length_cons];omega
 have hzn : 0 < (n :: ns).length:=by simp
 have hta:=(ta_127 (.agg #[.string ⟨#[67,97,108,108,69,120,112,114]⟩,.slice (some ⟨b,o,none⟩) (n :: ns).length c])).2.1
 have H:=Lib.hid (And.intro hn hp)
 clear hk hcell hn hp hb
 generalize (n :: ns).length=len at *
 have hbl:=cell_lt hc0
 simp only at hbl
 have HW : Hid (Ext w ((((w.alloc (.cells #[.string ⟨#[67,97,108,108,69,120,112,114]⟩,.slice (some ⟨b,o,none⟩) len c] 127)).alloc (.cells #[.slice none 0 0] 191)).alloc (.cells #[.func (.func 119) #[] #[.pointer (some ⟨w.heap.size + 1,0,none⟩),.pointer (some ⟨w.heap.size + 1 + 1,0,none⟩)]] 192)).alloc (.cells #[rootF (some ⟨w.heap.size + 1 + 1 + 1,0,none⟩) (some ⟨w.heap.size + 1 + 1,0,none⟩)] 192))):=Lib.hid ((((Ext.alloc _ _).trans (Ext.alloc _ _)).trans (Ext.alloc _ _)).trans (Ext.alloc _ _))
 have k1:=((((Ext.alloc _ (.cells #[.slice none 0 0] 191)).trans (Ext.alloc _ (.cells #[.func (.func 119) #[] #[.pointer (some ⟨w.heap.size + 1,0,none⟩),.pointer (some ⟨w.heap.size + 1 + 1,0,none⟩)]] 192))).trans (Ext.alloc _ (.cells #[rootF (some ⟨w.heap.size + 1 + 1 + 1,0,none⟩) (some ⟨w.heap.size + 1 + 1,0,none⟩)] 192)))).keep (Blk2 (Blk.new w #[.string ⟨#[67,97,108,108,69,120,112,114]⟩,.slice (some ⟨b,o,none⟩) len c] 127)).2
 have k2:=Blk1 (Blk.fourth w (.cells #[.string ⟨#[67,97,108,108,69,120,112,114]⟩,.slice (some ⟨b,o,none⟩) len c] 127) (.cells #[.slice none 0 0] 191) (.cells #[.func (.func 119) #[] #[.pointer (some ⟨w.heap.size + 1,0,none⟩),.pointer (some ⟨w.heap.size + 1 + 1,0,none⟩)]] 192) #[rootF (some ⟨w.heap.size + 1 + 1 + 1,0,none⟩) (some ⟨w.heap.size + 1 + 1,0,none⟩)] 192)
 have k3:=HW.out.keep hc0
 rcases H.out.1.shape with rfl | ⟨tt,xx,rfl⟩
 ·go_enter Tryz.func91,Tryz.ntmps91
  go_wp2_with fail
  go_region_held3 (fun w'=>w'.cell? ⟨w.heap.size + 1 + 1 + 1,0,none⟩=some (rootF (some ⟨w.heap.size + 1 + 1 + 1,0,none⟩) (some ⟨w.heap.size + 1 + 1,0,none⟩)) /\ w'.cell? ⟨w.heap.size,1,none⟩=some (.slice (some ⟨b,o,none⟩) len c) /\ w'.cell? ⟨b,o,none⟩=some (.nilIface)) (go_keep)
   ((go_at_call 120;refine (root_all (n.cnt + 1) n (Nat.lt_succ_self _) H.out.2 X _ _ (w.heap.size + 1 + 1 + 1) (some ⟨w.heap.size + 1 + 1,0,none⟩) (H.out.1.mono ((HW.out.trans (Ext.drew _)).keeps X)) H.out.2 ((Ext.drew _).keep k2)).mono ?_;rintro e w1 ⟨rfl,hE1⟩;have HE1:=Lib.hid ((HW.out.trans (Ext.drew _)).trans hE1);have j1:=hE1.keep ((Ext.drew _).keep k1);have j2:=hE1.keep ((Ext.drew _).keep k2);have j3:=hE1.keep ((Ext.drew _).keep k3);clear hE1))
  go_wp2_with fail
  go_ret
  exact ⟨rfl,HE1.out⟩
 ·go_enter Tryz.func91,Tryz.ntmps91
  go_wp2_with fail
  go_region_held3 (fun w'=>w'.cell? ⟨w.heap.size + 1 + 1 + 1,0,none⟩=some (rootF (some ⟨w.heap.size + 1 + 1 + 1,0,none⟩) (some ⟨w.heap.size + 1 + 1,0,none⟩)) /\ w'.cell? ⟨w.heap.size,1,none⟩=some (.slice (some ⟨b,o,none⟩) len c) /\ w'.cell? ⟨b,o,none⟩=some (.iface tt xx)) (go_keep)
   ((go_at_call 120;refine (root_all (n.cnt + 1) n (Nat.lt_succ_self _) H.out.2 X _ _ (w.heap.size + 1 + 1 + 1) (some ⟨w.heap.size + 1 + 1,0,none⟩) (H.out.1.mono ((HW.out.trans (Ext.drew _)).keeps X)) H.out.2 ((Ext.drew _).keep k2)).mono ?_;rintro e w1 ⟨rfl,hE1⟩;have HE1:=Lib.hid ((HW.out.trans (Ext.drew _)).trans hE1);have j1:=hE1.keep ((Ext.drew _).keep k1);have j2:=hE1.keep ((Ext.drew _).keep k2);have j3:=hE1.keep ((Ext.drew _).keep k3);clear hE1))
  go_wp2_with fail
  go_ret
  exact ⟨rfl,HE1.out⟩
end Go.Proofs.YtigalkobmfbdaaaGreatDoor
