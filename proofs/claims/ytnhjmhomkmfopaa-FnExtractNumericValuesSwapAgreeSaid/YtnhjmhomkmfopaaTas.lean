/-
  Type assertions to this seat's pointer types. No condition.
-/
import Derived.Test.YtnhjmhomkmfopaaProg
import Derived.Test.YtnhjmhomkmfopaaTa
namespace Go.Proofs.Ytnhjmhomkmfopaa
@[go_sem] theorem ta52 (U : TypeId) (v : Value) (xT : TypeId) (W : World) : (Instr.typeAssert (.iface U v) xT 52 true).run Try.prog W = .ok (.tuple #[if U = 52 then v else .pointer none, .bool (decide (U = 52))]) W := ta_ptr Try.underlying52 (fun _ => by kernel_rfl) U v xT W
@[go_sem] theorem tn52 (xT : TypeId) (W : World) : (Instr.typeAssert .nilIface xT 52 true).run Try.prog W = .ok (.tuple #[.pointer none, .bool false]) W := ta_nil Try.underlying52 (fun _ => by kernel_rfl) xT W
@[go_sem] theorem ta56 (U : TypeId) (v : Value) (xT : TypeId) (W : World) : (Instr.typeAssert (.iface U v) xT 56 true).run Try.prog W = .ok (.tuple #[if U = 56 then v else .pointer none, .bool (decide (U = 56))]) W := ta_ptr Try.underlying56 (fun _ => by kernel_rfl) U v xT W
@[go_sem] theorem tn56 (xT : TypeId) (W : World) : (Instr.typeAssert .nilIface xT 56 true).run Try.prog W = .ok (.tuple #[.pointer none, .bool false]) W := ta_nil Try.underlying56 (fun _ => by kernel_rfl) xT W
@[go_sem] theorem ta59 (U : TypeId) (v : Value) (xT : TypeId) (W : World) : (Instr.typeAssert (.iface U v) xT 59 true).run Try.prog W = .ok (.tuple #[if U = 59 then v else .pointer none, .bool (decide (U = 59))]) W := ta_ptr Try.underlying59 (fun _ => by kernel_rfl) U v xT W
@[go_sem] theorem tn59 (xT : TypeId) (W : World) : (Instr.typeAssert .nilIface xT 59 true).run Try.prog W = .ok (.tuple #[.pointer none, .bool false]) W := ta_nil Try.underlying59 (fun _ => by kernel_rfl) xT W
@[go_sem] theorem ta63 (U : TypeId) (v : Value) (xT : TypeId) (W : World) : (Instr.typeAssert (.iface U v) xT 63 true).run Try.prog W = .ok (.tuple #[if U = 63 then v else .pointer none, .bool (decide (U = 63))]) W := ta_ptr Try.underlying63 (fun _ => by kernel_rfl) U v xT W
@[go_sem] theorem tn63 (xT : TypeId) (W : World) : (Instr.typeAssert .nilIface xT 63 true).run Try.prog W = .ok (.tuple #[.pointer none, .bool false]) W := ta_nil Try.underlying63 (fun _ => by kernel_rfl) xT W
@[go_sem] theorem ta66 (U : TypeId) (v : Value) (xT : TypeId) (W : World) : (Instr.typeAssert (.iface U v) xT 66 true).run Try.prog W = .ok (.tuple #[if U = 66 then v else .pointer none, .bool (decide (U = 66))]) W := ta_ptr Try.underlying66 (fun _ => by kernel_rfl) U v xT W
@[go_sem] theorem tn66 (xT : TypeId) (W : World) : (Instr.typeAssert .nilIface xT 66 true).run Try.prog W = .ok (.tuple #[.pointer none, .bool false]) W := ta_nil Try.underlying66 (fun _ => by kernel_rfl) xT W
@[go_sem] theorem ta69 (U : TypeId) (v : Value) (xT : TypeId) (W : World) : (Instr.typeAssert (.iface U v) xT 69 true).run Try.prog W = .ok (.tuple #[if U = 69 then v else .pointer none, .bool (decide (U = 69))]) W := ta_ptr Try.underlying69 (fun _ => by kernel_rfl) U v xT W
@[go_sem] theorem tn69 (xT : TypeId) (W : World) : (Instr.typeAssert .nilIface xT 69 true).run Try.prog W = .ok (.tuple #[.pointer none, .bool false]) W := ta_nil Try.underlying69 (fun _ => by kernel_rfl) xT W
@[go_sem] theorem ta72 (U : TypeId) (v : Value) (xT : TypeId) (W : World) : (Instr.typeAssert (.iface U v) xT 72 true).run Try.prog W = .ok (.tuple #[if U = 72 then v else .pointer none, .bool (decide (U = 72))]) W := ta_ptr Try.underlying72 (fun _ => by kernel_rfl) U v xT W
@[go_sem] theorem tn72 (xT : TypeId) (W : World) : (Instr.typeAssert .nilIface xT 72 true).run Try.prog W = .ok (.tuple #[.pointer none, .bool false]) W := ta_nil Try.underlying72 (fun _ => by kernel_rfl) xT W
@[go_sem] theorem ta75 (U : TypeId) (v : Value) (xT : TypeId) (W : World) : (Instr.typeAssert (.iface U v) xT 75 true).run Try.prog W = .ok (.tuple #[if U = 75 then v else .pointer none, .bool (decide (U = 75))]) W := ta_ptr Try.underlying75 (fun _ => by kernel_rfl) U v xT W
@[go_sem] theorem tn75 (xT : TypeId) (W : World) : (Instr.typeAssert .nilIface xT 75 true).run Try.prog W = .ok (.tuple #[.pointer none, .bool false]) W := ta_nil Try.underlying75 (fun _ => by kernel_rfl) xT W
@[go_sem] theorem ta78 (U : TypeId) (v : Value) (xT : TypeId) (W : World) : (Instr.typeAssert (.iface U v) xT 78 true).run Try.prog W = .ok (.tuple #[if U = 78 then v else .pointer none, .bool (decide (U = 78))]) W := ta_ptr Try.underlying78 (fun _ => by kernel_rfl) U v xT W
@[go_sem] theorem tn78 (xT : TypeId) (W : World) : (Instr.typeAssert .nilIface xT 78 true).run Try.prog W = .ok (.tuple #[.pointer none, .bool false]) W := ta_nil Try.underlying78 (fun _ => by kernel_rfl) xT W
@[go_sem] theorem ta81 (U : TypeId) (v : Value) (xT : TypeId) (W : World) : (Instr.typeAssert (.iface U v) xT 81 true).run Try.prog W = .ok (.tuple #[if U = 81 then v else .pointer none, .bool (decide (U = 81))]) W := ta_ptr Try.underlying81 (fun _ => by kernel_rfl) U v xT W
@[go_sem] theorem tn81 (xT : TypeId) (W : World) : (Instr.typeAssert .nilIface xT 81 true).run Try.prog W = .ok (.tuple #[.pointer none, .bool false]) W := ta_nil Try.underlying81 (fun _ => by kernel_rfl) xT W
end Go.Proofs.Ytnhjmhomkmfopaa

