/-
  Type assertions to this seat's pointer types. No condition.
-/
import Derived.Test.YtfacphjjmmfegaaProg
import Derived.Test.YtfacphjjmmfegaaTa
namespace Go.Proofs.Ytfacphjjmmfegaa
@[go_sem] theorem ta28 (U : TypeId) (v : Value) (xT : TypeId) (W : World) : (Instr.typeAssert (.iface U v) xT 28 true).run Try.prog W = .ok (.tuple #[if U = 28 then v else .pointer none, .bool (decide (U = 28))]) W := ta_ptr Try.underlying28 (fun _ => by kernel_rfl) U v xT W
@[go_sem] theorem tn28 (xT : TypeId) (W : World) : (Instr.typeAssert .nilIface xT 28 true).run Try.prog W = .ok (.tuple #[.pointer none, .bool false]) W := ta_nil Try.underlying28 (fun _ => by kernel_rfl) xT W
@[go_sem] theorem ta42 (U : TypeId) (v : Value) (xT : TypeId) (W : World) : (Instr.typeAssert (.iface U v) xT 42 true).run Try.prog W = .ok (.tuple #[if U = 42 then v else .pointer none, .bool (decide (U = 42))]) W := ta_ptr Try.underlying42 (fun _ => by kernel_rfl) U v xT W
@[go_sem] theorem tn42 (xT : TypeId) (W : World) : (Instr.typeAssert .nilIface xT 42 true).run Try.prog W = .ok (.tuple #[.pointer none, .bool false]) W := ta_nil Try.underlying42 (fun _ => by kernel_rfl) xT W
@[go_sem] theorem ta45 (U : TypeId) (v : Value) (xT : TypeId) (W : World) : (Instr.typeAssert (.iface U v) xT 45 true).run Try.prog W = .ok (.tuple #[if U = 45 then v else .pointer none, .bool (decide (U = 45))]) W := ta_ptr Try.underlying45 (fun _ => by kernel_rfl) U v xT W
@[go_sem] theorem tn45 (xT : TypeId) (W : World) : (Instr.typeAssert .nilIface xT 45 true).run Try.prog W = .ok (.tuple #[.pointer none, .bool false]) W := ta_nil Try.underlying45 (fun _ => by kernel_rfl) xT W
@[go_sem] theorem ta48 (U : TypeId) (v : Value) (xT : TypeId) (W : World) : (Instr.typeAssert (.iface U v) xT 48 true).run Try.prog W = .ok (.tuple #[if U = 48 then v else .pointer none, .bool (decide (U = 48))]) W := ta_ptr Try.underlying48 (fun _ => by kernel_rfl) U v xT W
@[go_sem] theorem tn48 (xT : TypeId) (W : World) : (Instr.typeAssert .nilIface xT 48 true).run Try.prog W = .ok (.tuple #[.pointer none, .bool false]) W := ta_nil Try.underlying48 (fun _ => by kernel_rfl) xT W
@[go_sem] theorem ta52 (U : TypeId) (v : Value) (xT : TypeId) (W : World) : (Instr.typeAssert (.iface U v) xT 52 true).run Try.prog W = .ok (.tuple #[if U = 52 then v else .pointer none, .bool (decide (U = 52))]) W := ta_ptr Try.underlying52 (fun _ => by kernel_rfl) U v xT W
@[go_sem] theorem tn52 (xT : TypeId) (W : World) : (Instr.typeAssert .nilIface xT 52 true).run Try.prog W = .ok (.tuple #[.pointer none, .bool false]) W := ta_nil Try.underlying52 (fun _ => by kernel_rfl) xT W
@[go_sem] theorem ta75 (U : TypeId) (v : Value) (xT : TypeId) (W : World) : (Instr.typeAssert (.iface U v) xT 75 true).run Try.prog W = .ok (.tuple #[if U = 75 then v else .pointer none, .bool (decide (U = 75))]) W := ta_ptr Try.underlying75 (fun _ => by kernel_rfl) U v xT W
@[go_sem] theorem tn75 (xT : TypeId) (W : World) : (Instr.typeAssert .nilIface xT 75 true).run Try.prog W = .ok (.tuple #[.pointer none, .bool false]) W := ta_nil Try.underlying75 (fun _ => by kernel_rfl) xT W
@[go_sem] theorem ta76 (U : TypeId) (v : Value) (xT : TypeId) (W : World) : (Instr.typeAssert (.iface U v) xT 76 true).run Try.prog W = .ok (.tuple #[if U = 76 then v else .pointer none, .bool (decide (U = 76))]) W := ta_ptr Try.underlying76 (fun _ => by kernel_rfl) U v xT W
@[go_sem] theorem tn76 (xT : TypeId) (W : World) : (Instr.typeAssert .nilIface xT 76 true).run Try.prog W = .ok (.tuple #[.pointer none, .bool false]) W := ta_nil Try.underlying76 (fun _ => by kernel_rfl) xT W
@[go_sem] theorem ta77 (U : TypeId) (v : Value) (xT : TypeId) (W : World) : (Instr.typeAssert (.iface U v) xT 77 true).run Try.prog W = .ok (.tuple #[if U = 77 then v else .pointer none, .bool (decide (U = 77))]) W := ta_ptr Try.underlying77 (fun _ => by kernel_rfl) U v xT W
@[go_sem] theorem tn77 (xT : TypeId) (W : World) : (Instr.typeAssert .nilIface xT 77 true).run Try.prog W = .ok (.tuple #[.pointer none, .bool false]) W := ta_nil Try.underlying77 (fun _ => by kernel_rfl) xT W
@[go_sem] theorem ta78 (U : TypeId) (v : Value) (xT : TypeId) (W : World) : (Instr.typeAssert (.iface U v) xT 78 true).run Try.prog W = .ok (.tuple #[if U = 78 then v else .pointer none, .bool (decide (U = 78))]) W := ta_ptr Try.underlying78 (fun _ => by kernel_rfl) U v xT W
@[go_sem] theorem tn78 (xT : TypeId) (W : World) : (Instr.typeAssert .nilIface xT 78 true).run Try.prog W = .ok (.tuple #[.pointer none, .bool false]) W := ta_nil Try.underlying78 (fun _ => by kernel_rfl) xT W
end Go.Proofs.Ytfacphjjmmfegaa

