/-
  Type assertions to this seat's pointer types. No condition.
-/
import Derived.Test.YtnflgpcbdjkpfaaProg
import Derived.Test.YtnflgpcbdjkpfaaTa
namespace Go.Proofs.Ytnflgpcbdjkpfaa
@[go_sem] theorem ta36 (U : TypeId) (v : Value) (xT : TypeId) (W : World) : (Instr.typeAssert (.iface U v) xT 36 true).run Try.prog W = .ok (.tuple #[if U = 36 then v else .pointer none, .bool (decide (U = 36))]) W := ta_ptr Try.underlying36 (fun _ => by kernel_rfl) U v xT W
@[go_sem] theorem tn36 (xT : TypeId) (W : World) : (Instr.typeAssert .nilIface xT 36 true).run Try.prog W = .ok (.tuple #[.pointer none, .bool false]) W := ta_nil Try.underlying36 (fun _ => by kernel_rfl) xT W
@[go_sem] theorem ta50 (U : TypeId) (v : Value) (xT : TypeId) (W : World) : (Instr.typeAssert (.iface U v) xT 50 true).run Try.prog W = .ok (.tuple #[if U = 50 then v else .pointer none, .bool (decide (U = 50))]) W := ta_ptr Try.underlying50 (fun _ => by kernel_rfl) U v xT W
@[go_sem] theorem tn50 (xT : TypeId) (W : World) : (Instr.typeAssert .nilIface xT 50 true).run Try.prog W = .ok (.tuple #[.pointer none, .bool false]) W := ta_nil Try.underlying50 (fun _ => by kernel_rfl) xT W
@[go_sem] theorem ta61 (U : TypeId) (v : Value) (xT : TypeId) (W : World) : (Instr.typeAssert (.iface U v) xT 61 true).run Try.prog W = .ok (.tuple #[if U = 61 then v else .pointer none, .bool (decide (U = 61))]) W := ta_ptr Try.underlying61 (fun _ => by kernel_rfl) U v xT W
@[go_sem] theorem tn61 (xT : TypeId) (W : World) : (Instr.typeAssert .nilIface xT 61 true).run Try.prog W = .ok (.tuple #[.pointer none, .bool false]) W := ta_nil Try.underlying61 (fun _ => by kernel_rfl) xT W
@[go_sem] theorem ta67 (U : TypeId) (v : Value) (xT : TypeId) (W : World) : (Instr.typeAssert (.iface U v) xT 67 true).run Try.prog W = .ok (.tuple #[if U = 67 then v else .pointer none, .bool (decide (U = 67))]) W := ta_ptr Try.underlying67 (fun _ => by kernel_rfl) U v xT W
@[go_sem] theorem tn67 (xT : TypeId) (W : World) : (Instr.typeAssert .nilIface xT 67 true).run Try.prog W = .ok (.tuple #[.pointer none, .bool false]) W := ta_nil Try.underlying67 (fun _ => by kernel_rfl) xT W
end Go.Proofs.Ytnflgpcbdjkpfaa

