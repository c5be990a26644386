/-
  fmt.Sprintf at "%q" with one string: the stop gives a text. No condition.
-/
import Derived.Test.YtlgdojbojlbehaaFmtProg
import Derived.Stop.CallBack
import Derived.Stop.IfaceNil
import Derived.Stop.Texts
import Derived.Stop.JoinedTold
import Derived.Stop.FmtQuoteTie
import Derived.Stop.FmtTextKit
import Derived.WalkKit
import Derived.WalkSpells
import GoSem.ClaimData
namespace Go.Proofs.YtlgdojbojlbehaaFmt
open Go.RowKit Go.Extern.Stop Go.Stop Go.Extern
set_option linter.unusedVariables false

theorem q_call (args : Array Value) (w : World) : (callFunc 22 args).run Tryf.prog w = ((FmtStop.sprintf #[9, 132] #[9] args).run Tryf.prog w).andThen fun v w' => .ok (.value v) w' :=
  run_callFunc_extern Tryf.func22 (by kernel_rfl) (by kernel_rfl) (by kernel_rfl) (by kernel_rfl) args w
def q_f : ByteArray := ⟨#[78, 111, 110, 45, 114, 101, 108, 97, 116, 105, 118, 101, 32, 112, 97, 116, 104, 32, 37, 113, 32, 105, 115, 32, 110, 111, 116, 32, 97, 108, 108, 111, 119, 101, 100, 32, 119, 104, 101, 110, 32, 34, 98, 97, 115, 101, 85, 114, 108, 34, 32, 105, 115, 32, 110, 111, 116, 32, 115, 101, 116, 32, 40, 100, 105, 100, 32, 121, 111, 117, 32, 102, 111, 114, 103, 101, 116, 32, 97, 32, 108, 101, 97, 100, 105, 110, 103, 32, 34, 46, 47, 34, 63, 41]⟩
theorem q_guard (name : String) (w : World) : (FmtStop.guard name).run Tryf.prog w = .ok () w := by kernel_rfl
theorem q_fmt : FmtStop.printed? q_f 1 = some [(0, 113, false)] := by kernel_rfl
theorem q_fmtr (w : World) : (FmtDoors.printed q_f 1).run Tryf.prog w = .ok [(0, 113, false)] w := by kernel_rfl
def q_shape : List UInt8 := [12, 6, 0, 0, 0, 0, 0, 0, 0, 115, 116, 114, 105, 110, 103]
theorem q_op (name : String) (x : ByteArray) (w : World) : (FmtStop.operand name false 113 false (.iface 9 (.string x))).run Tryf.prog w = .ok (q_shape, FmtStop.pack x.data.toList) w := by kernel_rfl
theorem q_strict (name : String) (x : ByteArray) (w : World) : (FmtStop.strict name (.iface 9 (.string x))).run Tryf.prog w = .ok (q_shape, FmtStop.pack x.data.toList) w := by kernel_rfl
set_option maxHeartbeats 2000000 in
theorem spr22 (F : Interp) (x : ByteArray) (W : World) (hF : F.told.answers W.tape) :
    ∃ s : ByteArray, (callFunc 22 #[.string q_f, .slice (some ⟨W.heap.size, 0, none⟩) 1 1]).run Tryf.prog (W.alloc (.cells #[.iface 9 (.string x)] 20)) =
      .ok (.value (.string s)) (W.alloc (.cells #[.iface 9 (.string x)] 20)).drew := by
  have hF' := answers_open hF
  refine ⟨FmtStop.textOf (F.told "fmt.Sprintf" [q_f.data.toList, q_shape, FmtStop.pack x.data.toList] 0), ?_⟩
  simp [go_sem, q_call, q_guard, q_fmt, q_fmtr, q_op, q_strict, hF']
end Go.Proofs.YtlgdojbojlbehaaFmt
