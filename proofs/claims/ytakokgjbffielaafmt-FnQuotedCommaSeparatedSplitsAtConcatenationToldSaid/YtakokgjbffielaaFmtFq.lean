/-
  fmt.Sprintf at "%q" with one string: what the stop gives, the text told. No condition.
-/
import Derived.Test.YtakokgjbffielaaFmtProg
import Derived.Stop.CallBack
import Derived.Stop.IfaceNil
import Derived.Stop.Texts
import Derived.Stop.JoinedTold
import Derived.Stop.FmtQuoteTie
import Derived.Stop.FmtTextKit
import Derived.WalkKit
import Derived.WalkSpells
import GoSem.ClaimData
namespace Go.Proofs.YtakokgjbffielaaFmt
open Go.RowKit Go.Extern.Stop Go.Stop Go.Extern
set_option linter.unusedVariables false

theorem q_call (args : Array Value) (w : World) : (callFunc 9 args).run Tryf.prog w = ((FmtStop.sprintf #[9, 54] #[9] args).run Tryf.prog w).andThen fun v w' => .ok (.value v) w' :=
  run_callFunc_extern Tryf.func9 (by kernel_rfl) (by kernel_rfl) (by kernel_rfl) (by kernel_rfl) args w
theorem q_guard (name : String) (w : World) : (FmtStop.guard name).run Tryf.prog w = .ok () w := by kernel_rfl
theorem q_fmt : FmtStop.printed? ⟨#[37, 113]⟩ 1 = some [(0, 113, false)] := by kernel_rfl
theorem q_fmtr (w : World) : (FmtDoors.printed ⟨#[37, 113]⟩ 1).run Tryf.prog w = .ok [(0, 113, false)] w := by kernel_rfl
def q_shape : List UInt8 := [12, 6, 0, 0, 0, 0, 0, 0, 0, 115, 116, 114, 105, 110, 103]
theorem q_op (name : String) (x : ByteArray) (w : World) : (FmtStop.operand name false 113 false (.iface 9 (.string x))).run Tryf.prog w = .ok (q_shape, FmtStop.pack x.data.toList) w := by kernel_rfl
theorem q_strict (name : String) (x : ByteArray) (w : World) : (FmtStop.strict name (.iface 9 (.string x))).run Tryf.prog w = .ok (q_shape, FmtStop.pack x.data.toList) w := by kernel_rfl
def q_reading (s : List UInt8) : List (List UInt8) := [[37, 113], q_shape, FmtStop.pack s]
theorem q_parse : (FmtText.parse [37, 113]).map FmtText.glue = some [.verb {} 113] := by rfl
theorem q_text (s : List UInt8) (hs : s.length < 2 ^ 64) : FmtText.text "fmt.Sprintf" (q_reading s) = some (FmtText.quote false s) := by
  have hn := FmtText.operand_str_at (sh := q_shape) rfl rfl s hs
  rw [q_reading, FmtText.text_sprintf_glued q_parse (FmtText.operands_cons hn FmtText.operands_nil)]
  simp [FmtText.render, FmtText.printArg_q_str]
/-- The quoted text. -/
def qs (s : ByteArray) : ByteArray := ⟨(FmtText.quote false s.data.toList).toArray⟩
theorem q_told (F : Interp) (s : ByteArray) (hs : s.size ≤ 4194304) : FmtStop.textOf (F.told "fmt.Sprintf" (q_reading s.data.toList) 0) = qs s := by
  have hl := FmtText.quote_length_le s.data.toList
  have hz : s.data.toList.length = s.size := by simp
  have ht := told_string F (q_text s.data.toList (by omega)) (by omega)
  rw [← Go.Kit.textOf_list] at ht
  exact ByteArray.ext (by rw [← Array.toList_inj, ht]; simp [qs])
theorem qs_size (s : ByteArray) : (qs s).size ≤ 10 * s.size + 2 := by
  have hl := FmtText.quote_length_le s.data.toList
  have hz : s.data.toList.length = s.size := by simp
  have : (qs s).size = (FmtText.quote false s.data.toList).length := by simp [qs, ByteArray.size]
  omega
set_option maxHeartbeats 2000000 in
theorem spr9 (F : Interp) (x : ByteArray) (W : World) (hF : F.told.answers W.tape) (hx : x.size ≤ 4194304) :
    (callFunc 9 #[.string ⟨#[37, 113]⟩, .slice (some ⟨W.heap.size, 0, none⟩) 1 1]).run Tryf.prog (W.alloc (.cells #[.iface 9 (.string x)] 20)) =
      .ok (.value (.string (qs x))) (W.alloc (.cells #[.iface 9 (.string x)] 20)).drew := by
  have hF' := answers_open hF
  rw [← q_told F x hx]
  simp [go_sem, q_call, q_guard, q_fmt, q_fmtr, q_op, q_strict, q_reading, hF']
end Go.Proofs.YtakokgjbffielaaFmt
