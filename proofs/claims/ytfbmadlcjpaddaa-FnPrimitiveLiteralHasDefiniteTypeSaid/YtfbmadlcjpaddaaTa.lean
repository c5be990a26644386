/-
  A type assertion to a pointer type, with comma-ok, over any program. No condition. (My own helper text, one copy a seat.)
-/
import Derived.WalkKit
import Derived.ProofKit
import Derived.WideLaws
namespace Go.Proofs.Ytfbmadlcjpaddaa
theorem ta_ptr {P : Program} {T e : TypeId} (hT : P.underlying T = some (.pointer e)) (hz : ∀ W, (zeroValue T).run P W = .ok (.pointer none) W) (U : TypeId) (v : Value) (xT : TypeId) (W : World) :
    (Instr.typeAssert (.iface U v) xT T true).run P W = .ok (.tuple #[if U = T then v else .pointer none, .bool (decide (U = T))]) W := by
  simp only [Instr.typeAssert, Sem.run_bind, run_underlying hT, Result.andThen_ok]
  by_cases h : U = T
  · simp [h]
  · simp [h, hz]
theorem ta_nil {P : Program} {T e : TypeId} (hT : P.underlying T = some (.pointer e)) (hz : ∀ W, (zeroValue T).run P W = .ok (.pointer none) W) (xT : TypeId) (W : World) :
    (Instr.typeAssert .nilIface xT T true).run P W = .ok (.tuple #[.pointer none, .bool false]) W := by
  simp only [Instr.typeAssert, Sem.run_bind, run_underlying hT, Result.andThen_ok]
  simp [hz]
end Go.Proofs.Ytfbmadlcjpaddaa
