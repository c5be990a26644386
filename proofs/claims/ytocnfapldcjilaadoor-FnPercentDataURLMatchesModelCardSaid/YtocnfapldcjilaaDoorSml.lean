/-
  Contracts of the model's helper functions and of its test of validity. No condition.
-/
import Derived.Test.YtocnfapldcjilaaDoorOwn
import Derived.Test.YtocnfapldcjilaaDoorProg
import Derived.Test.YtocnfapldcjilaaDoorPct
import Derived.LoopN
namespace Go.Proofs.YtocnfapldcjilaaDoor
open Go.ChangeShapes Go.WideShapes Go.ChangeAt Go.RowKit
set_option linter.unusedVariables false
theorem ret_bool {a b : Bool} (h : a = b) : Ending.returned (.bool a) = .returned (.bool b) := by rw [h]
theorem ret_int {k : IntKind} {a b : Int} (h : a = b) : Ending.returned (.int k a) = .returned (.int k b) := by rw [h]

theorem hex11 (c : UInt8) (w : World) : Calls Tryd.prog 11 #[.int .u8 c.toNat] w fun e w' => e = .returned (.bool (hexB c)) ∧ w = w' := by
  go_enter Tryd.func11, Tryd.ntmps11
  go_wp2
  all_goals (go_ret; refine ⟨ret_bool ?_, rfl⟩; unfold hexB; rw [Bool.eq_iff_iff]; simp; omega)
theorem hex14 (c : UInt8) (w : World) : Calls Tryd.prog 14 #[.int .u8 c.toNat] w fun e w' => e = .returned (.bool (hexB c)) ∧ w = w' := by
  go_enter Tryd.func14, Tryd.ntmps14
  go_wp2
  all_goals (go_ret; refine ⟨ret_bool ?_, rfl⟩; unfold hexB; rw [Bool.eq_iff_iff]; simp; omega)
theorem ne_nat {c d : UInt8} : (c != d) = decide (c.toNat ≠ d.toNat) := by
  rw [Bool.eq_iff_iff]; simp [← UInt8.toNat_inj]
theorem blank13 (c : UInt8) (w : World) : Calls Tryd.prog 13 #[.int .u8 c.toNat] w fun e w' => e = .returned (.bool (blank c)) ∧ w = w' := by
  have e : blank c = (decide (c.toNat ≤ 32) && decide (c.toNat ≠ 9) && decide (c.toNat ≠ 10) && decide (c.toNat ≠ 13)) := by unfold blank; rw [ne_nat, ne_nat, ne_nat]; rfl
  rw [e]
  clear e
  go_enter Tryd.func13, Tryd.ntmps13
  go_wp2
  all_goals (go_ret; refine ⟨ret_bool ?_, rfl⟩; rw [Bool.eq_iff_iff]; simp; omega)
theorem digit15 (v : Nat) (hv : v < 16) (w : World) : Calls Tryd.prog 15 #[.int .u8 v] w fun e w' => e = .returned (.int .u8 (hexd v).toNat) ∧ w = w' := by
  by_cases h : v < 10
  · have e : ((hexd v).toNat : Int) = 48 + v := by unfold hexd; rw [if_pos h]; simp; omega
    rw [e]
    clear e
    go_enter Tryd.func15, Tryd.ntmps15
    go_wp2
    go_ret
    exact ⟨ret_int (by omega), rfl⟩
  · have e : ((hexd v).toNat : Int) = 55 + v := by unfold hexd; rw [if_neg h]; simp; omega
    rw [e]
    clear e
    go_enter Tryd.func15, Tryd.ntmps15
    go_wp2
    go_ret
    exact ⟨ret_int (by omega), rfl⟩
end Go.Proofs.YtocnfapldcjilaaDoor
