/-
  Float operations in a walk, and small facts on float64 words. No condition. (My own helper text, one copy a seat.)
-/
import Derived.WalkKit
import Derived.ProofKit
import Derived.OpenShut
import Derived.Handy
import Derived.WalkLawsBesides
import Derived.Laws.FloatArith
import Derived.Lib.Hide
namespace Go.Proofs.Ytfacphjjmmfegaa
open Go.ChangeShapes Go.WideShapes Go.ChangeAt Go.RowKit

section
variable {P : Program} {w : World} {a : Addr} {m : Mode}
@[go_sem] theorem run_store_float (k : FloatKind) (n : Nat) : (store a (.float k n) m).run P w = stored P w a (.float k n) m := run_store P w a _ m rfl
end

@[go_sem] theorem unary_neg_float (k : FloatKind) (b : Nat) : Op.unary .neg (.float k b) = pure (.float k (Op.negFloat k b)) := rfl

/-- The word of the NaN that the tape gives. -/
def nanOf (t : Nat) : Nat := (t % 2) * 2 ^ 63 + 0x7ff0000000000000 + 1 + (t / 2) % (2 ^ 52 - 1)
/-- The datum of a word. -/
def rd (x : Nat) : Ieee.Datum := Ieee.double.read x
def IsNan (x : Nat) : Prop := ∃ s f, rd x = .nan s f

theorem nanOf_isNan (t : Nat) : IsNan (nanOf t) := by
  have h1 : nanOf t = (t % 2) * 9223372036854775808 + 9218868437227405312 + 1 + (t / 2) % 4503599627370495 := rfl
  have hb := Nat.mod_lt (t / 2) (show 4503599627370495 > 0 by omega)
  have h2 : nanOf t % 9223372036854775808 = 9218868437227405312 + 1 + (t / 2) % 4503599627370495 := by rw [h1]; omega
  unfold IsNan rd Ieee.Format.read
  have e1 : Ieee.double.signWeight = 9223372036854775808 := by decide
  have e2 : Ieee.double.binade = 4503599627370496 := by decide
  have e3 : Ieee.double.infRung = 9218868437227405312 := by decide
  simp only [e1, e2, e3, h2]
  rw [if_neg (by omega), if_neg (by omega), if_neg (by omega)]
  exact ⟨_, _, rfl⟩

theorem nanOf_lt (t : Nat) : nanOf t < 2 ^ 64 := by
  have h1 : nanOf t = (t % 2) * 9223372036854775808 + 9218868437227405312 + 1 + (t / 2) % 4503599627370495 := rfl
  have hb := Nat.mod_lt (t / 2) (show 4503599627370495 > 0 by omega)
  omega

section
variable {P : Program} (w : World)
/-- An invalid operation gives a NaN off the tape. -/
theorem run_float_nan (op : BinOp) (t : TypeId) (x y : Nat) (hop : op = .add ∨ op = .sub ∨ op = .mul ∨ op = .quo) (h : floatBits op .f64 x y = none) :
    (binOp op t (.float .f64 x) (.float .f64 y)).run P w = .ok (.float .f64 (nanOf (w.tape w.drawn (.nanBits .f64 x y)))) w.drew := by
  rcases hop with rfl | rfl | rfl | rfl <;> simp only [floatBits] at h <;> simp only [binOp, Op.floatArith, h] <;> rfl
end

/-- What an operation may give: the rounded exact result, or, where it is invalid, some NaN. -/
def FRes (op : BinOp) (x y r : Nat) : Prop := floatBits op .f64 x y = some r ∨ (floatBits op .f64 x y = none ∧ IsNan r ∧ r < 2 ^ 64)

/-- One result, a struct of one float, and nothing old has turned. -/
def GivesF (Q : Nat → Prop) (w : World) (e : Ending) (w' : World) : Prop := ∃ r, Q r ∧ e = .returned (.agg #[.float .f64 r]) ∧ Below w.heap.size w w'
def GivesN (Q : Nat → Prop) (w : World) (e : Ending) (w' : World) : Prop := ∃ r, Q r ∧ e = .returned (.float .f64 r) ∧ Below w.heap.size w w'
theorem below_step {B : Nat} {w0 W w' : World} (h : Below W.heap.size W w') (h0 : Below B w0 W) (hB : B ≤ W.heap.size) : Below B w0 w' ∧ B ≤ w'.heap.size :=
  ⟨h0.trans (h.mono hB), Nat.le_trans hB h.size⟩
def GivesB (b : Bool) (w : World) (e : Ending) (w' : World) : Prop := e = .returned (.bool b) ∧ Below w.heap.size w w'
end Go.Proofs.Ytfacphjjmmfegaa
