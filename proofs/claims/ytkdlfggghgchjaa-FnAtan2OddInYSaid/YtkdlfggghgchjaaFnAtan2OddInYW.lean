/-
  What the law FnAtan2OddInY does, for every input. No condition.
-/
import Derived.Test.YtkdlfggghgchjaaAtz
namespace Go.Proofs.Ytkdlfggghgchjaa.fnAtan2OddInY
open Go.ChangeShapes Go.WideShapes Go.ChangeAt Go.RowKit
set_option linter.unusedVariables false

theorem tailB1 (y x ny R nR R2 : Nat) (s : Bool) (e1 : (FloatKind.f64.format.order x 0 == some .lt) = false)
    (H1 : Hid (∀ w, Calls Try.prog 10 #[.agg #[.float .f64 y], .agg #[.float .f64 x]] w fun e w' => e = .returned (.agg #[.float .f64 R]) ∧ Below w.heap.size w w'))
    (H2 : Hid (∀ w, Calls Try.prog 10 #[.agg #[.float .f64 ny], .agg #[.float .f64 x]] w fun e w' => e = .returned (.agg #[.float .f64 R2]) ∧ Below w.heap.size w w'))
    (hneg : Op.negFloat .f64 y = ny) (hneg2 : Op.negFloat .f64 R = nR) (HE : Hid (∀ w, Calls Try.prog 11 #[.float .f64 R2, .float .f64 nR] w fun e w' => e = .returned (.bool true) ∧ w = w'))
    (N1 : Hid (∀ w, Calls Try.prog 12 #[.float .f64 y] w fun e w' => e = .returned (.bool false) ∧ w = w')) (N2 : Hid (∀ w, Calls Try.prog 12 #[.float .f64 x] w fun e w' => e = .returned (.bool false) ∧ w = w')) (N3 : Hid (∀ w, Calls Try.prog 12 #[.float .f64 R] w fun e w' => e = .returned (.bool false) ∧ w = w'))
    (S1 : Hid (∀ w, Calls Try.prog 13 #[.float .f64 R] w fun e w' => e = .returned (.bool s) ∧ w = w')) (S2 : Hid (∀ w, Calls Try.prog 13 #[.float .f64 y] w fun e w' => e = .returned (.bool s) ∧ w = w'))
    (hge : (FloatKind.f64.format.order R 13837628693406821656 == some .gt || FloatKind.f64.format.order R 13837628693406821656 == some .eq) = true) (hle : (FloatKind.f64.format.order R 4614256656552045848 == some .lt || FloatKind.f64.format.order R 4614256656552045848 == some .eq) = true) (w : World) :
    Calls Try.prog 4 #[.float .f64 y, .float .f64 x] w fun e w' => e = .returned (.bool true) ∧ Below w.heap.size w w' := by
  have HB : Hid (Bl w w) := Lib.hid (Below.refl _ w)
  have hs : (s == s) = true := by cases s <;> rfl
  go_enter Try.func4, Try.ntmps4
  go_wp2_with (first
      | (go_at_call 9; (with_reducible refine (HX.out _).mono ?_); rintro _ wq ⟨rfl, hb⟩; have HB := Bl.step hb HB; clear hb)
      | (go_at_call 9; (with_reducible refine (HY.out _).mono ?_); rintro _ wq ⟨rfl, hb⟩; have HB := Bl.step hb HB; clear hb)
      | (go_at_call 5; (with_reducible refine (new5 _ _).mono ?_); rintro _ wq ⟨rfl, hb⟩; have HB := Bl.step hb HB; clear hb)
      | (go_at_call 5; (with_reducible refine (new5 _ _).mono ?_); rintro _ wq ⟨rfl, hb⟩; have HB := Bl.step hb (Bl.dr HB); clear hb)
      | (go_at_call 7; (with_reducible refine (val7 _ _).mono ?_); rintro _ wq ⟨rfl, hb⟩; have HB := Bl.step hb HB; clear hb)
      | (go_at_call 10; (with_reducible refine (H1.out _).mono ?_); rintro _ wq ⟨rfl, hb⟩; have HB := Bl.step hb HB; clear hb)
      | (go_at_call 10; (with_reducible refine (H2.out _).mono ?_); rintro _ wq ⟨rfl, hb⟩; have HB := Bl.step hb HB; clear hb)
      | (go_at_call 11; (with_reducible refine (HE.out _).mono ?_); rintro _ _ ⟨rfl, rfl⟩)
      | (go_at_call 12; (with_reducible refine (N1.out _).mono ?_); rintro _ _ ⟨rfl, rfl⟩)
      | (go_at_call 12; (with_reducible refine (N2.out _).mono ?_); rintro _ _ ⟨rfl, rfl⟩)
      | (go_at_call 12; (with_reducible refine (N3.out _).mono ?_); rintro _ _ ⟨rfl, rfl⟩)
      | (go_at_call 13; (with_reducible refine (S1.out _).mono ?_); rintro _ _ ⟨rfl, rfl⟩)
      | (go_at_call 13; (with_reducible refine (S2.out _).mono ?_); rintro _ _ ⟨rfl, rfl⟩))
  go_ret
  exact ⟨rfl, HB.out⟩
theorem tailB2 (y x ny R nR R2 : Nat) (s : Bool) (e1 : (FloatKind.f64.format.order x 0 == some .lt) = true) (e2 : (FloatKind.f64.format.order y 0 != some .eq) = false)
    (H1 : Hid (∀ w, Calls Try.prog 10 #[.agg #[.float .f64 y], .agg #[.float .f64 x]] w fun e w' => e = .returned (.agg #[.float .f64 R]) ∧ Below w.heap.size w w'))
    (H2 : Hid (∀ w, Calls Try.prog 10 #[.agg #[.float .f64 ny], .agg #[.float .f64 x]] w fun e w' => e = .returned (.agg #[.float .f64 R2]) ∧ Below w.heap.size w w'))
    (hneg : Op.negFloat .f64 y = ny) (hneg2 : Op.negFloat .f64 R = nR) (HE : Hid (∀ w, Calls Try.prog 11 #[.float .f64 R2, .float .f64 nR] w fun e w' => e = .returned (.bool true) ∧ w = w'))
    (N1 : Hid (∀ w, Calls Try.prog 12 #[.float .f64 y] w fun e w' => e = .returned (.bool false) ∧ w = w')) (N2 : Hid (∀ w, Calls Try.prog 12 #[.float .f64 x] w fun e w' => e = .returned (.bool false) ∧ w = w')) (N3 : Hid (∀ w, Calls Try.prog 12 #[.float .f64 R] w fun e w' => e = .returned (.bool false) ∧ w = w'))
    (S1 : Hid (∀ w, Calls Try.prog 13 #[.float .f64 R] w fun e w' => e = .returned (.bool s) ∧ w = w')) (S2 : Hid (∀ w, Calls Try.prog 13 #[.float .f64 y] w fun e w' => e = .returned (.bool s) ∧ w = w'))
    (hge : (FloatKind.f64.format.order R 13837628693406821656 == some .gt || FloatKind.f64.format.order R 13837628693406821656 == some .eq) = true) (hle : (FloatKind.f64.format.order R 4614256656552045848 == some .lt || FloatKind.f64.format.order R 4614256656552045848 == some .eq) = true) (w : World) :
    Calls Try.prog 4 #[.float .f64 y, .float .f64 x] w fun e w' => e = .returned (.bool true) ∧ Below w.heap.size w w' := by
  have HB : Hid (Bl w w) := Lib.hid (Below.refl _ w)
  have hs : (s == s) = true := by cases s <;> rfl
  go_enter Try.func4, Try.ntmps4
  go_wp2_with (first
      | (go_at_call 9; (with_reducible refine (HX.out _).mono ?_); rintro _ wq ⟨rfl, hb⟩; have HB := Bl.step hb HB; clear hb)
      | (go_at_call 9; (with_reducible refine (HY.out _).mono ?_); rintro _ wq ⟨rfl, hb⟩; have HB := Bl.step hb HB; clear hb)
      | (go_at_call 5; (with_reducible refine (new5 _ _).mono ?_); rintro _ wq ⟨rfl, hb⟩; have HB := Bl.step hb HB; clear hb)
      | (go_at_call 5; (with_reducible refine (new5 _ _).mono ?_); rintro _ wq ⟨rfl, hb⟩; have HB := Bl.step hb (Bl.dr HB); clear hb)
      | (go_at_call 7; (with_reducible refine (val7 _ _).mono ?_); rintro _ wq ⟨rfl, hb⟩; have HB := Bl.step hb HB; clear hb)
      | (go_at_call 10; (with_reducible refine (H1.out _).mono ?_); rintro _ wq ⟨rfl, hb⟩; have HB := Bl.step hb HB; clear hb)
      | (go_at_call 10; (with_reducible refine (H2.out _).mono ?_); rintro _ wq ⟨rfl, hb⟩; have HB := Bl.step hb HB; clear hb)
      | (go_at_call 11; (with_reducible refine (HE.out _).mono ?_); rintro _ _ ⟨rfl, rfl⟩)
      | (go_at_call 12; (with_reducible refine (N1.out _).mono ?_); rintro _ _ ⟨rfl, rfl⟩)
      | (go_at_call 12; (with_reducible refine (N2.out _).mono ?_); rintro _ _ ⟨rfl, rfl⟩)
      | (go_at_call 12; (with_reducible refine (N3.out _).mono ?_); rintro _ _ ⟨rfl, rfl⟩)
      | (go_at_call 13; (with_reducible refine (S1.out _).mono ?_); rintro _ _ ⟨rfl, rfl⟩)
      | (go_at_call 13; (with_reducible refine (S2.out _).mono ?_); rintro _ _ ⟨rfl, rfl⟩))
  go_ret
  exact ⟨rfl, HB.out⟩
theorem tailB3 (y x ny R nR R2 : Nat) (s : Bool) (e1 : (FloatKind.f64.format.order x 0 == some .lt) = true) (e2 : (FloatKind.f64.format.order y 0 != some .eq) = true) (HX : Hid (∀ w, Calls Try.prog 9 #[.float .f64 x] w fun e w' => e = .returned (.bool true) ∧ Below w.heap.size w w'))
    (H1 : Hid (∀ w, Calls Try.prog 10 #[.agg #[.float .f64 y], .agg #[.float .f64 x]] w fun e w' => e = .returned (.agg #[.float .f64 R]) ∧ Below w.heap.size w w'))
    (H2 : Hid (∀ w, Calls Try.prog 10 #[.agg #[.float .f64 ny], .agg #[.float .f64 x]] w fun e w' => e = .returned (.agg #[.float .f64 R2]) ∧ Below w.heap.size w w'))
    (hneg : Op.negFloat .f64 y = ny) (hneg2 : Op.negFloat .f64 R = nR) (HE : Hid (∀ w, Calls Try.prog 11 #[.float .f64 R2, .float .f64 nR] w fun e w' => e = .returned (.bool true) ∧ w = w'))
    (N1 : Hid (∀ w, Calls Try.prog 12 #[.float .f64 y] w fun e w' => e = .returned (.bool false) ∧ w = w')) (N2 : Hid (∀ w, Calls Try.prog 12 #[.float .f64 x] w fun e w' => e = .returned (.bool false) ∧ w = w')) (N3 : Hid (∀ w, Calls Try.prog 12 #[.float .f64 R] w fun e w' => e = .returned (.bool false) ∧ w = w'))
    (S1 : Hid (∀ w, Calls Try.prog 13 #[.float .f64 R] w fun e w' => e = .returned (.bool s) ∧ w = w')) (S2 : Hid (∀ w, Calls Try.prog 13 #[.float .f64 y] w fun e w' => e = .returned (.bool s) ∧ w = w'))
    (hge : (FloatKind.f64.format.order R 13837628693406821656 == some .gt || FloatKind.f64.format.order R 13837628693406821656 == some .eq) = true) (hle : (FloatKind.f64.format.order R 4614256656552045848 == some .lt || FloatKind.f64.format.order R 4614256656552045848 == some .eq) = true) (w : World) :
    Calls Try.prog 4 #[.float .f64 y, .float .f64 x] w fun e w' => e = .returned (.bool true) ∧ Below w.heap.size w w' := by
  have HB : Hid (Bl w w) := Lib.hid (Below.refl _ w)
  have hs : (s == s) = true := by cases s <;> rfl
  go_enter Try.func4, Try.ntmps4
  go_wp2_with (first
      | (go_at_call 9; (with_reducible refine (HX.out _).mono ?_); rintro _ wq ⟨rfl, hb⟩; have HB := Bl.step hb HB; clear hb)
      | (go_at_call 9; (with_reducible refine (HY.out _).mono ?_); rintro _ wq ⟨rfl, hb⟩; have HB := Bl.step hb HB; clear hb)
      | (go_at_call 5; (with_reducible refine (new5 _ _).mono ?_); rintro _ wq ⟨rfl, hb⟩; have HB := Bl.step hb HB; clear hb)
      | (go_at_call 5; (with_reducible refine (new5 _ _).mono ?_); rintro _ wq ⟨rfl, hb⟩; have HB := Bl.step hb (Bl.dr HB); clear hb)
      | (go_at_call 7; (with_reducible refine (val7 _ _).mono ?_); rintro _ wq ⟨rfl, hb⟩; have HB := Bl.step hb HB; clear hb)
      | (go_at_call 10; (with_reducible refine (H1.out _).mono ?_); rintro _ wq ⟨rfl, hb⟩; have HB := Bl.step hb HB; clear hb)
      | (go_at_call 10; (with_reducible refine (H2.out _).mono ?_); rintro _ wq ⟨rfl, hb⟩; have HB := Bl.step hb HB; clear hb)
      | (go_at_call 11; (with_reducible refine (HE.out _).mono ?_); rintro _ _ ⟨rfl, rfl⟩)
      | (go_at_call 12; (with_reducible refine (N1.out _).mono ?_); rintro _ _ ⟨rfl, rfl⟩)
      | (go_at_call 12; (with_reducible refine (N2.out _).mono ?_); rintro _ _ ⟨rfl, rfl⟩)
      | (go_at_call 12; (with_reducible refine (N3.out _).mono ?_); rintro _ _ ⟨rfl, rfl⟩)
      | (go_at_call 13; (with_reducible refine (S1.out _).mono ?_); rintro _ _ ⟨rfl, rfl⟩)
      | (go_at_call 13; (with_reducible refine (S2.out _).mono ?_); rintro _ _ ⟨rfl, rfl⟩))
  go_ret
  exact ⟨rfl, HB.out⟩
theorem tailB4 (y x ny R nR R2 : Nat) (s : Bool) (e1 : (FloatKind.f64.format.order x 0 == some .lt) = true) (e2 : (FloatKind.f64.format.order y 0 != some .eq) = true) (HX : Hid (∀ w, Calls Try.prog 9 #[.float .f64 x] w fun e w' => e = .returned (.bool false) ∧ Below w.heap.size w w')) (HY : Hid (∀ w, Calls Try.prog 9 #[.float .f64 y] w fun e w' => e = .returned (.bool true) ∧ Below w.heap.size w w'))
    (H1 : Hid (∀ w, Calls Try.prog 10 #[.agg #[.float .f64 y], .agg #[.float .f64 x]] w fun e w' => e = .returned (.agg #[.float .f64 R]) ∧ Below w.heap.size w w'))
    (H2 : Hid (∀ w, Calls Try.prog 10 #[.agg #[.float .f64 ny], .agg #[.float .f64 x]] w fun e w' => e = .returned (.agg #[.float .f64 R2]) ∧ Below w.heap.size w w'))
    (hneg : Op.negFloat .f64 y = ny) (hneg2 : Op.negFloat .f64 R = nR) (HE : Hid (∀ w, Calls Try.prog 11 #[.float .f64 R2, .float .f64 nR] w fun e w' => e = .returned (.bool true) ∧ w = w'))
    (N1 : Hid (∀ w, Calls Try.prog 12 #[.float .f64 y] w fun e w' => e = .returned (.bool false) ∧ w = w')) (N2 : Hid (∀ w, Calls Try.prog 12 #[.float .f64 x] w fun e w' => e = .returned (.bool false) ∧ w = w')) (N3 : Hid (∀ w, Calls Try.prog 12 #[.float .f64 R] w fun e w' => e = .returned (.bool false) ∧ w = w'))
    (S1 : Hid (∀ w, Calls Try.prog 13 #[.float .f64 R] w fun e w' => e = .returned (.bool s) ∧ w = w')) (S2 : Hid (∀ w, Calls Try.prog 13 #[.float .f64 y] w fun e w' => e = .returned (.bool s) ∧ w = w'))
    (hge : (FloatKind.f64.format.order R 13837628693406821656 == some .gt || FloatKind.f64.format.order R 13837628693406821656 == some .eq) = true) (hle : (FloatKind.f64.format.order R 4614256656552045848 == some .lt || FloatKind.f64.format.order R 4614256656552045848 == some .eq) = true) (w : World) :
    Calls Try.prog 4 #[.float .f64 y, .float .f64 x] w fun e w' => e = .returned (.bool true) ∧ Below w.heap.size w w' := by
  have HB : Hid (Bl w w) := Lib.hid (Below.refl _ w)
  have hs : (s == s) = true := by cases s <;> rfl
  go_enter Try.func4, Try.ntmps4
  go_wp2_with (first
      | (go_at_call 9; (with_reducible refine (HX.out _).mono ?_); rintro _ wq ⟨rfl, hb⟩; have HB := Bl.step hb HB; clear hb)
      | (go_at_call 9; (with_reducible refine (HY.out _).mono ?_); rintro _ wq ⟨rfl, hb⟩; have HB := Bl.step hb HB; clear hb)
      | (go_at_call 5; (with_reducible refine (new5 _ _).mono ?_); rintro _ wq ⟨rfl, hb⟩; have HB := Bl.step hb HB; clear hb)
      | (go_at_call 5; (with_reducible refine (new5 _ _).mono ?_); rintro _ wq ⟨rfl, hb⟩; have HB := Bl.step hb (Bl.dr HB); clear hb)
      | (go_at_call 7; (with_reducible refine (val7 _ _).mono ?_); rintro _ wq ⟨rfl, hb⟩; have HB := Bl.step hb HB; clear hb)
      | (go_at_call 10; (with_reducible refine (H1.out _).mono ?_); rintro _ wq ⟨rfl, hb⟩; have HB := Bl.step hb HB; clear hb)
      | (go_at_call 10; (with_reducible refine (H2.out _).mono ?_); rintro _ wq ⟨rfl, hb⟩; have HB := Bl.step hb HB; clear hb)
      | (go_at_call 11; (with_reducible refine (HE.out _).mono ?_); rintro _ _ ⟨rfl, rfl⟩)
      | (go_at_call 12; (with_reducible refine (N1.out _).mono ?_); rintro _ _ ⟨rfl, rfl⟩)
      | (go_at_call 12; (with_reducible refine (N2.out _).mono ?_); rintro _ _ ⟨rfl, rfl⟩)
      | (go_at_call 12; (with_reducible refine (N3.out _).mono ?_); rintro _ _ ⟨rfl, rfl⟩)
      | (go_at_call 13; (with_reducible refine (S1.out _).mono ?_); rintro _ _ ⟨rfl, rfl⟩)
      | (go_at_call 13; (with_reducible refine (S2.out _).mono ?_); rintro _ _ ⟨rfl, rfl⟩))
  go_ret
  exact ⟨rfl, HB.out⟩
theorem tailB5 (y x ny R nR R2 : Nat) (s : Bool) (e1 : (FloatKind.f64.format.order x 0 == some .lt) = true) (e2 : (FloatKind.f64.format.order y 0 != some .eq) = true) (HX : Hid (∀ w, Calls Try.prog 9 #[.float .f64 x] w fun e w' => e = .returned (.bool false) ∧ Below w.heap.size w w')) (HY : Hid (∀ w, Calls Try.prog 9 #[.float .f64 y] w fun e w' => e = .returned (.bool false) ∧ Below w.heap.size w w')) (v : Nat) (hv : Ieee.double.div y x = some v) (e5 : (FloatKind.f64.format.order v 0 == some .eq) = false)
    (H1 : Hid (∀ w, Calls Try.prog 10 #[.agg #[.float .f64 y], .agg #[.float .f64 x]] w fun e w' => e = .returned (.agg #[.float .f64 R]) ∧ Below w.heap.size w w'))
    (H2 : Hid (∀ w, Calls Try.prog 10 #[.agg #[.float .f64 ny], .agg #[.float .f64 x]] w fun e w' => e = .returned (.agg #[.float .f64 R2]) ∧ Below w.heap.size w w'))
    (hneg : Op.negFloat .f64 y = ny) (hneg2 : Op.negFloat .f64 R = nR) (HE : Hid (∀ w, Calls Try.prog 11 #[.float .f64 R2, .float .f64 nR] w fun e w' => e = .returned (.bool true) ∧ w = w'))
    (N1 : Hid (∀ w, Calls Try.prog 12 #[.float .f64 y] w fun e w' => e = .returned (.bool false) ∧ w = w')) (N2 : Hid (∀ w, Calls Try.prog 12 #[.float .f64 x] w fun e w' => e = .returned (.bool false) ∧ w = w')) (N3 : Hid (∀ w, Calls Try.prog 12 #[.float .f64 R] w fun e w' => e = .returned (.bool false) ∧ w = w'))
    (S1 : Hid (∀ w, Calls Try.prog 13 #[.float .f64 R] w fun e w' => e = .returned (.bool s) ∧ w = w')) (S2 : Hid (∀ w, Calls Try.prog 13 #[.float .f64 y] w fun e w' => e = .returned (.bool s) ∧ w = w'))
    (hge : (FloatKind.f64.format.order R 13837628693406821656 == some .gt || FloatKind.f64.format.order R 13837628693406821656 == some .eq) = true) (hle : (FloatKind.f64.format.order R 4614256656552045848 == some .lt || FloatKind.f64.format.order R 4614256656552045848 == some .eq) = true) (w : World) :
    Calls Try.prog 4 #[.float .f64 y, .float .f64 x] w fun e w' => e = .returned (.bool true) ∧ Below w.heap.size w w' := by
  have ev := fun (t : TypeId) (W : World) => run_float_arith (P := Try.prog) W .quo t .f64 _ _ _ (show floatBits .quo .f64 y x = some v from hv)
  clear hv
  have HB : Hid (Bl w w) := Lib.hid (Below.refl _ w)
  have hs : (s == s) = true := by cases s <;> rfl
  go_enter Try.func4, Try.ntmps4
  go_wp2_with (first
      | (go_at_call 9; (with_reducible refine (HX.out _).mono ?_); rintro _ wq ⟨rfl, hb⟩; have HB := Bl.step hb HB; clear hb)
      | (go_at_call 9; (with_reducible refine (HY.out _).mono ?_); rintro _ wq ⟨rfl, hb⟩; have HB := Bl.step hb HB; clear hb)
      | (go_at_call 5; (with_reducible refine (new5 _ _).mono ?_); rintro _ wq ⟨rfl, hb⟩; have HB := Bl.step hb HB; clear hb)
      | (go_at_call 5; (with_reducible refine (new5 _ _).mono ?_); rintro _ wq ⟨rfl, hb⟩; have HB := Bl.step hb (Bl.dr HB); clear hb)
      | (go_at_call 7; (with_reducible refine (val7 _ _).mono ?_); rintro _ wq ⟨rfl, hb⟩; have HB := Bl.step hb HB; clear hb)
      | (go_at_call 10; (with_reducible refine (H1.out _).mono ?_); rintro _ wq ⟨rfl, hb⟩; have HB := Bl.step hb HB; clear hb)
      | (go_at_call 10; (with_reducible refine (H2.out _).mono ?_); rintro _ wq ⟨rfl, hb⟩; have HB := Bl.step hb HB; clear hb)
      | (go_at_call 11; (with_reducible refine (HE.out _).mono ?_); rintro _ _ ⟨rfl, rfl⟩)
      | (go_at_call 12; (with_reducible refine (N1.out _).mono ?_); rintro _ _ ⟨rfl, rfl⟩)
      | (go_at_call 12; (with_reducible refine (N2.out _).mono ?_); rintro _ _ ⟨rfl, rfl⟩)
      | (go_at_call 12; (with_reducible refine (N3.out _).mono ?_); rintro _ _ ⟨rfl, rfl⟩)
      | (go_at_call 13; (with_reducible refine (S1.out _).mono ?_); rintro _ _ ⟨rfl, rfl⟩)
      | (go_at_call 13; (with_reducible refine (S2.out _).mono ?_); rintro _ _ ⟨rfl, rfl⟩))
  go_ret
  exact ⟨rfl, HB.out⟩
theorem tailA1t (y x ny R nR R2 : Nat) (e1 : (FloatKind.f64.format.order x 0 == some .lt) = false)
    (H1 : Hid (∀ w, Calls Try.prog 10 #[.agg #[.float .f64 y], .agg #[.float .f64 x]] w fun e w' => e = .returned (.agg #[.float .f64 R]) ∧ Below w.heap.size w w'))
    (H2 : Hid (∀ w, Calls Try.prog 10 #[.agg #[.float .f64 ny], .agg #[.float .f64 x]] w fun e w' => e = .returned (.agg #[.float .f64 R2]) ∧ Below w.heap.size w w'))
    (hneg : Op.negFloat .f64 y = ny) (hneg2 : Op.negFloat .f64 R = nR) (HE : Hid (∀ w, Calls Try.prog 11 #[.float .f64 R2, .float .f64 nR] w fun e w' => e = .returned (.bool true) ∧ w = w'))
    (N1 : Hid (∀ w, Calls Try.prog 12 #[.float .f64 y] w fun e w' => e = .returned (.bool true) ∧ w = w')) (N2 : Hid (∀ w, Calls Try.prog 12 #[.float .f64 x] w fun e w' => e = .returned (.bool false) ∧ w = w')) (N3 : Hid (∀ w, Calls Try.prog 12 #[.float .f64 R] w fun e w' => e = .returned (.bool true) ∧ w = w'))
    (w : World) :
    Calls Try.prog 4 #[.float .f64 y, .float .f64 x] w fun e w' => e = .returned (.bool true) ∧ Below w.heap.size w w' := by
  have HB : Hid (Bl w w) := Lib.hid (Below.refl _ w)
  go_enter Try.func4, Try.ntmps4
  go_wp2_with (first
      | (go_at_call 9; (with_reducible refine (HX.out _).mono ?_); rintro _ wq ⟨rfl, hb⟩; have HB := Bl.step hb HB; clear hb)
      | (go_at_call 9; (with_reducible refine (HY.out _).mono ?_); rintro _ wq ⟨rfl, hb⟩; have HB := Bl.step hb HB; clear hb)
      | (go_at_call 5; (with_reducible refine (new5 _ _).mono ?_); rintro _ wq ⟨rfl, hb⟩; have HB := Bl.step hb HB; clear hb)
      | (go_at_call 5; (with_reducible refine (new5 _ _).mono ?_); rintro _ wq ⟨rfl, hb⟩; have HB := Bl.step hb (Bl.dr HB); clear hb)
      | (go_at_call 7; (with_reducible refine (val7 _ _).mono ?_); rintro _ wq ⟨rfl, hb⟩; have HB := Bl.step hb HB; clear hb)
      | (go_at_call 10; (with_reducible refine (H1.out _).mono ?_); rintro _ wq ⟨rfl, hb⟩; have HB := Bl.step hb HB; clear hb)
      | (go_at_call 10; (with_reducible refine (H2.out _).mono ?_); rintro _ wq ⟨rfl, hb⟩; have HB := Bl.step hb HB; clear hb)
      | (go_at_call 11; (with_reducible refine (HE.out _).mono ?_); rintro _ _ ⟨rfl, rfl⟩)
      | (go_at_call 12; (with_reducible refine (N1.out _).mono ?_); rintro _ _ ⟨rfl, rfl⟩)
      | (go_at_call 12; (with_reducible refine (N2.out _).mono ?_); rintro _ _ ⟨rfl, rfl⟩)
      | (go_at_call 12; (with_reducible refine (N3.out _).mono ?_); rintro _ _ ⟨rfl, rfl⟩)
      | (go_at_call 13; (with_reducible refine (S1.out _).mono ?_); rintro _ _ ⟨rfl, rfl⟩)
      | (go_at_call 13; (with_reducible refine (S2.out _).mono ?_); rintro _ _ ⟨rfl, rfl⟩))
  go_ret
  exact ⟨rfl, HB.out⟩
theorem tailA3t (y x ny R nR R2 : Nat) (e1 : (FloatKind.f64.format.order x 0 == some .lt) = true) (e2 : (FloatKind.f64.format.order y 0 != some .eq) = true) (HX : Hid (∀ w, Calls Try.prog 9 #[.float .f64 x] w fun e w' => e = .returned (.bool true) ∧ Below w.heap.size w w'))
    (H1 : Hid (∀ w, Calls Try.prog 10 #[.agg #[.float .f64 y], .agg #[.float .f64 x]] w fun e w' => e = .returned (.agg #[.float .f64 R]) ∧ Below w.heap.size w w'))
    (H2 : Hid (∀ w, Calls Try.prog 10 #[.agg #[.float .f64 ny], .agg #[.float .f64 x]] w fun e w' => e = .returned (.agg #[.float .f64 R2]) ∧ Below w.heap.size w w'))
    (hneg : Op.negFloat .f64 y = ny) (hneg2 : Op.negFloat .f64 R = nR) (HE : Hid (∀ w, Calls Try.prog 11 #[.float .f64 R2, .float .f64 nR] w fun e w' => e = .returned (.bool true) ∧ w = w'))
    (N1 : Hid (∀ w, Calls Try.prog 12 #[.float .f64 y] w fun e w' => e = .returned (.bool true) ∧ w = w')) (N2 : Hid (∀ w, Calls Try.prog 12 #[.float .f64 x] w fun e w' => e = .returned (.bool false) ∧ w = w')) (N3 : Hid (∀ w, Calls Try.prog 12 #[.float .f64 R] w fun e w' => e = .returned (.bool true) ∧ w = w'))
    (w : World) :
    Calls Try.prog 4 #[.float .f64 y, .float .f64 x] w fun e w' => e = .returned (.bool true) ∧ Below w.heap.size w w' := by
  have HB : Hid (Bl w w) := Lib.hid (Below.refl _ w)
  go_enter Try.func4, Try.ntmps4
  go_wp2_with (first
      | (go_at_call 9; (with_reducible refine (HX.out _).mono ?_); rintro _ wq ⟨rfl, hb⟩; have HB := Bl.step hb HB; clear hb)
      | (go_at_call 9; (with_reducible refine (HY.out _).mono ?_); rintro _ wq ⟨rfl, hb⟩; have HB := Bl.step hb HB; clear hb)
      | (go_at_call 5; (with_reducible refine (new5 _ _).mono ?_); rintro _ wq ⟨rfl, hb⟩; have HB := Bl.step hb HB; clear hb)
      | (go_at_call 5; (with_reducible refine (new5 _ _).mono ?_); rintro _ wq ⟨rfl, hb⟩; have HB := Bl.step hb (Bl.dr HB); clear hb)
      | (go_at_call 7; (with_reducible refine (val7 _ _).mono ?_); rintro _ wq ⟨rfl, hb⟩; have HB := Bl.step hb HB; clear hb)
      | (go_at_call 10; (with_reducible refine (H1.out _).mono ?_); rintro _ wq ⟨rfl, hb⟩; have HB := Bl.step hb HB; clear hb)
      | (go_at_call 10; (with_reducible refine (H2.out _).mono ?_); rintro _ wq ⟨rfl, hb⟩; have HB := Bl.step hb HB; clear hb)
      | (go_at_call 11; (with_reducible refine (HE.out _).mono ?_); rintro _ _ ⟨rfl, rfl⟩)
      | (go_at_call 12; (with_reducible refine (N1.out _).mono ?_); rintro _ _ ⟨rfl, rfl⟩)
      | (go_at_call 12; (with_reducible refine (N2.out _).mono ?_); rintro _ _ ⟨rfl, rfl⟩)
      | (go_at_call 12; (with_reducible refine (N3.out _).mono ?_); rintro _ _ ⟨rfl, rfl⟩)
      | (go_at_call 13; (with_reducible refine (S1.out _).mono ?_); rintro _ _ ⟨rfl, rfl⟩)
      | (go_at_call 13; (with_reducible refine (S2.out _).mono ?_); rintro _ _ ⟨rfl, rfl⟩))
  go_ret
  exact ⟨rfl, HB.out⟩
theorem tailA6t (y x ny R nR R2 : Nat) (e1 : (FloatKind.f64.format.order x 0 == some .lt) = true) (e2 : (FloatKind.f64.format.order y 0 != some .eq) = true) (HX : Hid (∀ w, Calls Try.prog 9 #[.float .f64 x] w fun e w' => e = .returned (.bool false) ∧ Below w.heap.size w w')) (HY : Hid (∀ w, Calls Try.prog 9 #[.float .f64 y] w fun e w' => e = .returned (.bool false) ∧ Below w.heap.size w w')) (hv : Ieee.double.div y x = none)
    (H1 : Hid (∀ w, Calls Try.prog 10 #[.agg #[.float .f64 y], .agg #[.float .f64 x]] w fun e w' => e = .returned (.agg #[.float .f64 R]) ∧ Below w.heap.size w w'))
    (H2 : Hid (∀ w, Calls Try.prog 10 #[.agg #[.float .f64 ny], .agg #[.float .f64 x]] w fun e w' => e = .returned (.agg #[.float .f64 R2]) ∧ Below w.heap.size w w'))
    (hneg : Op.negFloat .f64 y = ny) (hneg2 : Op.negFloat .f64 R = nR) (HE : Hid (∀ w, Calls Try.prog 11 #[.float .f64 R2, .float .f64 nR] w fun e w' => e = .returned (.bool true) ∧ w = w'))
    (N1 : Hid (∀ w, Calls Try.prog 12 #[.float .f64 y] w fun e w' => e = .returned (.bool true) ∧ w = w')) (N2 : Hid (∀ w, Calls Try.prog 12 #[.float .f64 x] w fun e w' => e = .returned (.bool false) ∧ w = w')) (N3 : Hid (∀ w, Calls Try.prog 12 #[.float .f64 R] w fun e w' => e = .returned (.bool true) ∧ w = w'))
    (w : World) :
    Calls Try.prog 4 #[.float .f64 y, .float .f64 x] w fun e w' => e = .returned (.bool true) ∧ Below w.heap.size w w' := by
  have ev := fun (t : TypeId) (W : World) => run_float_nan (P := Try.prog) W .quo t y x (by simp) hv
  have hq := fun r => n_eq (x := nanOf r) (y := 0) (.inl (isNan_nan (nanOf_isNan r)))
  clear hv
  have HB : Hid (Bl w w) := Lib.hid (Below.refl _ w)
  go_enter Try.func4, Try.ntmps4
  go_wp2_with (first
      | (go_at_call 9; (with_reducible refine (HX.out _).mono ?_); rintro _ wq ⟨rfl, hb⟩; have HB := Bl.step hb HB; clear hb)
      | (go_at_call 9; (with_reducible refine (HY.out _).mono ?_); rintro _ wq ⟨rfl, hb⟩; have HB := Bl.step hb HB; clear hb)
      | (go_at_call 5; (with_reducible refine (new5 _ _).mono ?_); rintro _ wq ⟨rfl, hb⟩; have HB := Bl.step hb HB; clear hb)
      | (go_at_call 5; (with_reducible refine (new5 _ _).mono ?_); rintro _ wq ⟨rfl, hb⟩; have HB := Bl.step hb (Bl.dr HB); clear hb)
      | (go_at_call 7; (with_reducible refine (val7 _ _).mono ?_); rintro _ wq ⟨rfl, hb⟩; have HB := Bl.step hb HB; clear hb)
      | (go_at_call 10; (with_reducible refine (H1.out _).mono ?_); rintro _ wq ⟨rfl, hb⟩; have HB := Bl.step hb HB; clear hb)
      | (go_at_call 10; (with_reducible refine (H2.out _).mono ?_); rintro _ wq ⟨rfl, hb⟩; have HB := Bl.step hb HB; clear hb)
      | (go_at_call 11; (with_reducible refine (HE.out _).mono ?_); rintro _ _ ⟨rfl, rfl⟩)
      | (go_at_call 12; (with_reducible refine (N1.out _).mono ?_); rintro _ _ ⟨rfl, rfl⟩)
      | (go_at_call 12; (with_reducible refine (N2.out _).mono ?_); rintro _ _ ⟨rfl, rfl⟩)
      | (go_at_call 12; (with_reducible refine (N3.out _).mono ?_); rintro _ _ ⟨rfl, rfl⟩)
      | (go_at_call 13; (with_reducible refine (S1.out _).mono ?_); rintro _ _ ⟨rfl, rfl⟩)
      | (go_at_call 13; (with_reducible refine (S2.out _).mono ?_); rintro _ _ ⟨rfl, rfl⟩))
  go_ret
  exact ⟨rfl, HB.out⟩
theorem tailA1f (y x ny R nR R2 : Nat) (e1 : (FloatKind.f64.format.order x 0 == some .lt) = false)
    (H1 : Hid (∀ w, Calls Try.prog 10 #[.agg #[.float .f64 y], .agg #[.float .f64 x]] w fun e w' => e = .returned (.agg #[.float .f64 R]) ∧ Below w.heap.size w w'))
    (H2 : Hid (∀ w, Calls Try.prog 10 #[.agg #[.float .f64 ny], .agg #[.float .f64 x]] w fun e w' => e = .returned (.agg #[.float .f64 R2]) ∧ Below w.heap.size w w'))
    (hneg : Op.negFloat .f64 y = ny) (hneg2 : Op.negFloat .f64 R = nR) (HE : Hid (∀ w, Calls Try.prog 11 #[.float .f64 R2, .float .f64 nR] w fun e w' => e = .returned (.bool true) ∧ w = w'))
    (N1 : Hid (∀ w, Calls Try.prog 12 #[.float .f64 y] w fun e w' => e = .returned (.bool false) ∧ w = w')) (N2 : Hid (∀ w, Calls Try.prog 12 #[.float .f64 x] w fun e w' => e = .returned (.bool true) ∧ w = w')) (N3 : Hid (∀ w, Calls Try.prog 12 #[.float .f64 R] w fun e w' => e = .returned (.bool true) ∧ w = w'))
    (w : World) :
    Calls Try.prog 4 #[.float .f64 y, .float .f64 x] w fun e w' => e = .returned (.bool true) ∧ Below w.heap.size w w' := by
  have HB : Hid (Bl w w) := Lib.hid (Below.refl _ w)
  go_enter Try.func4, Try.ntmps4
  go_wp2_with (first
      | (go_at_call 9; (with_reducible refine (HX.out _).mono ?_); rintro _ wq ⟨rfl, hb⟩; have HB := Bl.step hb HB; clear hb)
      | (go_at_call 9; (with_reducible refine (HY.out _).mono ?_); rintro _ wq ⟨rfl, hb⟩; have HB := Bl.step hb HB; clear hb)
      | (go_at_call 5; (with_reducible refine (new5 _ _).mono ?_); rintro _ wq ⟨rfl, hb⟩; have HB := Bl.step hb HB; clear hb)
      | (go_at_call 5; (with_reducible refine (new5 _ _).mono ?_); rintro _ wq ⟨rfl, hb⟩; have HB := Bl.step hb (Bl.dr HB); clear hb)
      | (go_at_call 7; (with_reducible refine (val7 _ _).mono ?_); rintro _ wq ⟨rfl, hb⟩; have HB := Bl.step hb HB; clear hb)
      | (go_at_call 10; (with_reducible refine (H1.out _).mono ?_); rintro _ wq ⟨rfl, hb⟩; have HB := Bl.step hb HB; clear hb)
      | (go_at_call 10; (with_reducible refine (H2.out _).mono ?_); rintro _ wq ⟨rfl, hb⟩; have HB := Bl.step hb HB; clear hb)
      | (go_at_call 11; (with_reducible refine (HE.out _).mono ?_); rintro _ _ ⟨rfl, rfl⟩)
      | (go_at_call 12; (with_reducible refine (N1.out _).mono ?_); rintro _ _ ⟨rfl, rfl⟩)
      | (go_at_call 12; (with_reducible refine (N2.out _).mono ?_); rintro _ _ ⟨rfl, rfl⟩)
      | (go_at_call 12; (with_reducible refine (N3.out _).mono ?_); rintro _ _ ⟨rfl, rfl⟩)
      | (go_at_call 13; (with_reducible refine (S1.out _).mono ?_); rintro _ _ ⟨rfl, rfl⟩)
      | (go_at_call 13; (with_reducible refine (S2.out _).mono ?_); rintro _ _ ⟨rfl, rfl⟩))
  go_ret
  exact ⟨rfl, HB.out⟩
theorem tailA1u (y x ny R nR R2 : Nat) (e1 : (FloatKind.f64.format.order x 0 == some .lt) = false)
    (H1 : Hid (∀ w, Calls Try.prog 10 #[.agg #[.float .f64 y], .agg #[.float .f64 x]] w fun e w' => e = .returned (.agg #[.float .f64 R]) ∧ Below w.heap.size w w'))
    (H2 : Hid (∀ w, Calls Try.prog 10 #[.agg #[.float .f64 ny], .agg #[.float .f64 x]] w fun e w' => e = .returned (.agg #[.float .f64 R2]) ∧ Below w.heap.size w w'))
    (hneg : Op.negFloat .f64 y = ny) (hneg2 : Op.negFloat .f64 R = nR) (HE : Hid (∀ w, Calls Try.prog 11 #[.float .f64 R2, .float .f64 nR] w fun e w' => e = .returned (.bool true) ∧ w = w'))
    (N1 : Hid (∀ w, Calls Try.prog 12 #[.float .f64 y] w fun e w' => e = .returned (.bool true) ∧ w = w')) (N2 : Hid (∀ w, Calls Try.prog 12 #[.float .f64 x] w fun e w' => e = .returned (.bool true) ∧ w = w')) (N3 : Hid (∀ w, Calls Try.prog 12 #[.float .f64 R] w fun e w' => e = .returned (.bool true) ∧ w = w'))
    (w : World) :
    Calls Try.prog 4 #[.float .f64 y, .float .f64 x] w fun e w' => e = .returned (.bool true) ∧ Below w.heap.size w w' := by
  have HB : Hid (Bl w w) := Lib.hid (Below.refl _ w)
  go_enter Try.func4, Try.ntmps4
  go_wp2_with (first
      | (go_at_call 9; (with_reducible refine (HX.out _).mono ?_); rintro _ wq ⟨rfl, hb⟩; have HB := Bl.step hb HB; clear hb)
      | (go_at_call 9; (with_reducible refine (HY.out _).mono ?_); rintro _ wq ⟨rfl, hb⟩; have HB := Bl.step hb HB; clear hb)
      | (go_at_call 5; (with_reducible refine (new5 _ _).mono ?_); rintro _ wq ⟨rfl, hb⟩; have HB := Bl.step hb HB; clear hb)
      | (go_at_call 5; (with_reducible refine (new5 _ _).mono ?_); rintro _ wq ⟨rfl, hb⟩; have HB := Bl.step hb (Bl.dr HB); clear hb)
      | (go_at_call 7; (with_reducible refine (val7 _ _).mono ?_); rintro _ wq ⟨rfl, hb⟩; have HB := Bl.step hb HB; clear hb)
      | (go_at_call 10; (with_reducible refine (H1.out _).mono ?_); rintro _ wq ⟨rfl, hb⟩; have HB := Bl.step hb HB; clear hb)
      | (go_at_call 10; (with_reducible refine (H2.out _).mono ?_); rintro _ wq ⟨rfl, hb⟩; have HB := Bl.step hb HB; clear hb)
      | (go_at_call 11; (with_reducible refine (HE.out _).mono ?_); rintro _ _ ⟨rfl, rfl⟩)
      | (go_at_call 12; (with_reducible refine (N1.out _).mono ?_); rintro _ _ ⟨rfl, rfl⟩)
      | (go_at_call 12; (with_reducible refine (N2.out _).mono ?_); rintro _ _ ⟨rfl, rfl⟩)
      | (go_at_call 12; (with_reducible refine (N3.out _).mono ?_); rintro _ _ ⟨rfl, rfl⟩)
      | (go_at_call 13; (with_reducible refine (S1.out _).mono ?_); rintro _ _ ⟨rfl, rfl⟩)
      | (go_at_call 13; (with_reducible refine (S2.out _).mono ?_); rintro _ _ ⟨rfl, rfl⟩))
  go_ret
  exact ⟨rfl, HB.out⟩
theorem ord_neg_nn {x : Nat} (hx : x < 18446744073709551616) (hn : ¬ Fp.nan x) : ¬ Fp.nan (Op.negFloat .f64 x) := by
  rw [neg_eq]; unfold Fp.nan; rw [Fp.rg_neg hx]; exact hn
theorem div_nan {y x : Nat} (h : Fp.nan y) : Ieee.double.div y x = none := by
  unfold Ieee.Format.div
  have e : Ieee.double.read y = .nan (Fp.sg y) (Fp.rg y - 9218868437227405312) := by rw [Fp.read_eq, Fp.dec_nan h]
  rw [e]; cases Ieee.double.read x <;> rfl
theorem inf_nan (x : Nat) (h : Fp.nan x) (w : World) : Calls Try.prog 9 #[.float .f64 x] w fun e w' => e = .returned (.bool false) ∧ Below w.heap.size w w' := by
  have HN := Lib.hid (isNan12 x true (decide_eq_true h) w)
  clear h
  go_enter Try.func9, Try.ntmps9
  go_wp2_with (go_at_call 12; (with_reducible refine HN.out.mono ?_); rintro _ _ ⟨rfl, rfl⟩)
  go_ret
  exact ⟨rfl, Below.refl _ _⟩
theorem skip (y x v : Nat) (e1 : (FloatKind.f64.format.order x 0 == some .lt) = true) (e2 : (FloatKind.f64.format.order y 0 != some .eq) = true) (HX : Hid (∀ w, Calls Try.prog 9 #[.float .f64 x] w fun e w' => e = .returned (.bool false) ∧ Below w.heap.size w w')) (HY : Hid (∀ w, Calls Try.prog 9 #[.float .f64 y] w fun e w' => e = .returned (.bool false) ∧ Below w.heap.size w w'))
    (hv : Ieee.double.div y x = some v) (e5 : (FloatKind.f64.format.order v 0 == some .eq) = true) (w : World) :
    Calls Try.prog 4 #[.float .f64 y, .float .f64 x] w fun e w' => e = .returned (.bool true) ∧ Below w.heap.size w w' := by
  have ev := fun (t : TypeId) (W : World) => run_float_arith (P := Try.prog) W .quo t .f64 _ _ _ (show floatBits .quo .f64 y x = some v from hv)
  clear hv
  have HB : Hid (Bl w w) := Lib.hid (Below.refl _ w)
  go_enter Try.func4, Try.ntmps4
  go_wp2_with (first
      | (go_at_call 9; (with_reducible refine (HX.out _).mono ?_); rintro _ wq ⟨rfl, hb⟩; have HB := Bl.step hb HB; clear hb)
      | (go_at_call 9; (with_reducible refine (HY.out _).mono ?_); rintro _ wq ⟨rfl, hb⟩; have HB := Bl.step hb HB; clear hb)
      | (go_at_call 5; (with_reducible refine (new5 _ _).mono ?_); rintro _ wq ⟨rfl, hb⟩; have HB := Bl.step hb HB; clear hb)
      | (go_at_call 5; (with_reducible refine (new5 _ _).mono ?_); rintro _ wq ⟨rfl, hb⟩; have HB := Bl.step hb (Bl.dr HB); clear hb)
      | (go_at_call 7; (with_reducible refine (val7 _ _).mono ?_); rintro _ wq ⟨rfl, hb⟩; have HB := Bl.step hb HB; clear hb)
      | (go_at_call 10; (with_reducible refine (H1.out _).mono ?_); rintro _ wq ⟨rfl, hb⟩; have HB := Bl.step hb HB; clear hb)
      | (go_at_call 10; (with_reducible refine (H2.out _).mono ?_); rintro _ wq ⟨rfl, hb⟩; have HB := Bl.step hb HB; clear hb)
      | (go_at_call 11; (with_reducible refine (HE.out _).mono ?_); rintro _ _ ⟨rfl, rfl⟩)
      | (go_at_call 12; (with_reducible refine (N1.out _).mono ?_); rintro _ _ ⟨rfl, rfl⟩)
      | (go_at_call 12; (with_reducible refine (N2.out _).mono ?_); rintro _ _ ⟨rfl, rfl⟩)
      | (go_at_call 12; (with_reducible refine (N3.out _).mono ?_); rintro _ _ ⟨rfl, rfl⟩)
      | (go_at_call 13; (with_reducible refine (S1.out _).mono ?_); rintro _ _ ⟨rfl, rfl⟩)
      | (go_at_call 13; (with_reducible refine (S2.out _).mono ?_); rintro _ _ ⟨rfl, rfl⟩))
  go_ret
  exact ⟨rfl, HB.out⟩
theorem walk (a0 : Nat) (a1 : Nat) (w : World) (w0 : (Lit.float .f64 a0).wf = true) (w1 : (Lit.float .f64 a1).wf = true) :
    Calls Try.prog 4 #[.float .f64 a0, .float .f64 a1] w fun e w' => e = .returned (.bool true) ∧ Below w.heap.size w w' := by
  have hy := f64_range w0
  have hx := f64_range w1
  clear w0 w1
  have hny : Op.negFloat .f64 a0 < 18446744073709551616 := by rw [neg_eq]; exact Fp.neg_lt hy
  by_cases hn : Fp.nan a0 ∨ Fp.nan a1
  · have H1 := Lib.hid (fun w => at10 a0 a1 _ (nan_15 a0 a1 hn) w)
    have hn2 : Fp.nan (Op.negFloat .f64 a0) ∨ Fp.nan a1 := hn.imp nan_neg id
    have H2 := Lib.hid (fun w => at10 (Op.negFloat .f64 a0) a1 _ (nan_15 _ a1 hn2) w)
    have hc : Fp.nan 9221120237041090561 := by decide
    have HE := Lib.hid (fun w => same11n 9221120237041090561 (Op.negFloat .f64 9221120237041090561) hc (nan_neg hc) w)
    have N3 := Lib.hid (fun w => isNan12 9221120237041090561 true (decide_eq_true hc) w)
    by_cases hx1 : Fp.nan a1
    · have e1 := n_lt (x := a1) (y := 0) (.inl hx1)
      have N2 := Lib.hid (fun w => isNan12 a1 true (decide_eq_true hx1) w)
      by_cases hy1 : Fp.nan a0
      · exact tailA1u _ _ _ _ _ _ e1 H1 H2 rfl rfl HE (Lib.hid (fun w => isNan12 a0 true (decide_eq_true hy1) w)) N2 N3 w
      · exact tailA1f _ _ _ _ _ _ e1 H1 H2 rfl rfl HE (Lib.hid (fun w => isNan12 a0 false (decide_eq_false hy1) w)) N2 N3 w
    · have hy1 : Fp.nan a0 := hn.resolve_right hx1
      have N2 := Lib.hid (fun w => isNan12 a1 false (decide_eq_false hx1) w)
      have N1 := Lib.hid (fun w => isNan12 a0 true (decide_eq_true hy1) w)
      have e2 := n_ne (x := a0) (y := 0) (.inl hy1)
      cases e1 : (FloatKind.f64.format.order a1 0 == some .lt)
      · exact tailA1t _ _ _ _ _ _ e1 H1 H2 rfl rfl HE N1 N2 N3 w
      · by_cases hi : Fp.rg a1 = 9218868437227405312
        · exact tailA3t _ _ _ _ _ _ e1 e2 (Lib.hid (fun w => isInf9 a1 hx1 true (decide_eq_true hi) w)) H1 H2 rfl rfl HE N1 N2 N3 w
        · exact tailA6t _ _ _ _ _ _ e1 e2 (Lib.hid (fun w => isInf9 a1 hx1 false (decide_eq_false hi) w)) (Lib.hid (fun w => inf_nan a0 hy1 w)) (div_nan hy1) H1 H2 rfl rfl HE N1 N2 N3 w
  · have hy1 : ¬ Fp.nan a0 := fun h => hn (.inl h)
    have hx1 : ¬ Fp.nan a1 := fun h => hn (.inr h)
    have N1 := Lib.hid (fun w => isNan12 a0 false (decide_eq_false hy1) w)
    have N2 := Lib.hid (fun w => isNan12 a1 false (decide_eq_false hx1) w)
    have S2 := Lib.hid (fun w => sign13 a0 hy hy1 _ rfl w)
    have hY : Fp.rg a0 ≤ 9218868437227405312 := by unfold Fp.nan at hy1; omega
    -- what is left out
    by_cases hex : Fp.sg a1 = true ∧ Fp.rg a0 ≠ 0 ∧ Fp.rg a0 < 9218868437227405312 ∧ Fp.fin a1 ∧ Fp.rg a1 ≠ 0 ∧ ∃ v, Ieee.double.div (Fp.rg a0) a1 = some v ∧ Fp.rg v = 0
    · obtain ⟨x1, x2, x3, x4, x5, v, x6, x7⟩ := hex
      obtain ⟨U, hU, hd⟩ := div_signs x3 x4 x5
      have h1 := hd (Fp.rg a0) (Fp.rg_pos (Fp.rg_lt a0))
      rw [x6] at h1
      have hU0 : U = 0 := by
        have := congrArg (Option.map Fp.rg) h1
        simp only [Option.map_some, Option.some.injEq] at this
        rw [x7, Fp.rg_wd (by omega)] at this; exact this.symm
      have h2 := hd a0 rfl
      subst hU0
      have o := ord0 hx1 x5
      refine skip a0 a1 _ (by rw [o.2.1]; exact x1) ?_ (Lib.hid (fun w => isInf9 a1 hx1 false (decide_eq_false (by unfold Fp.fin at x4; omega)) w)) (Lib.hid (fun w => isInf9 a0 hy1 false (decide_eq_false (by omega)) w)) h2 (ord_zero' (Fp.rg_wd (by omega))) w
      have := (ord0 hy1 x2).1
      simp only [bne, this, Bool.not_false]
    · obtain ⟨C, hC, hg⟩ := gv_all (Fp.rg a0) a1 hY hx hx1 (fun x1 x2 x3 x4 x5 v x6 x7 => hex ⟨x1, x2, x3, x4, x5, v, x6, x7⟩)
      have g15 := gv_15 hg
      have H1 := Lib.hid (fun w => at10 a0 a1 _ (g15 a0 hy rfl) w)
      have hrn : Fp.rg (Op.negFloat .f64 a0) = Fp.rg a0 := by rw [neg_eq]; exact Fp.rg_neg hy
      have hsn : Fp.sg (Op.negFloat .f64 a0) = !Fp.sg a0 := by rw [neg_eq]; exact Fp.sg_neg hy
      have H2 := Lib.hid (fun w => at10 (Op.negFloat .f64 a0) a1 _ (g15 (Op.negFloat .f64 a0) hny hrn) w)
      rw [hsn] at H2
      have hneg2 := neg_wd' (s := Fp.sg a0) (r := C) (by omega)
      have nR : ∀ s, ¬ Fp.nan (Fp.wd s C) := fun s => wd_not_nan (by omega)
      have lR : ∀ s, Fp.wd s C < 18446744073709551616 := fun s => by unfold Fp.wd; split <;> omega
      have HE := Lib.hid (fun w => same11 (Fp.wd (!Fp.sg a0) C) (lR _) (nR _) w)
      have N3 := Lib.hid (fun w => isNan12 (Fp.wd (Fp.sg a0) C) false (decide_eq_false (nR _)) w)
      have S1 := Lib.hid (fun w => sign13 (Fp.wd (Fp.sg a0) C) (lR _) (nR _) _ (Fp.sg_wd (by omega)) w)
      have hk : Fp.ky (Fp.wd (Fp.sg a0) C) = if Fp.sg a0 then -(C : Int) else C := by rw [ky_val, Fp.sg_wd (by omega), Fp.rg_wd (by omega)]
      have hge : (FloatKind.f64.format.order (Fp.wd (Fp.sg a0) C) 13837628693406821656 == some .gt || FloatKind.f64.format.order (Fp.wd (Fp.sg a0) C) 13837628693406821656 == some .eq) = true := by
        rw [f_gt (nR _) (by decide), f_eq (nR _) (by decide), hk, show Fp.ky 13837628693406821656 = -4614256656552045848 by decide]
        cases Fp.sg a0 <;> simp <;> omega
      have hle : (FloatKind.f64.format.order (Fp.wd (Fp.sg a0) C) 4614256656552045848 == some .lt || FloatKind.f64.format.order (Fp.wd (Fp.sg a0) C) 4614256656552045848 == some .eq) = true := by
        rw [f_lt (nR _) (by decide), f_eq (nR _) (by decide), hk, show Fp.ky 4614256656552045848 = 4614256656552045848 by decide]
        cases Fp.sg a0 <;> simp <;> omega
      cases e1 : (FloatKind.f64.format.order a1 0 == some .lt)
      · exact tailB1 _ _ _ _ _ _ _ e1 H1 H2 rfl hneg2 HE N1 N2 N3 S1 S2 hge hle w
      · have x0 : Fp.rg a1 ≠ 0 ∧ Fp.sg a1 = true := by
          rw [f_lt hx1 zero_nn, ky_zero, ky_val] at e1
          have e1 := of_decide_eq_true e1
          cases hs : Fp.sg a1 <;> simp only [hs, if_true, if_false, Bool.false_eq_true] at e1
          · omega
          · exact ⟨by omega, rfl⟩
        by_cases y0 : Fp.rg a0 = 0
        · have e2 : (FloatKind.f64.format.order a0 0 != some .eq) = false := by
            have := ord_zero' y0
            simp only [bne, this, Bool.not_true]
          exact tailB2 _ _ _ _ _ _ _ e1 e2 H1 H2 rfl hneg2 HE N1 N2 N3 S1 S2 hge hle w
        · have e2 : (FloatKind.f64.format.order a0 0 != some .eq) = true := by
            have := (ord0 hy1 y0).1
            simp only [bne, this, Bool.not_false]
          by_cases hi : Fp.rg a1 = 9218868437227405312
          · exact tailB3 _ _ _ _ _ _ _ e1 e2 (Lib.hid (fun w => isInf9 a1 hx1 true (decide_eq_true hi) w)) H1 H2 rfl hneg2 HE N1 N2 N3 S1 S2 hge hle w
          · have HX := Lib.hid (fun w => isInf9 a1 hx1 false (decide_eq_false hi) w)
            by_cases hj : Fp.rg a0 = 9218868437227405312
            · exact tailB4 _ _ _ _ _ _ _ e1 e2 HX (Lib.hid (fun w => isInf9 a0 hy1 true (decide_eq_true hj) w)) H1 H2 rfl hneg2 HE N1 N2 N3 S1 S2 hge hle w
            · have HY := Lib.hid (fun w => isInf9 a0 hy1 false (decide_eq_false hj) w)
              have fx : Fp.fin a1 := by unfold Fp.fin; unfold Fp.nan at hx1; omega
              obtain ⟨U, hU, hd⟩ := div_signs (show Fp.rg a0 < 9218868437227405312 by omega) fx x0.1
              have hU0 : U ≠ 0 := fun c => hex ⟨x0.2, y0, by omega, fx, x0.1, _, hd (Fp.rg a0) (Fp.rg_pos (Fp.rg_lt a0)), by rw [Fp.rg_wd (by omega)]; exact c⟩
              exact tailB5 _ _ _ _ _ _ _ e1 e2 HX HY _ (hd a0 rfl) ((ord0 (wd_not_nan hU) (by rw [Fp.rg_wd (by omega)]; exact hU0)).1) H1 H2 rfl hneg2 HE N1 N2 N3 S1 S2 hge hle w
end Go.Proofs.Ytkdlfggghgchjaa.fnAtan2OddInY
