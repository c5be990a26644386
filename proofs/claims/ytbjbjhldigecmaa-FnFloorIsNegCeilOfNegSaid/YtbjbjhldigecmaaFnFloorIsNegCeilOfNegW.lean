/-
  What the law FnFloorIsNegCeilOfNeg does, for every input. No condition.
-/
import Derived.Test.YtbjbjhldigecmaaExt
import Derived.Test.YtbjbjhldigecmaaKit
import Derived.WalkSmall
namespace Go.Proofs.Ytbjbjhldigecmaa.fnFloorIsNegCeilOfNeg
open Go.ChangeShapes Go.WideShapes Go.ChangeAt Go.RowKit
set_option linter.unusedVariables false


/-- zzSame of two NaNs, and of a word with itself. -/
theorem same_nan (x y : Nat) (hx : Fp.nan x) (hy : Fp.nan y) (w : World) :
    Calls Try.prog 14 #[.float .f64 x, .float .f64 y] w fun e w' => e = .returned (.bool true) ∧ w = w' := by
  have h1 := n_ne (x := x) (y := x) (.inl hx)
  have h2 := n_ne (x := y) (y := y) (.inl hy)
  clear hx hy
  go_enter Try.func14, Try.ntmps14
  go_wp2
  go_ret
  exact ⟨rfl, rfl⟩
theorem same_self (x : Nat) (h : ¬ Fp.nan x) (w : World) :
    Calls Try.prog 14 #[.float .f64 x, .float .f64 x] w fun e w' => e = .returned (.bool true) ∧ w = w' := by
  have h1 := s_ne h
  by_cases h0 : Fp.rg x = 0
  · have h3 := ord_zero' h0
    have hr := fun (t : TypeId) (W : World) => run_float_arith (P := Try.prog) W .quo t .f64 _ _ _ (show floatBits .quo .f64 4607182418800017408 x = _ from Fp.one_over_zero h0)
    generalize Fp.wd (Fp.sg x) 9218868437227405312 = r at hr
    clear h0 h
    go_enter Try.func14, Try.ntmps14
    go_wp2
    all_goals (go_ret; exact ⟨rfl, rfl⟩)
  · have h3 := ord_zero h h0
    clear h0 h
    go_enter Try.func14, Try.ntmps14
    go_wp2
    all_goals (go_ret; exact ⟨rfl, rfl⟩)

/-- One float, from the world as it was but for draws. -/
def Nan1 (w : World) (e : Ending) (w' : World) : Prop := ∃ r n, Fp.nan r ∧ e = .returned (.float .f64 r) ∧ w' = w.drewN n
theorem floor_nan {x : Nat} (h : Fp.nan x) (w : World) : Calls Try.prog 29 #[.float .f64 x] w (Nan1 w) := by
  obtain ⟨r, n, hr, hn⟩ := x_floor_nan h w
  go_enter Try.func29, Try.ntmps29
  go_wp2
  go_ret
  exact ⟨r, n, hn, rfl, rfl⟩
theorem ceil_nan {x : Nat} (h : Fp.nan x) (w : World) : Calls Try.prog 30 #[.float .f64 x] w (Nan1 w) := by
  obtain ⟨r, n, hr, hn⟩ := x_ceil_nan h w
  go_enter Try.func30, Try.ntmps30
  go_wp2
  go_ret
  exact ⟨r, n, hn, rfl, rfl⟩

theorem walk (a0 : Nat) (w : World) (w0 : (Lit.float .f64 a0).wf = true) :
    Calls Try.prog 3 #[.float .f64 a0] w fun e w' => e = .returned (.bool true) ∧ Below w.heap.size w w' := by
  have hlt := f64_range w0
  clear w0
  by_cases h : Fp.nan a0
  · have h2 := nan_neg h
    go_enter Try.func3, Try.ntmps3
    go_wp2_with (first | (go_at_call 29; refine (floor_nan (by assumption) _).mono ?_; rintro e w' ⟨r, n, hr, rfl, rfl⟩) | (go_at_call 30; refine (ceil_nan (by assumption) _).mono ?_; rintro e w' ⟨r2, n2, hr2, rfl, rfl⟩) | (go_at_call 14; (with_reducible refine (same_nan _ _ (by assumption) (nan_neg (by assumption)) _).mono ?_); rintro e w' ⟨rfl, rfl⟩) | go_in)
    go_ret
    exact ⟨rfl, by repeat' (first | (with_reducible exact Below.refl _ _) | (with_reducible assumption) | (with_reducible refine below_drewN ?_ _) | (with_reducible refine Below.alloc ?_ ?_ _) | (with_reducible refine Below.drew ?_) | (with_reducible refine Below.setCell ?_ ?_ _) | go_size)⟩
  · have h1 := x_floor h
    have hn2 : ¬ Fp.nan (Op.negFloat .f64 a0) := by rw [neg_eq]; unfold Fp.nan; rw [Fp.rg_neg hlt]; exact h
    have h2 := x_ceil hn2
    have h3 : Op.negFloat .f64 (Ieee.double.write ((Ieee.double.read (Op.negFloat .f64 a0)).integral .up)) = Ieee.double.write ((Ieee.double.read a0).integral .down) := by
      rw [neg_eq, neg_eq]; exact Fp.floor_mirror hlt h
    have h4 : ¬ Fp.nan (Ieee.double.write ((Ieee.double.read a0).integral .down)) := by
      refine Fp.write_not_nan ?_
      rw [Fp.integral_isNaN]
      cases hd : (Ieee.double.read a0).isNaN
      · rfl
      · exact absurd ((Fp.isNaN_iff a0).1 hd) h
    clear hn2 h hlt
    go_enter Try.func3, Try.ntmps3
    go_wp2_with (first | (go_at_call 14; (with_reducible refine (same_self _ h4 _).mono ?_); rintro e w' ⟨rfl, rfl⟩) | go_in)
    go_ret
    exact ⟨rfl, by go_grown⟩
end Go.Proofs.Ytbjbjhldigecmaa.fnFloorIsNegCeilOfNeg
