/-
  What the law FnAbsCaseTable does, for every input. No condition.
-/
import Derived.Test.YtbjbjhldigecmaaExt
import Derived.Test.YtbjbjhldigecmaaKit
import Derived.WalkSmall
namespace Go.Proofs.Ytbjbjhldigecmaa.fnAbsCaseTable
open Go.ChangeShapes Go.WideShapes Go.ChangeAt Go.RowKit
set_option linter.unusedVariables false


theorem clear_top {x : Nat} (h : x < 18446744073709551616) : bits .andNot .u64 (x : Int) 9223372036854775808 = ((Fp.rg x : Nat) : Int) := by
  have := u64_andNot_nat x 9223372036854775808 h (by omega)
  rw [show ((9223372036854775808 : Nat) : Int) = 9223372036854775808 from rfl] at this
  rw [this]
  congr 1
  exact Nat.and_two_pow_sub_one_eq_mod x 63
theorem rg_rg (x : Nat) : Fp.rg (Fp.rg x) = Fp.rg x := Nat.mod_eq_of_lt (Fp.rg_lt x)
theorem sg_rg (x : Nat) : Fp.sg (Fp.rg x) = false := by
  have := Fp.rg_lt x
  unfold Fp.sg; rw [Nat.div_eq_of_lt this]; rfl
theorem nan_rg {x : Nat} : Fp.nan (Fp.rg x) ↔ Fp.nan x := by unfold Fp.nan; rw [rg_rg]
theorem ky_rg (x : Nat) : Fp.ky (Fp.rg x) = Fp.rg x := by rw [ky_val, sg_rg, rg_rg]; rfl

/-- Zero less a negative number. -/
theorem zero_sub {x : Nat} (hn : ¬ Fp.nan x) (hs : Fp.sg x = true) : Ieee.double.sub 0 x = some (Fp.rg x) := by
  by_cases hf : Fp.fin x
  · rw [Fp.sub_spec (by decide) hf]
    have e0 : Fp.sv 0 = 0 := by decide
    have e1 : Fp.sv x = -(Fp.N (Fp.rg x) : Int) := by unfold Fp.sv Fp.sn; rw [hs]; rfl
    have e2 : Fp.sv 0 - Fp.sv x = (Fp.N (Fp.rg x) : Int) := by omega
    have e3 : (if Fp.sv 0 - Fp.sv x = 0 then Fp.sg 0 && !Fp.sg x else decide (Fp.sv 0 - Fp.sv x < 0)) = false := by
      rw [hs, e2]; split
      · rfl
      · simp
    rw [e3, e2, Int.natAbs_natCast, Fp.rw1_exact, Nat.min_eq_left (by unfold Fp.fin at hf; omega)]
    rfl
  · have hr : Fp.rg x = 9218868437227405312 := by unfold Fp.fin at hf; unfold Fp.nan at hn; omega
    unfold Ieee.Format.sub
    rw [Fp.read_eq x, hs, hr, Fp.dec_inf]
    rfl

theorem nan_case {a0 : Nat} (hlt : a0 < 18446744073709551616) (h : Fp.nan a0) (w : World) :
    Calls Try.prog 5 #[.float .f64 a0] w fun e w' => e = .returned (.bool true) ∧ Below w.heap.size w w' := by
  have hb := x_bits a0
  have hc := clear_top hlt
  have hf := x_from (Fp.rg a0 : Nat)
  have h1 := n_ne (x := a0) (y := a0) (.inl h)
  have h2 := n_ne (x := Fp.rg a0) (y := Fp.rg a0) (.inl (nan_rg.2 h))
  rw [Int.toNat_natCast] at hf
  generalize Fp.rg a0 = r at *
  clear hlt h
  go_enter Try.func5, Try.ntmps5
  go_wp2
  go_ret
  exact ⟨rfl, by go_grown⟩

theorem walk (a0 : Nat) (w : World) (w0 : (Lit.float .f64 a0).wf = true) :
    Calls Try.prog 5 #[.float .f64 a0] w fun e w' => e = .returned (.bool true) ∧ Below w.heap.size w w' := by
  have hlt := f64_range w0
  clear w0
  by_cases h : Fp.nan a0
  · exact nan_case hlt h w
  have hb := x_bits a0
  have hc := clear_top hlt
  have hf := x_from (Fp.rg a0 : Nat)
  rw [Int.toNat_natCast] at hf
  have h1 := s_ne h
  have hr : ¬ Fp.nan (Fp.rg a0) := fun c => h (nan_rg.1 c)
  have h2 := s_ne hr
  have kv := ky_val a0
  have kr := ky_rg a0
  by_cases hp : 0 < Fp.ky a0
  · have h3 : (FloatKind.f64.format.order a0 0 == some .gt) = true := by rw [f_gt h zero_nn, ky_zero]; simpa using hp
    have h4 : (FloatKind.f64.format.order (Fp.rg a0) a0 == some .eq) = true := by
      rw [f_eq hr h, kr]
      cases hs : Fp.sg a0 <;> rw [hs] at kv <;> simp at kv ⊢ <;> omega
    generalize Fp.rg a0 = r at *
    clear hlt h hr kv kr hp
    go_enter Try.func5, Try.ntmps5
    go_wp2
    go_ret
    exact ⟨rfl, by go_grown⟩
  · have h3 : (FloatKind.f64.format.order a0 0 == some .gt) = false := by rw [f_gt h zero_nn, ky_zero]; simpa using hp
    by_cases hm : Fp.ky a0 < 0
    · have h4 : (FloatKind.f64.format.order a0 0 == some .lt) = true := by rw [f_lt h zero_nn, ky_zero]; simpa using hm
      have hs : Fp.sg a0 = true := by
        cases hs : Fp.sg a0
        · rw [hs] at kv; simp at kv; omega
        · rfl
      have h5 := fun (t : TypeId) (W : World) => run_float_arith (P := Try.prog) W .sub t .f64 _ _ _ (show floatBits .sub .f64 0 a0 = some (Fp.rg a0) from zero_sub h hs)
      have h6 : (FloatKind.f64.format.order (Fp.rg a0) (Fp.rg a0) == some .eq) = true := by rw [f_eq hr hr]; simp
      generalize Fp.rg a0 = r at *
      clear hlt h hr kv kr hp hm hs
      go_enter Try.func5, Try.ntmps5
      go_wp2
      go_ret
      exact ⟨rfl, by go_grown⟩
    · have h4 : (FloatKind.f64.format.order a0 0 == some .lt) = false := by rw [f_lt h zero_nn, ky_zero]; simpa using hm
      have h0 : Fp.rg a0 = 0 := by
        cases hs : Fp.sg a0 <;> rw [hs] at kv <;> simp at kv <;> omega
      have h5 : (FloatKind.f64.format.order 0 0 == some .eq) = true := by rw [f_eq zero_nn zero_nn]; simp
      have h6 : (FloatKind.f64.format.order 0 0 == some .lt) = false := by rw [f_lt zero_nn zero_nn]; simp
      have h7 := fun (t : TypeId) (W : World) => run_float_arith (P := Try.prog) W .quo t .f64 _ _ _ (show floatBits .quo .f64 4607182418800017408 0 = some 9218868437227405312 from by decide)
      have h8 : (FloatKind.f64.format.order 9218868437227405312 0 == some .lt) = false := by decide
      rw [h0] at hc
      replace hc : bits .andNot .u64 (a0 : Int) 9223372036854775808 = 0 := hc
      replace hf : ∀ W, (callFunc 40 #[.int .u64 0]).run Try.prog W = .ok (.value (.float .f64 0)) W := x_from 0
      have h9 := s_ne zero_nn
      clear hlt h hr kv kr hp hm h0 h2
      go_enter Try.func5, Try.ntmps5
      go_wp2
      go_ret
      exact ⟨rfl, by go_grown⟩
end Go.Proofs.Ytbjbjhldigecmaa.fnAbsCaseTable
