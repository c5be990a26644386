/-
  The body-less functions of package math that this seat's laws reach, by the model's own entries. No condition.
-/
import Derived.Test.YtbjbjhldigecmaaProg
import Derived.Test.YtbjbjhldigecmaaFord
namespace Go.Proofs.Ytbjbjhldigecmaa
open Go.ChangeShapes Go.WideShapes Go.ChangeAt Go.RowKit

theorem x_bits (x : Nat) (W : World) : (callFunc 41 #[.float .f64 x]).run Try.prog W = .ok (.value (.int .u64 x)) W := by
  rw [run_callFunc_extern (e := Extern.MathFloatBits.float64bits) Try.func41 (by kernel_rfl) (by kernel_rfl) (by kernel_rfl) (by kernel_rfl)]
  rfl
theorem x_from (n : Int) (W : World) : (callFunc 40 #[.int .u64 n]).run Try.prog W = .ok (.value (.float .f64 n.toNat)) W := by
  rw [run_callFunc_extern (e := Extern.MathFloatBits.float64frombits) Try.func40 (by kernel_rfl) (by kernel_rfl) (by kernel_rfl) (by kernel_rfl)]
  rfl
/-- One entry of the three that make a float whole, at a float. -/
def wholeOf (what : String) (way : Ieee.Toward) (x : Nat) : Sem Value :=
  match Ieee.double.read x with
  | .nan s t =>
    if FloatKind.f64.format.quiet t = t then pure (.float .f64 x) else do
    let kept ← choose (.extern what 2)
    pure (.float .f64 (if kept == 1 then x else FloatKind.f64.encode (.nan s (FloatKind.f64.format.quiet t))))
  | d => pure (.float .f64 (FloatKind.f64.encode (d.integral way)))
theorem wholeOf_eq (nm : String) (way : Ieee.Toward) (x : Nat) : ∃ what, Extern.MathFloor.toIntegral nm way #[.float .f64 x] = wholeOf what way x := ⟨_, rfl⟩
theorem x_floor {x : Nat} (h : ¬ Fp.nan x) (W : World) : (callFunc 36 #[.float .f64 x]).run Try.prog W = .ok (.value (.float .f64 (Ieee.double.write ((Ieee.double.read x).integral .down)))) W := by
  rw [run_callFunc_extern (e := Extern.MathFloor.toIntegral "math.archFloor" .down) Try.func36 (by kernel_rfl) (by kernel_rfl) (by kernel_rfl) (by kernel_rfl)]
  have h2 : (Ieee.double.read x).isNaN = false := by
    cases hd : (Ieee.double.read x).isNaN
    · rfl
    · exact absurd ((Fp.isNaN_iff x).1 hd) h
  obtain ⟨what, hw⟩ := wholeOf_eq _ _ x
  rw [hw]; unfold wholeOf
  cases hd : Ieee.double.read x with
  | nan s t => rw [hd] at h2; simp [Ieee.Datum.isNaN] at h2
  | number s m p => rfl
  | infinity s => rfl
theorem x_ceil {x : Nat} (h : ¬ Fp.nan x) (W : World) : (callFunc 38 #[.float .f64 x]).run Try.prog W = .ok (.value (.float .f64 (Ieee.double.write ((Ieee.double.read x).integral .up)))) W := by
  rw [run_callFunc_extern (e := Extern.MathFloor.toIntegral "math.archCeil" .up) Try.func38 (by kernel_rfl) (by kernel_rfl) (by kernel_rfl) (by kernel_rfl)]
  have h2 : (Ieee.double.read x).isNaN = false := by
    cases hd : (Ieee.double.read x).isNaN
    · rfl
    · exact absurd ((Fp.isNaN_iff x).1 hd) h
  obtain ⟨what, hw⟩ := wholeOf_eq _ _ x
  rw [hw]; unfold wholeOf
  cases hd : Ieee.double.read x with
  | nan s t => rw [hd] at h2; simp [Ieee.Datum.isNaN] at h2
  | number s m p => rfl
  | infinity s => rfl

theorem quiet_nan {x : Nat} {s : Bool} {t : Nat} (h : Ieee.double.read x = .nan s t) : Fp.nan (Ieee.double.write (.nan s (Ieee.double.quiet t))) := by
  rw [Fp.read_eq] at h
  have hn : 9218868437227405312 < Fp.rg x := by
    false_or_by_contra
    rename_i hc
    unfold Fp.dec at h
    split at h
    · cases h
    · split at h
      · cases h
      · rw [if_pos (by omega)] at h; cases h
  rw [Fp.dec_nan hn] at h
  have ht : t = Fp.rg x - 9218868437227405312 := by cases h; rfl
  have hr := Fp.rg_lt x
  simp only [Ieee.Format.write, Fp.word_eq, Fp.e_inf, Fp.e_bin]
  have hq : Ieee.double.quiet t < 4503599627370496 ∧ 0 < Ieee.double.quiet t := by
    unfold Ieee.Format.quiet
    rw [Fp.e_fb]
    constructor
    · exact Nat.or_lt_two_pow (n := 52) (by omega) (by decide)
    · have : 2 ^ (52 - 1) ≤ t ||| 2 ^ (52 - 1) := Nat.right_le_or
      have : 0 < (2 : Nat) ^ (52 - 1) := by decide
      omega
  rw [Nat.mod_eq_of_lt hq.1]
  unfold Fp.nan
  rw [Fp.rg_wd (by omega)]
  omega

/-- Of a NaN: a NaN, off the tape or not. -/
theorem x_round_nan {f : FuncId} {fn : Func} {nm : String} {way : Ieee.Toward} (hf : Try.prog.funcs[f]? = some fn) (hname : (fn.name == "runtime.NumGoroutine") = false)
    (hb : fn.body.isNone = true) (hn : Extern.findNext fn = none) (he : Extern.find fn = some (Extern.MathFloor.toIntegral nm way)) {x : Nat} (h : Fp.nan x) (W : World) :
    ∃ r n, (callFunc f #[.float .f64 x]).run Try.prog W = .ok (.value (.float .f64 r)) (W.drewN n) ∧ Fp.nan r := by
  rw [run_callFunc_extern hf hname hb hn he]
  obtain ⟨s, t, hd⟩ : ∃ s t, Ieee.double.read x = .nan s t := by rw [Fp.read_eq, Fp.dec_nan h]; exact ⟨_, _, rfl⟩
  obtain ⟨what, hw⟩ := wholeOf_eq _ _ x
  rw [hw]; unfold wholeOf; simp only [hd]
  by_cases hq : FloatKind.f64.format.quiet t = t
  · rw [if_pos hq]
    exact ⟨x, 0, rfl, h⟩
  · rw [if_neg hq]
    refine ⟨_, 1, rfl, ?_⟩
    split
    · exact h
    · exact quiet_nan hd
theorem x_floor_nan {x : Nat} (h : Fp.nan x) (W : World) : ∃ r n, (callFunc 36 #[.float .f64 x]).run Try.prog W = .ok (.value (.float .f64 r)) (W.drewN n) ∧ Fp.nan r :=
  x_round_nan (nm := "math.archFloor") (way := .down) Try.func36 (by kernel_rfl) (by kernel_rfl) (by kernel_rfl) (by kernel_rfl) h W
theorem x_ceil_nan {x : Nat} (h : Fp.nan x) (W : World) : ∃ r n, (callFunc 38 #[.float .f64 x]).run Try.prog W = .ok (.value (.float .f64 r)) (W.drewN n) ∧ Fp.nan r :=
  x_round_nan (nm := "math.archCeil") (way := .up) Try.func38 (by kernel_rfl) (by kernel_rfl) (by kernel_rfl) (by kernel_rfl) h W

/-- What math.Min gives. -/
def minW (x y : Nat) : Nat :=
  if Ieee.double.read x == .infinity true || Ieee.double.read y == .infinity true then Fp.wd true 9218868437227405312
  else if (Ieee.double.read x).isNaN || (Ieee.double.read y).isNaN then 0x7FF8000000000001
  else if (Ieee.double.read x).isZero && (Ieee.double.read y).isZero then (if (Ieee.double.read x).neg == true then x else y)
  else if (Ieee.double.read x).order (Ieee.double.read y) == some .lt then x else y
theorem x_min (x y : Nat) (W : World) : (callFunc 47 #[.float .f64 x, .float .f64 y]).run Try.prog W = .ok (.value (.float .f64 (minW x y))) W := by
  rw [run_callFunc_extern (e := Extern.MathDim.pick "math.archMin" true .lt) Try.func47 (by kernel_rfl) (by kernel_rfl) (by kernel_rfl) (by kernel_rfl)]
  rfl
def sqrtOf (x : Nat) : Sem Value :=
  match Ieee.double.sqrt x with
  | some r => pure (.float .f64 r)
  | none => do pure (.float .f64 (← choose (.nanBits .f64 x x)))
theorem sqrtOf_eq (x : Nat) : Extern.MathSqrt.sqrt #[.float .f64 x] = sqrtOf x := rfl
theorem x_sqrt {x r : Nat} (h : Ieee.double.sqrt x = some r) (W : World) : (callFunc 43 #[.float .f64 x]).run Try.prog W = .ok (.value (.float .f64 r)) W := by
  rw [run_callFunc_extern (e := Extern.MathSqrt.sqrt) Try.func43 (by kernel_rfl) (by kernel_rfl) (by kernel_rfl) (by kernel_rfl)]
  rw [sqrtOf_eq]; unfold sqrtOf; rw [h]
  rfl
theorem x_sqrt_nan {x : Nat} (h : Ieee.double.sqrt x = none) (W : World) : (callFunc 43 #[.float .f64 x]).run Try.prog W = .ok (.value (.float .f64 (nanOf (W.tape W.drawn (.nanBits .f64 x x))))) W.drew := by
  rw [run_callFunc_extern (e := Extern.MathSqrt.sqrt) Try.func43 (by kernel_rfl) (by kernel_rfl) (by kernel_rfl) (by kernel_rfl)]
  rw [sqrtOf_eq]; unfold sqrtOf; rw [h]
  rfl
end Go.Proofs.Ytbjbjhldigecmaa
