/-
  ShouldFoldBinaryOperatorWhenMinifying over known leaves. No condition.
-/
import Derived.Test.YtfacphjjmmfegaaChn
import Derived.Test.YtfacphjjmmfegaaCnt
import Derived.Deep.RegionHeld3
namespace Go.Proofs.Ytfacphjjmmfegaa
open Go.ChangeShapes Go.WideShapes Go.ChangeAt Go.RowKit
set_option linter.unusedVariables false

/-- The entry that makes a float whole, at a float. -/
theorem x_trunc {x : Nat} (h : ¬ Fp.nan x) (W : World) : (callFunc 19 #[.float .f64 x]).run Try.prog W = .ok (.value (.float .f64 (Ieee.double.write ((Ieee.double.read x).integral .zero)))) W := by
  rw [run_callFunc_extern (e := Extern.MathFloor.toIntegral "math.archTrunc" .zero) Try.func19 (by kernel_rfl) (by kernel_rfl) (by kernel_rfl) (by kernel_rfl)]
  have h2 : (Ieee.double.read x).isNaN = false := by
    cases hd : (Ieee.double.read x).isNaN
    · rfl
    · exact absurd ((Fp.isNaN_iff x).1 hd) h
  obtain ⟨what, hw⟩ := wholeOf_eq "math.archTrunc" .zero x
  rw [hw]; unfold wholeOf
  cases hd : Ieee.double.read x with
  | nan s t => rw [hd] at h2; simp [Ieee.Datum.isNaN] at h2
  | number s m p => rfl
  | infinity s => rfl
theorem x_trunc_nan {x : Nat} (h : Fp.nan x) (W : World) : ∃ r n, (callFunc 19 #[.float .f64 x]).run Try.prog W = .ok (.value (.float .f64 r)) (W.drewN n) := by
  rw [run_callFunc_extern (e := Extern.MathFloor.toIntegral "math.archTrunc" .zero) Try.func19 (by kernel_rfl) (by kernel_rfl) (by kernel_rfl) (by kernel_rfl)]
  obtain ⟨s, t, hd⟩ : ∃ s t, Ieee.double.read x = .nan s t := by rw [Fp.read_eq, Fp.dec_nan h]; exact ⟨_, _, rfl⟩
  obtain ⟨what, hw⟩ := wholeOf_eq "math.archTrunc" .zero x
  rw [hw]; unfold wholeOf; simp only [hd]
  by_cases hq : FloatKind.f64.format.quiet t = t
  · rw [if_pos hq]
    exact ⟨x, 0, rfl⟩
  · rw [if_neg hq]
    exact ⟨_, 1, rfl⟩
/-- Whether x is whole. -/
def bT (x : Nat) : Bool := if Fp.nan x then false else (FloatKind.f64.format.order x (Ieee.double.write ((Ieee.double.read x).integral .zero)) == some .eq)
theorem trunc11 (x : Nat) (w : World) : Calls Try.prog 11 #[.float .f64 x] w fun e w' => ∃ t n, e = .returned (.float .f64 t) ∧ (FloatKind.f64.format.order x t == some .eq) = bT x ∧ w' = w.drewN n := by
  by_cases h : Fp.nan x
  · obtain ⟨r, n, hr⟩ := x_trunc_nan h w
    have hb : ∀ t, (FloatKind.f64.format.order x t == some .eq) = bT x := fun t => by unfold bT; rw [if_pos h]; exact n_eq (.inl h)
    have HB := Lib.hid hb
    clear hb h
    go_enter Try.func11, Try.ntmps11
    go_wp2_with fail
    go_ret
    exact ⟨r, n, rfl, HB.out r, rfl⟩
  · have hr := fun W => x_trunc h W
    have hb : (FloatKind.f64.format.order x (Ieee.double.write ((Ieee.double.read x).integral .zero)) == some .eq) = bT x := by unfold bT; rw [if_neg h]
    have HB := Lib.hid hb
    clear hb h
    generalize Ieee.double.write ((Ieee.double.read x).integral .zero) = t at *
    go_enter Try.func11, Try.ntmps11
    go_wp2_with fail
    go_ret
    exact ⟨t, 0, rfl, HB.out, rfl⟩
/-- Whether the magnitude of x is at most c. -/
def bA (x c : Nat) : Bool := (FloatKind.f64.format.order (Fp.rg x) c == some .lt || FloatKind.f64.format.order (Fp.rg x) c == some .eq)

/-- A binary node in memory. -/
structure Nd (w : World) (b : Nat) (vl vr : Value) (op : Int) : Prop where
  lt : b < w.heap.size
  c0 : w.cell? ⟨b, 0, none⟩ = some vl
  c1 : w.cell? ⟨b, 1, none⟩ = some (.int .i32 0)
  c2 : w.cell? ⟨b, 2, none⟩ = some vr
  c3 : w.cell? ⟨b, 3, none⟩ = some (.int .i32 0)
  c4 : w.cell? ⟨b, 4, none⟩ = some (.int .u8 op)
theorem Nd.four {w W : World} {b : Nat} {vl vr : Value} {op : Int} (h : Nd w b vl vr op) (hb : Below w.heap.size w W) :
    W.cell? ⟨b, 0, none⟩ = some vl ∧ W.cell? ⟨b, 1, none⟩ = some (.int .i32 0) ∧ W.cell? ⟨b, 2, none⟩ = some vr ∧ W.cell? ⟨b, 3, none⟩ = some (.int .i32 0) :=
  ⟨(hb.cell (p := ⟨b, 0, none⟩) h.lt).trans h.c0, (hb.cell (p := ⟨b, 1, none⟩) h.lt).trans h.c1, (hb.cell (p := ⟨b, 2, none⟩) h.lt).trans h.c2, (hb.cell (p := ⟨b, 3, none⟩) h.lt).trans h.c3⟩
/-- One answer. -/
abbrev Ans (R : Bool) (b : Nat) (w : World) : Prop := Calls Try.prog 9 #[.pointer (some ⟨b, 0, none⟩)] w fun e w' => e = .returned (.bool R) ∧ Below w.heap.size w w'
end Go.Proofs.Ytfacphjjmmfegaa
