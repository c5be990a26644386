/-
  The law FnShouldFoldWrapInvariant's walk. No condition.
-/
import Derived.Test.YtfacphjjmmfegaaFoc
namespace Go.Proofs.Ytfacphjjmmfegaa.fnShouldFoldWrapInvariant
open Go.ChangeShapes Go.WideShapes Go.ChangeAt Go.RowKit
set_option linter.unusedVariables false

section
variable (a0 : Int) (a1 : Bool) (a2 : Nat) (a3 : Option Addr) (len3 cap3 : Nat) (a4 : Option Addr) (len4 cap4 : Nat) (a5 : Bool) (a6 : Nat) (a7 : Option Addr) (len7 cap7 : Nat) (a8 : Option Addr) (len8 cap8 : Nat)
set_option maxRecDepth 100000 in
theorem bytes4 (h3 : len3 ≤ 9223372036854775807) (h4 : len4 ≤ 9223372036854775807) (h7 : len7 ≤ 9223372036854775807) (h8 : len8 ≤ 9223372036854775807) (w : World) :
    Calls Try.prog 4 #[.int .u8 a0, .bool a1, .float .f64 a2, .slice a3 len3 cap3, .slice a4 len4 cap4, .bool a5, .float .f64 a6, .slice a7 len7 cap7, .slice a8 len8 cap8] w fun e w' => (∃ v, e = .returned (.bool v)) ∧ w = w' := by
  by_cases p3 : len3 ≤ 1048576
  · by_cases p4 : len4 ≤ 1048576
    · by_cases p34 : len3 + len4 ≤ 1048576
      · by_cases p7 : len7 ≤ 1048576
        · by_cases p37 : len3 + len4 + len7 ≤ 1048576
          · by_cases p8 : len8 ≤ 1048576
            · by_cases p38 : len3 + len4 + len7 + len8 ≤ 1048576
              all_goals
                go_enter Try.func4, Try.ntmps4
                go_wp2_with fail
                go_ret
                exact ⟨⟨_, rfl⟩, rfl⟩
            · go_enter Try.func4, Try.ntmps4
              go_wp2_with fail
              go_ret
              exact ⟨⟨_, rfl⟩, rfl⟩
          · go_enter Try.func4, Try.ntmps4
            go_wp2_with fail
            go_ret
            exact ⟨⟨_, rfl⟩, rfl⟩
        · go_enter Try.func4, Try.ntmps4
          go_wp2_with fail
          go_ret
          exact ⟨⟨_, rfl⟩, rfl⟩
      · go_enter Try.func4, Try.ntmps4
        go_wp2_with fail
        go_ret
        exact ⟨⟨_, rfl⟩, rfl⟩
    · go_enter Try.func4, Try.ntmps4
      go_wp2_with fail
      go_ret
      exact ⟨⟨_, rfl⟩, rfl⟩
  · go_enter Try.func4, Try.ntmps4
    go_wp2_with fail
    go_ret
    exact ⟨⟨_, rfl⟩, rfl⟩
end
theorem sub_fin {x : Nat} (h : Fp.fin x) : ∃ r, Ieee.double.sub x x = some r ∧ (FloatKind.f64.format.order r 0 != some .eq) = false := by
  obtain ⟨r, e, n⟩ := Fp.fsub h h
  refine ⟨r, e, ?_⟩
  have v0 : Fp.val 0 = 0 := by decide +kernel
  have hz : Fp.val x - Fp.val x = 0 := by grind
  have g1 := n.ge (k := 0) (by decide) (by rw [hz, v0]; exact Rat.le_refl)
  have g2 := n.le (k := 0) (by decide) (by rw [hz, v0]; exact Rat.le_refl)
  rw [f_ne n.nn zero_nn]
  simp; omega
theorem sub_nan {x : Nat} (h : ¬ Fp.fin x) : Ieee.double.sub x x = none := by
  unfold Ieee.Format.sub
  rw [Fp.read_eq]
  unfold Fp.fin at h
  by_cases e : Fp.rg x = 9218868437227405312
  · rw [e, Fp.dec_inf]; cases Fp.sg x <;> rfl
  · rw [Fp.dec_nan (by omega)]; rfl
theorem nd_new {W W' : World} {vl vr : Value} {op : Int} {B : Nat} (h : Below B (W.alloc (.cells #[vl, .int .i32 0, vr, .int .i32 0, .int .u8 op, .bool false] 38)) W') (hB : W.heap.size < B) : Nd W' W.heap.size vl vr op := by
  have hs := h.size
  simp at hs
  refine ⟨by omega, ?_, ?_, ?_, ?_, ?_⟩ <;> (rw [h.cell (by exact hB)]; simp [go_sem])
theorem ints_below {k : IntKind} {w W : World} {a : Option Addr} {len cap : Nat} {zs : List Int} (h : IsInts k w a len cap zs) (b : Below w.heap.size w W) : IsInts k W a len cap zs := ⟨h.1.below b, h.2⟩
theorem bools_below {w W : World} {a : Option Addr} {len cap : Nat} {zs : List Bool} (h : IsBools w a len cap zs) (b : Below w.heap.size w W) : IsBools W a len cap zs := IsSlice.below h b
theorem Below.stp {w W W' : World} (h : Below W.heap.size W W') (b : Below w.heap.size w W) : Below w.heap.size w W' := b.trans (h.mono b.size)
section
variable {a0 : Int} {a1 : Bool} {a2 : Nat} {a3 : Option Addr} {len3 cap3 : Nat} {z3 : List Int} {a4 : Option Addr} {len4 cap4 : Nat} {z4 : List Bool} {a5 : Bool} {a6 : Nat} {a7 : Option Addr} {len7 cap7 : Nat} {z7 : List Int} {a8 : Option Addr} {len8 cap8 : Nat} {z8 : List Bool}
  {w : World}
set_option maxRecDepth 100000 in
set_option maxHeartbeats 8000000 in
theorem long3 (H4 : Hid (Calls Try.prog 4 #[.int .u8 a0, .bool a1, .float .f64 a2, .slice a3 len3 cap3, .slice a4 len4 cap4, .bool a5, .float .f64 a6, .slice a7 len7 cap7, .slice a8 len8 cap8] w fun e w' => (∃ v, e = .returned (.bool v)) ∧ w = w')) (h3 : len3 ≤ 9223372036854775807) (h4 : len4 ≤ 9223372036854775807) (h7 : len7 ≤ 9223372036854775807) (h8 : len8 ≤ 9223372036854775807)  (o3 : ¬ len3 ≤ 131072) :
    Calls Try.prog 3 #[.int .u8 a0, .bool a1, .float .f64 a2, .slice a3 len3 cap3, .slice a4 len4 cap4, .bool a5, .float .f64 a6, .slice a7 len7 cap7, .slice a8 len8 cap8] w fun e w' => e = .returned (.bool true) ∧ Below w.heap.size w w' := by
  go_enter Try.func3, Try.ntmps3
  go_wp2_with (go_at_call 4; (with_reducible refine H4.out.mono ?_); rintro _ _ ⟨⟨v, rfl⟩, rfl⟩; cases v)
  all_goals
    go_ret
    exact ⟨rfl, (by repeat' (first | (with_reducible assumption) | (with_reducible exact Below.refl _ _) | (with_reducible refine below_drewN ?_ _) | (with_reducible refine Below.drew ?_)))⟩
set_option maxRecDepth 100000 in
set_option maxHeartbeats 8000000 in
theorem long7 (H4 : Hid (Calls Try.prog 4 #[.int .u8 a0, .bool a1, .float .f64 a2, .slice a3 len3 cap3, .slice a4 len4 cap4, .bool a5, .float .f64 a6, .slice a7 len7 cap7, .slice a8 len8 cap8] w fun e w' => (∃ v, e = .returned (.bool v)) ∧ w = w')) (h3 : len3 ≤ 9223372036854775807) (h4 : len4 ≤ 9223372036854775807) (h7 : len7 ≤ 9223372036854775807) (h8 : len8 ≤ 9223372036854775807) (o3 : len3 ≤ 131072) (o7 : ¬ len7 ≤ 131072) :
    Calls Try.prog 3 #[.int .u8 a0, .bool a1, .float .f64 a2, .slice a3 len3 cap3, .slice a4 len4 cap4, .bool a5, .float .f64 a6, .slice a7 len7 cap7, .slice a8 len8 cap8] w fun e w' => e = .returned (.bool true) ∧ Below w.heap.size w w' := by
  go_enter Try.func3, Try.ntmps3
  go_wp2_with (go_at_call 4; (with_reducible refine H4.out.mono ?_); rintro _ _ ⟨⟨v, rfl⟩, rfl⟩; cases v)
  all_goals
    go_ret
    exact ⟨rfl, (by repeat' (first | (with_reducible assumption) | (with_reducible exact Below.refl _ _) | (with_reducible refine below_drewN ?_ _) | (with_reducible refine Below.drew ?_)))⟩
set_option maxRecDepth 100000 in
set_option maxHeartbeats 8000000 in
theorem long4 (H4 : Hid (Calls Try.prog 4 #[.int .u8 a0, .bool a1, .float .f64 a2, .slice a3 len3 cap3, .slice a4 len4 cap4, .bool a5, .float .f64 a6, .slice a7 len7 cap7, .slice a8 len8 cap8] w fun e w' => (∃ v, e = .returned (.bool v)) ∧ w = w')) (h3 : len3 ≤ 9223372036854775807) (h4 : len4 ≤ 9223372036854775807) (h7 : len7 ≤ 9223372036854775807) (h8 : len8 ≤ 9223372036854775807) (o3 : len3 ≤ 131072) (o7 : len7 ≤ 131072) (o4 : ¬ len4 ≤ 4096) :
    Calls Try.prog 3 #[.int .u8 a0, .bool a1, .float .f64 a2, .slice a3 len3 cap3, .slice a4 len4 cap4, .bool a5, .float .f64 a6, .slice a7 len7 cap7, .slice a8 len8 cap8] w fun e w' => e = .returned (.bool true) ∧ Below w.heap.size w w' := by
  go_enter Try.func3, Try.ntmps3
  go_wp2_with (go_at_call 4; (with_reducible refine H4.out.mono ?_); rintro _ _ ⟨⟨v, rfl⟩, rfl⟩; cases v)
  all_goals
    go_ret
    exact ⟨rfl, (by repeat' (first | (with_reducible assumption) | (with_reducible exact Below.refl _ _) | (with_reducible refine below_drewN ?_ _) | (with_reducible refine Below.drew ?_)))⟩
set_option maxRecDepth 100000 in
set_option maxHeartbeats 8000000 in
theorem long8 (H4 : Hid (Calls Try.prog 4 #[.int .u8 a0, .bool a1, .float .f64 a2, .slice a3 len3 cap3, .slice a4 len4 cap4, .bool a5, .float .f64 a6, .slice a7 len7 cap7, .slice a8 len8 cap8] w fun e w' => (∃ v, e = .returned (.bool v)) ∧ w = w')) (h3 : len3 ≤ 9223372036854775807) (h4 : len4 ≤ 9223372036854775807) (h7 : len7 ≤ 9223372036854775807) (h8 : len8 ≤ 9223372036854775807) (o3 : len3 ≤ 131072) (o7 : len7 ≤ 131072) (o4 : len4 ≤ 4096) (o8 : ¬ len8 ≤ 4096) :
    Calls Try.prog 3 #[.int .u8 a0, .bool a1, .float .f64 a2, .slice a3 len3 cap3, .slice a4 len4 cap4, .bool a5, .float .f64 a6, .slice a7 len7 cap7, .slice a8 len8 cap8] w fun e w' => e = .returned (.bool true) ∧ Below w.heap.size w w' := by
  go_enter Try.func3, Try.ntmps3
  go_wp2_with (go_at_call 4; (with_reducible refine H4.out.mono ?_); rintro _ _ ⟨⟨v, rfl⟩, rfl⟩; cases v)
  all_goals
    go_ret
    exact ⟨rfl, (by repeat' (first | (with_reducible assumption) | (with_reducible exact Below.refl _ _) | (with_reducible refine below_drewN ?_ _) | (with_reducible refine Below.drew ?_)))⟩
set_option maxRecDepth 100000 in
set_option maxHeartbeats 8000000 in
theorem skipL23 (H4 : Hid (Calls Try.prog 4 #[.int .u8 23, .bool false, .float .f64 a2, .slice a3 len3 cap3, .slice a4 len4 cap4, .bool false, .float .f64 a6, .slice a7 len7 cap7, .slice a8 len8 cap8] w fun e w' => (∃ v, e = .returned (.bool v)) ∧ w = w')) (h3 : len3 ≤ 9223372036854775807) (h4 : len4 ≤ 9223372036854775807) (h7 : len7 ≤ 9223372036854775807) (h8 : len8 ≤ 9223372036854775807) (o3 : len3 ≤ 131072) (o7 : len7 ≤ 131072) (o4 : len4 ≤ 4096) (o8 : len8 ≤ 4096) (n2 : ¬ Fp.fin a2) :
    Calls Try.prog 3 #[.int .u8 23, .bool false, .float .f64 a2, .slice a3 len3 cap3, .slice a4 len4 cap4, .bool false, .float .f64 a6, .slice a7 len7 cap7, .slice a8 len8 cap8] w fun e w' => e = .returned (.bool true) ∧ Below w.heap.size w w' := by
  have e2 := fun (t : TypeId) (W : World) => run_float_nan (P := Try.prog) W .sub t a2 a2 (by simp) (sub_nan n2)
  have hq := fun r => n_ne (x := nanOf r) (y := 0) (.inl (isNan_nan (nanOf_isNan r)))
  clear n2
  go_enter Try.func3, Try.ntmps3
  go_wp2_with (go_at_call 4; (with_reducible refine H4.out.mono ?_); rintro _ _ ⟨⟨v, rfl⟩, rfl⟩; cases v)
  all_goals
    go_ret
    exact ⟨rfl, (by repeat' (first | (with_reducible assumption) | (with_reducible exact Below.refl _ _) | (with_reducible refine below_drewN ?_ _) | (with_reducible refine Below.drew ?_)))⟩
set_option maxRecDepth 100000 in
set_option maxHeartbeats 8000000 in
theorem skipR23 (H4 : Hid (Calls Try.prog 4 #[.int .u8 23, .bool false, .float .f64 a2, .slice a3 len3 cap3, .slice a4 len4 cap4, .bool false, .float .f64 a6, .slice a7 len7 cap7, .slice a8 len8 cap8] w fun e w' => (∃ v, e = .returned (.bool v)) ∧ w = w')) (h3 : len3 ≤ 9223372036854775807) (h4 : len4 ≤ 9223372036854775807) (h7 : len7 ≤ 9223372036854775807) (h8 : len8 ≤ 9223372036854775807) (o3 : len3 ≤ 131072) (o7 : len7 ≤ 131072) (o4 : len4 ≤ 4096) (o8 : len8 ≤ 4096) (n2 : Fp.fin a2) (n6 : ¬ Fp.fin a6) :
    Calls Try.prog 3 #[.int .u8 23, .bool false, .float .f64 a2, .slice a3 len3 cap3, .slice a4 len4 cap4, .bool false, .float .f64 a6, .slice a7 len7 cap7, .slice a8 len8 cap8] w fun e w' => e = .returned (.bool true) ∧ Below w.heap.size w w' := by
  obtain ⟨u2, k2, m2⟩ := sub_fin n2
  have e2 := fun (t : TypeId) (W : World) => run_float_arith (P := Try.prog) W .sub t .f64 _ _ _ (show floatBits .sub .f64 a2 a2 = some u2 from k2)
  clear k2 n2
  have e6 := fun (t : TypeId) (W : World) => run_float_nan (P := Try.prog) W .sub t a6 a6 (by simp) (sub_nan n6)
  have hq := fun r => n_ne (x := nanOf r) (y := 0) (.inl (isNan_nan (nanOf_isNan r)))
  clear n6
  go_enter Try.func3, Try.ntmps3
  go_wp2_with (go_at_call 4; (with_reducible refine H4.out.mono ?_); rintro _ _ ⟨⟨v, rfl⟩, rfl⟩; cases v)
  all_goals
    go_ret
    exact ⟨rfl, (by repeat' (first | (with_reducible assumption) | (with_reducible exact Below.refl _ _) | (with_reducible refine below_drewN ?_ _) | (with_reducible refine Below.drew ?_)))⟩
set_option maxRecDepth 100000 in
set_option maxHeartbeats 8000000 in
theorem skipL25 (H4 : Hid (Calls Try.prog 4 #[.int .u8 25, .bool false, .float .f64 a2, .slice a3 len3 cap3, .slice a4 len4 cap4, .bool false, .float .f64 a6, .slice a7 len7 cap7, .slice a8 len8 cap8] w fun e w' => (∃ v, e = .returned (.bool v)) ∧ w = w')) (h3 : len3 ≤ 9223372036854775807) (h4 : len4 ≤ 9223372036854775807) (h7 : len7 ≤ 9223372036854775807) (h8 : len8 ≤ 9223372036854775807) (o3 : len3 ≤ 131072) (o7 : len7 ≤ 131072) (o4 : len4 ≤ 4096) (o8 : len8 ≤ 4096) (n2 : ¬ Fp.fin a2) :
    Calls Try.prog 3 #[.int .u8 25, .bool false, .float .f64 a2, .slice a3 len3 cap3, .slice a4 len4 cap4, .bool false, .float .f64 a6, .slice a7 len7 cap7, .slice a8 len8 cap8] w fun e w' => e = .returned (.bool true) ∧ Below w.heap.size w w' := by
  have e2 := fun (t : TypeId) (W : World) => run_float_nan (P := Try.prog) W .sub t a2 a2 (by simp) (sub_nan n2)
  have hq := fun r => n_ne (x := nanOf r) (y := 0) (.inl (isNan_nan (nanOf_isNan r)))
  clear n2
  go_enter Try.func3, Try.ntmps3
  go_wp2_with (go_at_call 4; (with_reducible refine H4.out.mono ?_); rintro _ _ ⟨⟨v, rfl⟩, rfl⟩; cases v)
  all_goals
    go_ret
    exact ⟨rfl, (by repeat' (first | (with_reducible assumption) | (with_reducible exact Below.refl _ _) | (with_reducible refine below_drewN ?_ _) | (with_reducible refine Below.drew ?_)))⟩
set_option maxRecDepth 100000 in
set_option maxHeartbeats 8000000 in
theorem skipR25 (H4 : Hid (Calls Try.prog 4 #[.int .u8 25, .bool false, .float .f64 a2, .slice a3 len3 cap3, .slice a4 len4 cap4, .bool false, .float .f64 a6, .slice a7 len7 cap7, .slice a8 len8 cap8] w fun e w' => (∃ v, e = .returned (.bool v)) ∧ w = w')) (h3 : len3 ≤ 9223372036854775807) (h4 : len4 ≤ 9223372036854775807) (h7 : len7 ≤ 9223372036854775807) (h8 : len8 ≤ 9223372036854775807) (o3 : len3 ≤ 131072) (o7 : len7 ≤ 131072) (o4 : len4 ≤ 4096) (o8 : len8 ≤ 4096) (n2 : Fp.fin a2) (n6 : ¬ Fp.fin a6) :
    Calls Try.prog 3 #[.int .u8 25, .bool false, .float .f64 a2, .slice a3 len3 cap3, .slice a4 len4 cap4, .bool false, .float .f64 a6, .slice a7 len7 cap7, .slice a8 len8 cap8] w fun e w' => e = .returned (.bool true) ∧ Below w.heap.size w w' := by
  obtain ⟨u2, k2, m2⟩ := sub_fin n2
  have e2 := fun (t : TypeId) (W : World) => run_float_arith (P := Try.prog) W .sub t .f64 _ _ _ (show floatBits .sub .f64 a2 a2 = some u2 from k2)
  clear k2 n2
  have e6 := fun (t : TypeId) (W : World) => run_float_nan (P := Try.prog) W .sub t a6 a6 (by simp) (sub_nan n6)
  have hq := fun r => n_ne (x := nanOf r) (y := 0) (.inl (isNan_nan (nanOf_isNan r)))
  clear n6
  go_enter Try.func3, Try.ntmps3
  go_wp2_with (go_at_call 4; (with_reducible refine H4.out.mono ?_); rintro _ _ ⟨⟨v, rfl⟩, rfl⟩; cases v)
  all_goals
    go_ret
    exact ⟨rfl, (by repeat' (first | (with_reducible assumption) | (with_reducible exact Below.refl _ _) | (with_reducible refine below_drewN ?_ _) | (with_reducible refine Below.drew ?_)))⟩
set_option maxRecDepth 100000 in
set_option maxHeartbeats 8000000 in
theorem mainO (H4 : Hid (Calls Try.prog 4 #[.int .u8 a0, .bool a1, .float .f64 a2, .slice a3 len3 cap3, .slice a4 len4 cap4, .bool a5, .float .f64 a6, .slice a7 len7 cap7, .slice a8 len8 cap8] w fun e w' => (∃ v, e = .returned (.bool v)) ∧ w = w')) (h3 : len3 ≤ 9223372036854775807) (h4 : len4 ≤ 9223372036854775807) (h7 : len7 ≤ 9223372036854775807) (h8 : len8 ≤ 9223372036854775807) (o3 : len3 ≤ 131072) (o7 : len7 ≤ 131072) (o4 : len4 ≤ 4096) (o8 : len8 ≤ 4096) (w3 : IsInts .u16 w a3 len3 cap3 z3) (w4 : IsBools w a4 len4 cap4 z4) (w7 : IsInts .u16 w a7 len7 cap7 z7) (w8 : IsBools w a8 len8 cap8 z8) (n23 : ¬ a0 = 23) (n25 : ¬ a0 = 25)
    (ho : One a0 a1 a5 a2 a6) :
    Calls Try.prog 3 #[.int .u8 a0, .bool a1, .float .f64 a2, .slice a3 len3 cap3, .slice a4 len4 cap4, .bool a5, .float .f64 a6, .slice a7 len7 cap7, .slice a8 len8 cap8] w fun e w' => e = .returned (.bool true) ∧ Below w.heap.size w w' := by
  obtain ⟨R, hR⟩ := ho
  have hRR : (R == R) = true := by cases R <;> rfl
  have W3 := Lib.hid w3
  have W4 := Lib.hid w4
  have W7 := Lib.hid w7
  have W8 := Lib.hid w8
  clear w3 w4 w7 w8
  go_enter Try.func3, Try.ntmps3
  go_wp2_with (go_at_call 4; (with_reducible refine H4.out.mono ?_); rintro _ _ ⟨⟨v, rfl⟩, rfl⟩; cases v)
  · go_ret
    exact ⟨rfl, (by repeat' (first | (with_reducible assumption) | (with_reducible exact Below.refl _ _) | (with_reducible refine below_drewN ?_ _) | (with_reducible refine Below.drew ?_)))⟩
  refine (cl5 a3 len3 cap3 z3 _ (ints_below W3.out (by repeat' (first | (with_reducible assumption) | (with_reducible exact Below.refl _ _) | (with_reducible refine below_drewN ?_ _) | (with_reducible refine Below.drew ?_)))) (by omega)).mono ?_
  rintro _ x1 ⟨b3, k3, rfl, -, -, hb⟩
  have B1 := Lib.hid (Below.stp hb (show Below w.heap.size w _ from (by repeat' (first | (with_reducible assumption) | (with_reducible exact Below.refl _ _) | (with_reducible refine below_drewN ?_ _) | (with_reducible refine Below.drew ?_)))))
  clear hb
  go_wp2_with fail
  refine (cl5 a7 len7 cap7 z7 _ (ints_below W7.out B1.out) (by omega)).mono ?_
  rintro _ x2 ⟨b7, k7, rfl, -, -, hb⟩
  have B2 := Lib.hid (Below.stp hb B1.out)
  clear hb
  go_wp2_with fail
  refine (cl6 a4 len4 cap4 z4 _ (bools_below W4.out B2.out) (by omega)).mono ?_
  rintro _ x3 ⟨b4, k4, rfl, q4, -, hb⟩
  have Q4 := Lib.hid q4
  have B3 := Lib.hid (Below.stp hb B2.out)
  clear hb q4
  go_wp2_with fail
  refine (cl6 a8 len8 cap8 z8 _ (bools_below W8.out B3.out) (by omega)).mono ?_
  rintro _ x4 ⟨b8, k8, rfl, q8, -, hb⟩
  have Q8 := Lib.hid q8
  have Q4' := Lib.hid (bools_below Q4.out hb)
  have B4 := Lib.hid (Below.stp hb B3.out)
  clear hb q8 Q4
  go_wp2_with fail
  refine (leaf7 _ b3 len3 k3 a2 _).mono ?_
  rintro _ x5 ⟨v1, rfl, kn1, hb5⟩
  obtain ⟨T1, y1, rfl⟩ := kn1.1
  have K1 := Lib.hid kn1
  have B5 := Lib.hid (Below.stp hb5 B4.out)
  have E5 := Lib.hid hb5
  clear kn1 hb5
  go_wp2_with fail
  refine (leaf7 _ b7 len7 k7 a6 _).mono ?_
  rintro _ x6 ⟨v2, rfl, kn2, hb6⟩
  obtain ⟨T2, y2, rfl⟩ := kn2.1
  have K2 := Lib.hid kn2
  have K1' := Lib.hid (K1.out.below hb6)
  have B6 := Lib.hid (Below.stp hb6 B5.out)
  have E6 := Lib.hid (Below.stp hb6 E5.out)
  clear kn2 hb6 K1
  go_wp2_with fail
  have C7 := Lib.hid ((Below.refl x6.heap.size x6).alloc (Nat.le_refl _) (.cells #[.iface T1 y1, .int .i32 0, .iface T2 y2, .int .i32 0, .int .u8 a0, .bool false] 38))
  have B7 := Lib.hid (Below.stp C7.out B6.out)
  have E7 := Lib.hid (Below.stp C7.out E6.out)
  refine (leaf7 _ b3 len3 k3 a2 _).mono ?_
  rintro _ x7 ⟨v3, rfl, kn3, hb7⟩
  obtain ⟨T3, y3, rfl⟩ := kn3.1
  have K3 := Lib.hid kn3
  have D8 := Lib.hid hb7
  have C8 := Lib.hid (Below.stp hb7 C7.out)
  have B8 := Lib.hid (Below.stp hb7 B7.out)
  have E8 := Lib.hid (Below.stp hb7 E7.out)
  clear kn3 hb7 C7 B7 E7
  go_wp2_with fail
  refine (wrap8 _ _ _ _ b4 len4 k4 z4 _ K3.out (bools_below Q4'.out E8.out) (by omega)).mono ?_
  rintro _ x8 ⟨v4, rfl, kn4, hb8⟩
  obtain ⟨T4, y4, rfl⟩ := kn4.1
  have K4 := Lib.hid kn4
  have D9 := Lib.hid (Below.stp hb8 D8.out)
  have C9 := Lib.hid (Below.stp hb8 C8.out)
  have B9 := Lib.hid (Below.stp hb8 B8.out)
  have E9 := Lib.hid (Below.stp hb8 E8.out)
  clear kn4 hb8 C8 B8 E8 D8 K3
  go_wp2_with fail
  refine (leaf7 _ b7 len7 k7 a6 _).mono ?_
  rintro _ x9 ⟨v5, rfl, kn5, hb9⟩
  obtain ⟨T5, y5, rfl⟩ := kn5.1
  have K5 := Lib.hid kn5
  have K4' := Lib.hid (K4.out.below hb9)
  have D10 := Lib.hid (Below.stp hb9 D9.out)
  have C10 := Lib.hid (Below.stp hb9 C9.out)
  have B10 := Lib.hid (Below.stp hb9 B9.out)
  have E10 := Lib.hid (Below.stp hb9 E9.out)
  clear kn5 hb9 C9 B9 E9 D9 K4
  go_wp2_with fail
  refine (wrap8 _ _ _ _ b8 len8 k8 z8 _ K5.out (bools_below Q8.out E10.out) (by omega)).mono ?_
  rintro _ x10 ⟨v6, rfl, kn6, hb10⟩
  obtain ⟨T6, y6, rfl⟩ := kn6.1
  have K6 := Lib.hid kn6
  have K4'' := Lib.hid (K4'.out.below hb10)
  have D11 := Lib.hid (Below.stp hb10 D10.out)
  have C11 := Lib.hid (Below.stp hb10 C10.out)
  have B11 := Lib.hid (Below.stp hb10 B10.out)
  clear kn6 hb10 C10 B10 E10 D10 K5 K4'
  go_wp2_with fail
  have F11 := Lib.hid ((Below.refl x10.heap.size x10).alloc (Nat.le_refl _) (.cells #[.iface T4 y4, .int .i32 0, .iface T6 y6, .int .i32 0, .int .u8 a0, .bool false] 38))
  have G11 := Lib.hid (Below.stp F11.out D11.out)
  have B12 := Lib.hid (Below.stp F11.out B11.out)
  refine (hR (nd_new G11.out (by simp)) (K1'.out.below (Below.stp F11.out C11.out)) (K2.out.below (Below.stp F11.out C11.out))).mono ?_
  rintro _ z1 ⟨rfl, hz1⟩
  have B13 := Lib.hid (Below.stp hz1 B12.out)
  have Z1 := Lib.hid hz1
  clear hz1
  go_wp2_with fail
  refine (hR (nd_new Z1.out (by simp)) ((K4''.out.below F11.out).below Z1.out) ((K6.out.below F11.out).below Z1.out)).mono ?_
  rintro _ z2 ⟨rfl, hz2⟩
  have B14 := Lib.hid (Below.stp hz2 B13.out)
  clear hz2
  go_wp2_with fail
  go_ret
  exact ⟨rfl, B14.out⟩
set_option maxRecDepth 100000 in
set_option maxHeartbeats 8000000 in
theorem mainL23 (H4 : Hid (Calls Try.prog 4 #[.int .u8 23, .bool true, .float .f64 a2, .slice a3 len3 cap3, .slice a4 len4 cap4, .bool a5, .float .f64 a6, .slice a7 len7 cap7, .slice a8 len8 cap8] w fun e w' => (∃ v, e = .returned (.bool v)) ∧ w = w')) (h3 : len3 ≤ 9223372036854775807) (h4 : len4 ≤ 9223372036854775807) (h7 : len7 ≤ 9223372036854775807) (h8 : len8 ≤ 9223372036854775807) (o3 : len3 ≤ 131072) (o7 : len7 ≤ 131072) (o4 : len4 ≤ 4096) (o8 : len8 ≤ 4096) (w3 : IsInts .u16 w a3 len3 cap3 z3) (w4 : IsBools w a4 len4 cap4 z4) (w7 : IsInts .u16 w a7 len7 cap7 z7) (w8 : IsBools w a8 len8 cap8 z8) 
    (ho : One 23 true a5 a2 a6) :
    Calls Try.prog 3 #[.int .u8 23, .bool true, .float .f64 a2, .slice a3 len3 cap3, .slice a4 len4 cap4, .bool a5, .float .f64 a6, .slice a7 len7 cap7, .slice a8 len8 cap8] w fun e w' => e = .returned (.bool true) ∧ Below w.heap.size w w' := by
  obtain ⟨R, hR⟩ := ho
  have hRR : (R == R) = true := by cases R <;> rfl
  have W3 := Lib.hid w3
  have W4 := Lib.hid w4
  have W7 := Lib.hid w7
  have W8 := Lib.hid w8
  clear w3 w4 w7 w8
  go_enter Try.func3, Try.ntmps3
  go_wp2_with (go_at_call 4; (with_reducible refine H4.out.mono ?_); rintro _ _ ⟨⟨v, rfl⟩, rfl⟩; cases v)
  · go_ret
    exact ⟨rfl, (by repeat' (first | (with_reducible assumption) | (with_reducible exact Below.refl _ _) | (with_reducible refine below_drewN ?_ _) | (with_reducible refine Below.drew ?_)))⟩
  refine (cl5 a3 len3 cap3 z3 _ (ints_below W3.out (by repeat' (first | (with_reducible assumption) | (with_reducible exact Below.refl _ _) | (with_reducible refine below_drewN ?_ _) | (with_reducible refine Below.drew ?_)))) (by omega)).mono ?_
  rintro _ x1 ⟨b3, k3, rfl, -, -, hb⟩
  have B1 := Lib.hid (Below.stp hb (show Below w.heap.size w _ from (by repeat' (first | (with_reducible assumption) | (with_reducible exact Below.refl _ _) | (with_reducible refine below_drewN ?_ _) | (with_reducible refine Below.drew ?_)))))
  clear hb
  go_wp2_with fail
  refine (cl5 a7 len7 cap7 z7 _ (ints_below W7.out B1.out) (by omega)).mono ?_
  rintro _ x2 ⟨b7, k7, rfl, -, -, hb⟩
  have B2 := Lib.hid (Below.stp hb B1.out)
  clear hb
  go_wp2_with fail
  refine (cl6 a4 len4 cap4 z4 _ (bools_below W4.out B2.out) (by omega)).mono ?_
  rintro _ x3 ⟨b4, k4, rfl, q4, -, hb⟩
  have Q4 := Lib.hid q4
  have B3 := Lib.hid (Below.stp hb B2.out)
  clear hb q4
  go_wp2_with fail
  refine (cl6 a8 len8 cap8 z8 _ (bools_below W8.out B3.out) (by omega)).mono ?_
  rintro _ x4 ⟨b8, k8, rfl, q8, -, hb⟩
  have Q8 := Lib.hid q8
  have Q4' := Lib.hid (bools_below Q4.out hb)
  have B4 := Lib.hid (Below.stp hb B3.out)
  clear hb q8 Q4
  go_wp2_with fail
  refine (leaf7 _ b3 len3 k3 a2 _).mono ?_
  rintro _ x5 ⟨v1, rfl, kn1, hb5⟩
  obtain ⟨T1, y1, rfl⟩ := kn1.1
  have K1 := Lib.hid kn1
  have B5 := Lib.hid (Below.stp hb5 B4.out)
  have E5 := Lib.hid hb5
  clear kn1 hb5
  go_wp2_with fail
  refine (leaf7 _ b7 len7 k7 a6 _).mono ?_
  rintro _ x6 ⟨v2, rfl, kn2, hb6⟩
  obtain ⟨T2, y2, rfl⟩ := kn2.1
  have K2 := Lib.hid kn2
  have K1' := Lib.hid (K1.out.below hb6)
  have B6 := Lib.hid (Below.stp hb6 B5.out)
  have E6 := Lib.hid (Below.stp hb6 E5.out)
  clear kn2 hb6 K1
  go_wp2_with fail
  have C7 := Lib.hid ((Below.refl x6.heap.size x6).alloc (Nat.le_refl _) (.cells #[.iface T1 y1, .int .i32 0, .iface T2 y2, .int .i32 0, .int .u8 23, .bool false] 38))
  have B7 := Lib.hid (Below.stp C7.out B6.out)
  have E7 := Lib.hid (Below.stp C7.out E6.out)
  refine (leaf7 _ b3 len3 k3 a2 _).mono ?_
  rintro _ x7 ⟨v3, rfl, kn3, hb7⟩
  obtain ⟨T3, y3, rfl⟩ := kn3.1
  have K3 := Lib.hid kn3
  have D8 := Lib.hid hb7
  have C8 := Lib.hid (Below.stp hb7 C7.out)
  have B8 := Lib.hid (Below.stp hb7 B7.out)
  have E8 := Lib.hid (Below.stp hb7 E7.out)
  clear kn3 hb7 C7 B7 E7
  go_wp2_with fail
  refine (wrap8 _ _ _ _ b4 len4 k4 z4 _ K3.out (bools_below Q4'.out E8.out) (by omega)).mono ?_
  rintro _ x8 ⟨v4, rfl, kn4, hb8⟩
  obtain ⟨T4, y4, rfl⟩ := kn4.1
  have K4 := Lib.hid kn4
  have D9 := Lib.hid (Below.stp hb8 D8.out)
  have C9 := Lib.hid (Below.stp hb8 C8.out)
  have B9 := Lib.hid (Below.stp hb8 B8.out)
  have E9 := Lib.hid (Below.stp hb8 E8.out)
  clear kn4 hb8 C8 B8 E8 D8 K3
  go_wp2_with fail
  refine (leaf7 _ b7 len7 k7 a6 _).mono ?_
  rintro _ x9 ⟨v5, rfl, kn5, hb9⟩
  obtain ⟨T5, y5, rfl⟩ := kn5.1
  have K5 := Lib.hid kn5
  have K4' := Lib.hid (K4.out.below hb9)
  have D10 := Lib.hid (Below.stp hb9 D9.out)
  have C10 := Lib.hid (Below.stp hb9 C9.out)
  have B10 := Lib.hid (Below.stp hb9 B9.out)
  have E10 := Lib.hid (Below.stp hb9 E9.out)
  clear kn5 hb9 C9 B9 E9 D9 K4
  go_wp2_with fail
  refine (wrap8 _ _ _ _ b8 len8 k8 z8 _ K5.out (bools_below Q8.out E10.out) (by omega)).mono ?_
  rintro _ x10 ⟨v6, rfl, kn6, hb10⟩
  obtain ⟨T6, y6, rfl⟩ := kn6.1
  have K6 := Lib.hid kn6
  have K4'' := Lib.hid (K4'.out.below hb10)
  have D11 := Lib.hid (Below.stp hb10 D10.out)
  have C11 := Lib.hid (Below.stp hb10 C10.out)
  have B11 := Lib.hid (Below.stp hb10 B10.out)
  clear kn6 hb10 C10 B10 E10 D10 K5 K4'
  go_wp2_with fail
  have F11 := Lib.hid ((Below.refl x10.heap.size x10).alloc (Nat.le_refl _) (.cells #[.iface T4 y4, .int .i32 0, .iface T6 y6, .int .i32 0, .int .u8 23, .bool false] 38))
  have G11 := Lib.hid (Below.stp F11.out D11.out)
  have B12 := Lib.hid (Below.stp F11.out B11.out)
  refine (hR (nd_new G11.out (by simp)) (K1'.out.below (Below.stp F11.out C11.out)) (K2.out.below (Below.stp F11.out C11.out))).mono ?_
  rintro _ z1 ⟨rfl, hz1⟩
  have B13 := Lib.hid (Below.stp hz1 B12.out)
  have Z1 := Lib.hid hz1
  clear hz1
  go_wp2_with fail
  refine (hR (nd_new Z1.out (by simp)) ((K4''.out.below F11.out).below Z1.out) ((K6.out.below F11.out).below Z1.out)).mono ?_
  rintro _ z2 ⟨rfl, hz2⟩
  have B14 := Lib.hid (Below.stp hz2 B13.out)
  clear hz2
  go_wp2_with fail
  go_ret
  exact ⟨rfl, B14.out⟩
set_option maxRecDepth 100000 in
set_option maxHeartbeats 8000000 in
theorem mainR23 (H4 : Hid (Calls Try.prog 4 #[.int .u8 23, .bool false, .float .f64 a2, .slice a3 len3 cap3, .slice a4 len4 cap4, .bool true, .float .f64 a6, .slice a7 len7 cap7, .slice a8 len8 cap8] w fun e w' => (∃ v, e = .returned (.bool v)) ∧ w = w')) (h3 : len3 ≤ 9223372036854775807) (h4 : len4 ≤ 9223372036854775807) (h7 : len7 ≤ 9223372036854775807) (h8 : len8 ≤ 9223372036854775807) (o3 : len3 ≤ 131072) (o7 : len7 ≤ 131072) (o4 : len4 ≤ 4096) (o8 : len8 ≤ 4096) (w3 : IsInts .u16 w a3 len3 cap3 z3) (w4 : IsBools w a4 len4 cap4 z4) (w7 : IsInts .u16 w a7 len7 cap7 z7) (w8 : IsBools w a8 len8 cap8 z8) 
    (ho : One 23 false true a2 a6) :
    Calls Try.prog 3 #[.int .u8 23, .bool false, .float .f64 a2, .slice a3 len3 cap3, .slice a4 len4 cap4, .bool true, .float .f64 a6, .slice a7 len7 cap7, .slice a8 len8 cap8] w fun e w' => e = .returned (.bool true) ∧ Below w.heap.size w w' := by
  obtain ⟨R, hR⟩ := ho
  have hRR : (R == R) = true := by cases R <;> rfl
  have W3 := Lib.hid w3
  have W4 := Lib.hid w4
  have W7 := Lib.hid w7
  have W8 := Lib.hid w8
  clear w3 w4 w7 w8
  go_enter Try.func3, Try.ntmps3
  go_wp2_with (go_at_call 4; (with_reducible refine H4.out.mono ?_); rintro _ _ ⟨⟨v, rfl⟩, rfl⟩; cases v)
  · go_ret
    exact ⟨rfl, (by repeat' (first | (with_reducible assumption) | (with_reducible exact Below.refl _ _) | (with_reducible refine below_drewN ?_ _) | (with_reducible refine Below.drew ?_)))⟩
  refine (cl5 a3 len3 cap3 z3 _ (ints_below W3.out (by repeat' (first | (with_reducible assumption) | (with_reducible exact Below.refl _ _) | (with_reducible refine below_drewN ?_ _) | (with_reducible refine Below.drew ?_)))) (by omega)).mono ?_
  rintro _ x1 ⟨b3, k3, rfl, -, -, hb⟩
  have B1 := Lib.hid (Below.stp hb (show Below w.heap.size w _ from (by repeat' (first | (with_reducible assumption) | (with_reducible exact Below.refl _ _) | (with_reducible refine below_drewN ?_ _) | (with_reducible refine Below.drew ?_)))))
  clear hb
  go_wp2_with fail
  refine (cl5 a7 len7 cap7 z7 _ (ints_below W7.out B1.out) (by omega)).mono ?_
  rintro _ x2 ⟨b7, k7, rfl, -, -, hb⟩
  have B2 := Lib.hid (Below.stp hb B1.out)
  clear hb
  go_wp2_with fail
  refine (cl6 a4 len4 cap4 z4 _ (bools_below W4.out B2.out) (by omega)).mono ?_
  rintro _ x3 ⟨b4, k4, rfl, q4, -, hb⟩
  have Q4 := Lib.hid q4
  have B3 := Lib.hid (Below.stp hb B2.out)
  clear hb q4
  go_wp2_with fail
  refine (cl6 a8 len8 cap8 z8 _ (bools_below W8.out B3.out) (by omega)).mono ?_
  rintro _ x4 ⟨b8, k8, rfl, q8, -, hb⟩
  have Q8 := Lib.hid q8
  have Q4' := Lib.hid (bools_below Q4.out hb)
  have B4 := Lib.hid (Below.stp hb B3.out)
  clear hb q8 Q4
  go_wp2_with fail
  refine (leaf7 _ b3 len3 k3 a2 _).mono ?_
  rintro _ x5 ⟨v1, rfl, kn1, hb5⟩
  obtain ⟨T1, y1, rfl⟩ := kn1.1
  have K1 := Lib.hid kn1
  have B5 := Lib.hid (Below.stp hb5 B4.out)
  have E5 := Lib.hid hb5
  clear kn1 hb5
  go_wp2_with fail
  refine (leaf7 _ b7 len7 k7 a6 _).mono ?_
  rintro _ x6 ⟨v2, rfl, kn2, hb6⟩
  obtain ⟨T2, y2, rfl⟩ := kn2.1
  have K2 := Lib.hid kn2
  have K1' := Lib.hid (K1.out.below hb6)
  have B6 := Lib.hid (Below.stp hb6 B5.out)
  have E6 := Lib.hid (Below.stp hb6 E5.out)
  clear kn2 hb6 K1
  go_wp2_with fail
  have C7 := Lib.hid ((Below.refl x6.heap.size x6).alloc (Nat.le_refl _) (.cells #[.iface T1 y1, .int .i32 0, .iface T2 y2, .int .i32 0, .int .u8 23, .bool false] 38))
  have B7 := Lib.hid (Below.stp C7.out B6.out)
  have E7 := Lib.hid (Below.stp C7.out E6.out)
  refine (leaf7 _ b3 len3 k3 a2 _).mono ?_
  rintro _ x7 ⟨v3, rfl, kn3, hb7⟩
  obtain ⟨T3, y3, rfl⟩ := kn3.1
  have K3 := Lib.hid kn3
  have D8 := Lib.hid hb7
  have C8 := Lib.hid (Below.stp hb7 C7.out)
  have B8 := Lib.hid (Below.stp hb7 B7.out)
  have E8 := Lib.hid (Below.stp hb7 E7.out)
  clear kn3 hb7 C7 B7 E7
  go_wp2_with fail
  refine (wrap8 _ _ _ _ b4 len4 k4 z4 _ K3.out (bools_below Q4'.out E8.out) (by omega)).mono ?_
  rintro _ x8 ⟨v4, rfl, kn4, hb8⟩
  obtain ⟨T4, y4, rfl⟩ := kn4.1
  have K4 := Lib.hid kn4
  have D9 := Lib.hid (Below.stp hb8 D8.out)
  have C9 := Lib.hid (Below.stp hb8 C8.out)
  have B9 := Lib.hid (Below.stp hb8 B8.out)
  have E9 := Lib.hid (Below.stp hb8 E8.out)
  clear kn4 hb8 C8 B8 E8 D8 K3
  go_wp2_with fail
  refine (leaf7 _ b7 len7 k7 a6 _).mono ?_
  rintro _ x9 ⟨v5, rfl, kn5, hb9⟩
  obtain ⟨T5, y5, rfl⟩ := kn5.1
  have K5 := Lib.hid kn5
  have K4' := Lib.hid (K4.out.below hb9)
  have D10 := Lib.hid (Below.stp hb9 D9.out)
  have C10 := Lib.hid (Below.stp hb9 C9.out)
  have B10 := Lib.hid (Below.stp hb9 B9.out)
  have E10 := Lib.hid (Below.stp hb9 E9.out)
  clear kn5 hb9 C9 B9 E9 D9 K4
  go_wp2_with fail
  refine (wrap8 _ _ _ _ b8 len8 k8 z8 _ K5.out (bools_below Q8.out E10.out) (by omega)).mono ?_
  rintro _ x10 ⟨v6, rfl, kn6, hb10⟩
  obtain ⟨T6, y6, rfl⟩ := kn6.1
  have K6 := Lib.hid kn6
  have K4'' := Lib.hid (K4'.out.below hb10)
  have D11 := Lib.hid (Below.stp hb10 D10.out)
  have C11 := Lib.hid (Below.stp hb10 C10.out)
  have B11 := Lib.hid (Below.stp hb10 B10.out)
  clear kn6 hb10 C10 B10 E10 D10 K5 K4'
  go_wp2_with fail
  have F11 := Lib.hid ((Below.refl x10.heap.size x10).alloc (Nat.le_refl _) (.cells #[.iface T4 y4, .int .i32 0, .iface T6 y6, .int .i32 0, .int .u8 23, .bool false] 38))
  have G11 := Lib.hid (Below.stp F11.out D11.out)
  have B12 := Lib.hid (Below.stp F11.out B11.out)
  refine (hR (nd_new G11.out (by simp)) (K1'.out.below (Below.stp F11.out C11.out)) (K2.out.below (Below.stp F11.out C11.out))).mono ?_
  rintro _ z1 ⟨rfl, hz1⟩
  have B13 := Lib.hid (Below.stp hz1 B12.out)
  have Z1 := Lib.hid hz1
  clear hz1
  go_wp2_with fail
  refine (hR (nd_new Z1.out (by simp)) ((K4''.out.below F11.out).below Z1.out) ((K6.out.below F11.out).below Z1.out)).mono ?_
  rintro _ z2 ⟨rfl, hz2⟩
  have B14 := Lib.hid (Below.stp hz2 B13.out)
  clear hz2
  go_wp2_with fail
  go_ret
  exact ⟨rfl, B14.out⟩
set_option maxRecDepth 100000 in
set_option maxHeartbeats 8000000 in
theorem mainF23 (H4 : Hid (Calls Try.prog 4 #[.int .u8 23, .bool false, .float .f64 a2, .slice a3 len3 cap3, .slice a4 len4 cap4, .bool false, .float .f64 a6, .slice a7 len7 cap7, .slice a8 len8 cap8] w fun e w' => (∃ v, e = .returned (.bool v)) ∧ w = w')) (h3 : len3 ≤ 9223372036854775807) (h4 : len4 ≤ 9223372036854775807) (h7 : len7 ≤ 9223372036854775807) (h8 : len8 ≤ 9223372036854775807) (o3 : len3 ≤ 131072) (o7 : len7 ≤ 131072) (o4 : len4 ≤ 4096) (o8 : len8 ≤ 4096) (w3 : IsInts .u16 w a3 len3 cap3 z3) (w4 : IsBools w a4 len4 cap4 z4) (w7 : IsInts .u16 w a7 len7 cap7 z7) (w8 : IsBools w a8 len8 cap8 z8) (n2 : Fp.fin a2) (n6 : Fp.fin a6)
    (ho : One 23 false false a2 a6) :
    Calls Try.prog 3 #[.int .u8 23, .bool false, .float .f64 a2, .slice a3 len3 cap3, .slice a4 len4 cap4, .bool false, .float .f64 a6, .slice a7 len7 cap7, .slice a8 len8 cap8] w fun e w' => e = .returned (.bool true) ∧ Below w.heap.size w w' := by
  obtain ⟨u2, k2, m2⟩ := sub_fin n2
  have e2 := fun (t : TypeId) (W : World) => run_float_arith (P := Try.prog) W .sub t .f64 _ _ _ (show floatBits .sub .f64 a2 a2 = some u2 from k2)
  clear k2 n2
  obtain ⟨u6, k6, m6⟩ := sub_fin n6
  have e6 := fun (t : TypeId) (W : World) => run_float_arith (P := Try.prog) W .sub t .f64 _ _ _ (show floatBits .sub .f64 a6 a6 = some u6 from k6)
  clear k6 n6
  obtain ⟨R, hR⟩ := ho
  have hRR : (R == R) = true := by cases R <;> rfl
  have W3 := Lib.hid w3
  have W4 := Lib.hid w4
  have W7 := Lib.hid w7
  have W8 := Lib.hid w8
  clear w3 w4 w7 w8
  go_enter Try.func3, Try.ntmps3
  go_wp2_with (go_at_call 4; (with_reducible refine H4.out.mono ?_); rintro _ _ ⟨⟨v, rfl⟩, rfl⟩; cases v)
  · go_ret
    exact ⟨rfl, (by repeat' (first | (with_reducible assumption) | (with_reducible exact Below.refl _ _) | (with_reducible refine below_drewN ?_ _) | (with_reducible refine Below.drew ?_)))⟩
  refine (cl5 a3 len3 cap3 z3 _ (ints_below W3.out (by repeat' (first | (with_reducible assumption) | (with_reducible exact Below.refl _ _) | (with_reducible refine below_drewN ?_ _) | (with_reducible refine Below.drew ?_)))) (by omega)).mono ?_
  rintro _ x1 ⟨b3, k3, rfl, -, -, hb⟩
  have B1 := Lib.hid (Below.stp hb (show Below w.heap.size w _ from (by repeat' (first | (with_reducible assumption) | (with_reducible exact Below.refl _ _) | (with_reducible refine below_drewN ?_ _) | (with_reducible refine Below.drew ?_)))))
  clear hb
  go_wp2_with fail
  refine (cl5 a7 len7 cap7 z7 _ (ints_below W7.out B1.out) (by omega)).mono ?_
  rintro _ x2 ⟨b7, k7, rfl, -, -, hb⟩
  have B2 := Lib.hid (Below.stp hb B1.out)
  clear hb
  go_wp2_with fail
  refine (cl6 a4 len4 cap4 z4 _ (bools_below W4.out B2.out) (by omega)).mono ?_
  rintro _ x3 ⟨b4, k4, rfl, q4, -, hb⟩
  have Q4 := Lib.hid q4
  have B3 := Lib.hid (Below.stp hb B2.out)
  clear hb q4
  go_wp2_with fail
  refine (cl6 a8 len8 cap8 z8 _ (bools_below W8.out B3.out) (by omega)).mono ?_
  rintro _ x4 ⟨b8, k8, rfl, q8, -, hb⟩
  have Q8 := Lib.hid q8
  have Q4' := Lib.hid (bools_below Q4.out hb)
  have B4 := Lib.hid (Below.stp hb B3.out)
  clear hb q8 Q4
  go_wp2_with fail
  refine (leaf7 _ b3 len3 k3 a2 _).mono ?_
  rintro _ x5 ⟨v1, rfl, kn1, hb5⟩
  obtain ⟨T1, y1, rfl⟩ := kn1.1
  have K1 := Lib.hid kn1
  have B5 := Lib.hid (Below.stp hb5 B4.out)
  have E5 := Lib.hid hb5
  clear kn1 hb5
  go_wp2_with fail
  refine (leaf7 _ b7 len7 k7 a6 _).mono ?_
  rintro _ x6 ⟨v2, rfl, kn2, hb6⟩
  obtain ⟨T2, y2, rfl⟩ := kn2.1
  have K2 := Lib.hid kn2
  have K1' := Lib.hid (K1.out.below hb6)
  have B6 := Lib.hid (Below.stp hb6 B5.out)
  have E6 := Lib.hid (Below.stp hb6 E5.out)
  clear kn2 hb6 K1
  go_wp2_with fail
  have C7 := Lib.hid ((Below.refl x6.heap.size x6).alloc (Nat.le_refl _) (.cells #[.iface T1 y1, .int .i32 0, .iface T2 y2, .int .i32 0, .int .u8 23, .bool false] 38))
  have B7 := Lib.hid (Below.stp C7.out B6.out)
  have E7 := Lib.hid (Below.stp C7.out E6.out)
  refine (leaf7 _ b3 len3 k3 a2 _).mono ?_
  rintro _ x7 ⟨v3, rfl, kn3, hb7⟩
  obtain ⟨T3, y3, rfl⟩ := kn3.1
  have K3 := Lib.hid kn3
  have D8 := Lib.hid hb7
  have C8 := Lib.hid (Below.stp hb7 C7.out)
  have B8 := Lib.hid (Below.stp hb7 B7.out)
  have E8 := Lib.hid (Below.stp hb7 E7.out)
  clear kn3 hb7 C7 B7 E7
  go_wp2_with fail
  refine (wrap8 _ _ _ _ b4 len4 k4 z4 _ K3.out (bools_below Q4'.out E8.out) (by omega)).mono ?_
  rintro _ x8 ⟨v4, rfl, kn4, hb8⟩
  obtain ⟨T4, y4, rfl⟩ := kn4.1
  have K4 := Lib.hid kn4
  have D9 := Lib.hid (Below.stp hb8 D8.out)
  have C9 := Lib.hid (Below.stp hb8 C8.out)
  have B9 := Lib.hid (Below.stp hb8 B8.out)
  have E9 := Lib.hid (Below.stp hb8 E8.out)
  clear kn4 hb8 C8 B8 E8 D8 K3
  go_wp2_with fail
  refine (leaf7 _ b7 len7 k7 a6 _).mono ?_
  rintro _ x9 ⟨v5, rfl, kn5, hb9⟩
  obtain ⟨T5, y5, rfl⟩ := kn5.1
  have K5 := Lib.hid kn5
  have K4' := Lib.hid (K4.out.below hb9)
  have D10 := Lib.hid (Below.stp hb9 D9.out)
  have C10 := Lib.hid (Below.stp hb9 C9.out)
  have B10 := Lib.hid (Below.stp hb9 B9.out)
  have E10 := Lib.hid (Below.stp hb9 E9.out)
  clear kn5 hb9 C9 B9 E9 D9 K4
  go_wp2_with fail
  refine (wrap8 _ _ _ _ b8 len8 k8 z8 _ K5.out (bools_below Q8.out E10.out) (by omega)).mono ?_
  rintro _ x10 ⟨v6, rfl, kn6, hb10⟩
  obtain ⟨T6, y6, rfl⟩ := kn6.1
  have K6 := Lib.hid kn6
  have K4'' := Lib.hid (K4'.out.below hb10)
  have D11 := Lib.hid (Below.stp hb10 D10.out)
  have C11 := Lib.hid (Below.stp hb10 C10.out)
  have B11 := Lib.hid (Below.stp hb10 B10.out)
  clear kn6 hb10 C10 B10 E10 D10 K5 K4'
  go_wp2_with fail
  have F11 := Lib.hid ((Below.refl x10.heap.size x10).alloc (Nat.le_refl _) (.cells #[.iface T4 y4, .int .i32 0, .iface T6 y6, .int .i32 0, .int .u8 23, .bool false] 38))
  have G11 := Lib.hid (Below.stp F11.out D11.out)
  have B12 := Lib.hid (Below.stp F11.out B11.out)
  refine (hR (nd_new G11.out (by simp)) (K1'.out.below (Below.stp F11.out C11.out)) (K2.out.below (Below.stp F11.out C11.out))).mono ?_
  rintro _ z1 ⟨rfl, hz1⟩
  have B13 := Lib.hid (Below.stp hz1 B12.out)
  have Z1 := Lib.hid hz1
  clear hz1
  go_wp2_with fail
  refine (hR (nd_new Z1.out (by simp)) ((K4''.out.below F11.out).below Z1.out) ((K6.out.below F11.out).below Z1.out)).mono ?_
  rintro _ z2 ⟨rfl, hz2⟩
  have B14 := Lib.hid (Below.stp hz2 B13.out)
  clear hz2
  go_wp2_with fail
  go_ret
  exact ⟨rfl, B14.out⟩
set_option maxRecDepth 100000 in
set_option maxHeartbeats 8000000 in
theorem mainL25 (H4 : Hid (Calls Try.prog 4 #[.int .u8 25, .bool true, .float .f64 a2, .slice a3 len3 cap3, .slice a4 len4 cap4, .bool a5, .float .f64 a6, .slice a7 len7 cap7, .slice a8 len8 cap8] w fun e w' => (∃ v, e = .returned (.bool v)) ∧ w = w')) (h3 : len3 ≤ 9223372036854775807) (h4 : len4 ≤ 9223372036854775807) (h7 : len7 ≤ 9223372036854775807) (h8 : len8 ≤ 9223372036854775807) (o3 : len3 ≤ 131072) (o7 : len7 ≤ 131072) (o4 : len4 ≤ 4096) (o8 : len8 ≤ 4096) (w3 : IsInts .u16 w a3 len3 cap3 z3) (w4 : IsBools w a4 len4 cap4 z4) (w7 : IsInts .u16 w a7 len7 cap7 z7) (w8 : IsBools w a8 len8 cap8 z8) 
    (ho : One 25 true a5 a2 a6) :
    Calls Try.prog 3 #[.int .u8 25, .bool true, .float .f64 a2, .slice a3 len3 cap3, .slice a4 len4 cap4, .bool a5, .float .f64 a6, .slice a7 len7 cap7, .slice a8 len8 cap8] w fun e w' => e = .returned (.bool true) ∧ Below w.heap.size w w' := by
  obtain ⟨R, hR⟩ := ho
  have hRR : (R == R) = true := by cases R <;> rfl
  have W3 := Lib.hid w3
  have W4 := Lib.hid w4
  have W7 := Lib.hid w7
  have W8 := Lib.hid w8
  clear w3 w4 w7 w8
  go_enter Try.func3, Try.ntmps3
  go_wp2_with (go_at_call 4; (with_reducible refine H4.out.mono ?_); rintro _ _ ⟨⟨v, rfl⟩, rfl⟩; cases v)
  · go_ret
    exact ⟨rfl, (by repeat' (first | (with_reducible assumption) | (with_reducible exact Below.refl _ _) | (with_reducible refine below_drewN ?_ _) | (with_reducible refine Below.drew ?_)))⟩
  refine (cl5 a3 len3 cap3 z3 _ (ints_below W3.out (by repeat' (first | (with_reducible assumption) | (with_reducible exact Below.refl _ _) | (with_reducible refine below_drewN ?_ _) | (with_reducible refine Below.drew ?_)))) (by omega)).mono ?_
  rintro _ x1 ⟨b3, k3, rfl, -, -, hb⟩
  have B1 := Lib.hid (Below.stp hb (show Below w.heap.size w _ from (by repeat' (first | (with_reducible assumption) | (with_reducible exact Below.refl _ _) | (with_reducible refine below_drewN ?_ _) | (with_reducible refine Below.drew ?_)))))
  clear hb
  go_wp2_with fail
  refine (cl5 a7 len7 cap7 z7 _ (ints_below W7.out B1.out) (by omega)).mono ?_
  rintro _ x2 ⟨b7, k7, rfl, -, -, hb⟩
  have B2 := Lib.hid (Below.stp hb B1.out)
  clear hb
  go_wp2_with fail
  refine (cl6 a4 len4 cap4 z4 _ (bools_below W4.out B2.out) (by omega)).mono ?_
  rintro _ x3 ⟨b4, k4, rfl, q4, -, hb⟩
  have Q4 := Lib.hid q4
  have B3 := Lib.hid (Below.stp hb B2.out)
  clear hb q4
  go_wp2_with fail
  refine (cl6 a8 len8 cap8 z8 _ (bools_below W8.out B3.out) (by omega)).mono ?_
  rintro _ x4 ⟨b8, k8, rfl, q8, -, hb⟩
  have Q8 := Lib.hid q8
  have Q4' := Lib.hid (bools_below Q4.out hb)
  have B4 := Lib.hid (Below.stp hb B3.out)
  clear hb q8 Q4
  go_wp2_with fail
  refine (leaf7 _ b3 len3 k3 a2 _).mono ?_
  rintro _ x5 ⟨v1, rfl, kn1, hb5⟩
  obtain ⟨T1, y1, rfl⟩ := kn1.1
  have K1 := Lib.hid kn1
  have B5 := Lib.hid (Below.stp hb5 B4.out)
  have E5 := Lib.hid hb5
  clear kn1 hb5
  go_wp2_with fail
  refine (leaf7 _ b7 len7 k7 a6 _).mono ?_
  rintro _ x6 ⟨v2, rfl, kn2, hb6⟩
  obtain ⟨T2, y2, rfl⟩ := kn2.1
  have K2 := Lib.hid kn2
  have K1' := Lib.hid (K1.out.below hb6)
  have B6 := Lib.hid (Below.stp hb6 B5.out)
  have E6 := Lib.hid (Below.stp hb6 E5.out)
  clear kn2 hb6 K1
  go_wp2_with fail
  have C7 := Lib.hid ((Below.refl x6.heap.size x6).alloc (Nat.le_refl _) (.cells #[.iface T1 y1, .int .i32 0, .iface T2 y2, .int .i32 0, .int .u8 25, .bool false] 38))
  have B7 := Lib.hid (Below.stp C7.out B6.out)
  have E7 := Lib.hid (Below.stp C7.out E6.out)
  refine (leaf7 _ b3 len3 k3 a2 _).mono ?_
  rintro _ x7 ⟨v3, rfl, kn3, hb7⟩
  obtain ⟨T3, y3, rfl⟩ := kn3.1
  have K3 := Lib.hid kn3
  have D8 := Lib.hid hb7
  have C8 := Lib.hid (Below.stp hb7 C7.out)
  have B8 := Lib.hid (Below.stp hb7 B7.out)
  have E8 := Lib.hid (Below.stp hb7 E7.out)
  clear kn3 hb7 C7 B7 E7
  go_wp2_with fail
  refine (wrap8 _ _ _ _ b4 len4 k4 z4 _ K3.out (bools_below Q4'.out E8.out) (by omega)).mono ?_
  rintro _ x8 ⟨v4, rfl, kn4, hb8⟩
  obtain ⟨T4, y4, rfl⟩ := kn4.1
  have K4 := Lib.hid kn4
  have D9 := Lib.hid (Below.stp hb8 D8.out)
  have C9 := Lib.hid (Below.stp hb8 C8.out)
  have B9 := Lib.hid (Below.stp hb8 B8.out)
  have E9 := Lib.hid (Below.stp hb8 E8.out)
  clear kn4 hb8 C8 B8 E8 D8 K3
  go_wp2_with fail
  refine (leaf7 _ b7 len7 k7 a6 _).mono ?_
  rintro _ x9 ⟨v5, rfl, kn5, hb9⟩
  obtain ⟨T5, y5, rfl⟩ := kn5.1
  have K5 := Lib.hid kn5
  have K4' := Lib.hid (K4.out.below hb9)
  have D10 := Lib.hid (Below.stp hb9 D9.out)
  have C10 := Lib.hid (Below.stp hb9 C9.out)
  have B10 := Lib.hid (Below.stp hb9 B9.out)
  have E10 := Lib.hid (Below.stp hb9 E9.out)
  clear kn5 hb9 C9 B9 E9 D9 K4
  go_wp2_with fail
  refine (wrap8 _ _ _ _ b8 len8 k8 z8 _ K5.out (bools_below Q8.out E10.out) (by omega)).mono ?_
  rintro _ x10 ⟨v6, rfl, kn6, hb10⟩
  obtain ⟨T6, y6, rfl⟩ := kn6.1
  have K6 := Lib.hid kn6
  have K4'' := Lib.hid (K4'.out.below hb10)
  have D11 := Lib.hid (Below.stp hb10 D10.out)
  have C11 := Lib.hid (Below.stp hb10 C10.out)
  have B11 := Lib.hid (Below.stp hb10 B10.out)
  clear kn6 hb10 C10 B10 E10 D10 K5 K4'
  go_wp2_with fail
  have F11 := Lib.hid ((Below.refl x10.heap.size x10).alloc (Nat.le_refl _) (.cells #[.iface T4 y4, .int .i32 0, .iface T6 y6, .int .i32 0, .int .u8 25, .bool false] 38))
  have G11 := Lib.hid (Below.stp F11.out D11.out)
  have B12 := Lib.hid (Below.stp F11.out B11.out)
  refine (hR (nd_new G11.out (by simp)) (K1'.out.below (Below.stp F11.out C11.out)) (K2.out.below (Below.stp F11.out C11.out))).mono ?_
  rintro _ z1 ⟨rfl, hz1⟩
  have B13 := Lib.hid (Below.stp hz1 B12.out)
  have Z1 := Lib.hid hz1
  clear hz1
  go_wp2_with fail
  refine (hR (nd_new Z1.out (by simp)) ((K4''.out.below F11.out).below Z1.out) ((K6.out.below F11.out).below Z1.out)).mono ?_
  rintro _ z2 ⟨rfl, hz2⟩
  have B14 := Lib.hid (Below.stp hz2 B13.out)
  clear hz2
  go_wp2_with fail
  go_ret
  exact ⟨rfl, B14.out⟩
set_option maxRecDepth 100000 in
set_option maxHeartbeats 8000000 in
theorem mainR25 (H4 : Hid (Calls Try.prog 4 #[.int .u8 25, .bool false, .float .f64 a2, .slice a3 len3 cap3, .slice a4 len4 cap4, .bool true, .float .f64 a6, .slice a7 len7 cap7, .slice a8 len8 cap8] w fun e w' => (∃ v, e = .returned (.bool v)) ∧ w = w')) (h3 : len3 ≤ 9223372036854775807) (h4 : len4 ≤ 9223372036854775807) (h7 : len7 ≤ 9223372036854775807) (h8 : len8 ≤ 9223372036854775807) (o3 : len3 ≤ 131072) (o7 : len7 ≤ 131072) (o4 : len4 ≤ 4096) (o8 : len8 ≤ 4096) (w3 : IsInts .u16 w a3 len3 cap3 z3) (w4 : IsBools w a4 len4 cap4 z4) (w7 : IsInts .u16 w a7 len7 cap7 z7) (w8 : IsBools w a8 len8 cap8 z8) 
    (ho : One 25 false true a2 a6) :
    Calls Try.prog 3 #[.int .u8 25, .bool false, .float .f64 a2, .slice a3 len3 cap3, .slice a4 len4 cap4, .bool true, .float .f64 a6, .slice a7 len7 cap7, .slice a8 len8 cap8] w fun e w' => e = .returned (.bool true) ∧ Below w.heap.size w w' := by
  obtain ⟨R, hR⟩ := ho
  have hRR : (R == R) = true := by cases R <;> rfl
  have W3 := Lib.hid w3
  have W4 := Lib.hid w4
  have W7 := Lib.hid w7
  have W8 := Lib.hid w8
  clear w3 w4 w7 w8
  go_enter Try.func3, Try.ntmps3
  go_wp2_with (go_at_call 4; (with_reducible refine H4.out.mono ?_); rintro _ _ ⟨⟨v, rfl⟩, rfl⟩; cases v)
  · go_ret
    exact ⟨rfl, (by repeat' (first | (with_reducible assumption) | (with_reducible exact Below.refl _ _) | (with_reducible refine below_drewN ?_ _) | (with_reducible refine Below.drew ?_)))⟩
  refine (cl5 a3 len3 cap3 z3 _ (ints_below W3.out (by repeat' (first | (with_reducible assumption) | (with_reducible exact Below.refl _ _) | (with_reducible refine below_drewN ?_ _) | (with_reducible refine Below.drew ?_)))) (by omega)).mono ?_
  rintro _ x1 ⟨b3, k3, rfl, -, -, hb⟩
  have B1 := Lib.hid (Below.stp hb (show Below w.heap.size w _ from (by repeat' (first | (with_reducible assumption) | (with_reducible exact Below.refl _ _) | (with_reducible refine below_drewN ?_ _) | (with_reducible refine Below.drew ?_)))))
  clear hb
  go_wp2_with fail
  refine (cl5 a7 len7 cap7 z7 _ (ints_below W7.out B1.out) (by omega)).mono ?_
  rintro _ x2 ⟨b7, k7, rfl, -, -, hb⟩
  have B2 := Lib.hid (Below.stp hb B1.out)
  clear hb
  go_wp2_with fail
  refine (cl6 a4 len4 cap4 z4 _ (bools_below W4.out B2.out) (by omega)).mono ?_
  rintro _ x3 ⟨b4, k4, rfl, q4, -, hb⟩
  have Q4 := Lib.hid q4
  have B3 := Lib.hid (Below.stp hb B2.out)
  clear hb q4
  go_wp2_with fail
  refine (cl6 a8 len8 cap8 z8 _ (bools_below W8.out B3.out) (by omega)).mono ?_
  rintro _ x4 ⟨b8, k8, rfl, q8, -, hb⟩
  have Q8 := Lib.hid q8
  have Q4' := Lib.hid (bools_below Q4.out hb)
  have B4 := Lib.hid (Below.stp hb B3.out)
  clear hb q8 Q4
  go_wp2_with fail
  refine (leaf7 _ b3 len3 k3 a2 _).mono ?_
  rintro _ x5 ⟨v1, rfl, kn1, hb5⟩
  obtain ⟨T1, y1, rfl⟩ := kn1.1
  have K1 := Lib.hid kn1
  have B5 := Lib.hid (Below.stp hb5 B4.out)
  have E5 := Lib.hid hb5
  clear kn1 hb5
  go_wp2_with fail
  refine (leaf7 _ b7 len7 k7 a6 _).mono ?_
  rintro _ x6 ⟨v2, rfl, kn2, hb6⟩
  obtain ⟨T2, y2, rfl⟩ := kn2.1
  have K2 := Lib.hid kn2
  have K1' := Lib.hid (K1.out.below hb6)
  have B6 := Lib.hid (Below.stp hb6 B5.out)
  have E6 := Lib.hid (Below.stp hb6 E5.out)
  clear kn2 hb6 K1
  go_wp2_with fail
  have C7 := Lib.hid ((Below.refl x6.heap.size x6).alloc (Nat.le_refl _) (.cells #[.iface T1 y1, .int .i32 0, .iface T2 y2, .int .i32 0, .int .u8 25, .bool false] 38))
  have B7 := Lib.hid (Below.stp C7.out B6.out)
  have E7 := Lib.hid (Below.stp C7.out E6.out)
  refine (leaf7 _ b3 len3 k3 a2 _).mono ?_
  rintro _ x7 ⟨v3, rfl, kn3, hb7⟩
  obtain ⟨T3, y3, rfl⟩ := kn3.1
  have K3 := Lib.hid kn3
  have D8 := Lib.hid hb7
  have C8 := Lib.hid (Below.stp hb7 C7.out)
  have B8 := Lib.hid (Below.stp hb7 B7.out)
  have E8 := Lib.hid (Below.stp hb7 E7.out)
  clear kn3 hb7 C7 B7 E7
  go_wp2_with fail
  refine (wrap8 _ _ _ _ b4 len4 k4 z4 _ K3.out (bools_below Q4'.out E8.out) (by omega)).mono ?_
  rintro _ x8 ⟨v4, rfl, kn4, hb8⟩
  obtain ⟨T4, y4, rfl⟩ := kn4.1
  have K4 := Lib.hid kn4
  have D9 := Lib.hid (Below.stp hb8 D8.out)
  have C9 := Lib.hid (Below.stp hb8 C8.out)
  have B9 := Lib.hid (Below.stp hb8 B8.out)
  have E9 := Lib.hid (Below.stp hb8 E8.out)
  clear kn4 hb8 C8 B8 E8 D8 K3
  go_wp2_with fail
  refine (leaf7 _ b7 len7 k7 a6 _).mono ?_
  rintro _ x9 ⟨v5, rfl, kn5, hb9⟩
  obtain ⟨T5, y5, rfl⟩ := kn5.1
  have K5 := Lib.hid kn5
  have K4' := Lib.hid (K4.out.below hb9)
  have D10 := Lib.hid (Below.stp hb9 D9.out)
  have C10 := Lib.hid (Below.stp hb9 C9.out)
  have B10 := Lib.hid (Below.stp hb9 B9.out)
  have E10 := Lib.hid (Below.stp hb9 E9.out)
  clear kn5 hb9 C9 B9 E9 D9 K4
  go_wp2_with fail
  refine (wrap8 _ _ _ _ b8 len8 k8 z8 _ K5.out (bools_below Q8.out E10.out) (by omega)).mono ?_
  rintro _ x10 ⟨v6, rfl, kn6, hb10⟩
  obtain ⟨T6, y6, rfl⟩ := kn6.1
  have K6 := Lib.hid kn6
  have K4'' := Lib.hid (K4'.out.below hb10)
  have D11 := Lib.hid (Below.stp hb10 D10.out)
  have C11 := Lib.hid (Below.stp hb10 C10.out)
  have B11 := Lib.hid (Below.stp hb10 B10.out)
  clear kn6 hb10 C10 B10 E10 D10 K5 K4'
  go_wp2_with fail
  have F11 := Lib.hid ((Below.refl x10.heap.size x10).alloc (Nat.le_refl _) (.cells #[.iface T4 y4, .int .i32 0, .iface T6 y6, .int .i32 0, .int .u8 25, .bool false] 38))
  have G11 := Lib.hid (Below.stp F11.out D11.out)
  have B12 := Lib.hid (Below.stp F11.out B11.out)
  refine (hR (nd_new G11.out (by simp)) (K1'.out.below (Below.stp F11.out C11.out)) (K2.out.below (Below.stp F11.out C11.out))).mono ?_
  rintro _ z1 ⟨rfl, hz1⟩
  have B13 := Lib.hid (Below.stp hz1 B12.out)
  have Z1 := Lib.hid hz1
  clear hz1
  go_wp2_with fail
  refine (hR (nd_new Z1.out (by simp)) ((K4''.out.below F11.out).below Z1.out) ((K6.out.below F11.out).below Z1.out)).mono ?_
  rintro _ z2 ⟨rfl, hz2⟩
  have B14 := Lib.hid (Below.stp hz2 B13.out)
  clear hz2
  go_wp2_with fail
  go_ret
  exact ⟨rfl, B14.out⟩
set_option maxRecDepth 100000 in
set_option maxHeartbeats 8000000 in
theorem mainF25 (H4 : Hid (Calls Try.prog 4 #[.int .u8 25, .bool false, .float .f64 a2, .slice a3 len3 cap3, .slice a4 len4 cap4, .bool false, .float .f64 a6, .slice a7 len7 cap7, .slice a8 len8 cap8] w fun e w' => (∃ v, e = .returned (.bool v)) ∧ w = w')) (h3 : len3 ≤ 9223372036854775807) (h4 : len4 ≤ 9223372036854775807) (h7 : len7 ≤ 9223372036854775807) (h8 : len8 ≤ 9223372036854775807) (o3 : len3 ≤ 131072) (o7 : len7 ≤ 131072) (o4 : len4 ≤ 4096) (o8 : len8 ≤ 4096) (w3 : IsInts .u16 w a3 len3 cap3 z3) (w4 : IsBools w a4 len4 cap4 z4) (w7 : IsInts .u16 w a7 len7 cap7 z7) (w8 : IsBools w a8 len8 cap8 z8) (n2 : Fp.fin a2) (n6 : Fp.fin a6)
    (ho : One 25 false false a2 a6) :
    Calls Try.prog 3 #[.int .u8 25, .bool false, .float .f64 a2, .slice a3 len3 cap3, .slice a4 len4 cap4, .bool false, .float .f64 a6, .slice a7 len7 cap7, .slice a8 len8 cap8] w fun e w' => e = .returned (.bool true) ∧ Below w.heap.size w w' := by
  obtain ⟨u2, k2, m2⟩ := sub_fin n2
  have e2 := fun (t : TypeId) (W : World) => run_float_arith (P := Try.prog) W .sub t .f64 _ _ _ (show floatBits .sub .f64 a2 a2 = some u2 from k2)
  clear k2 n2
  obtain ⟨u6, k6, m6⟩ := sub_fin n6
  have e6 := fun (t : TypeId) (W : World) => run_float_arith (P := Try.prog) W .sub t .f64 _ _ _ (show floatBits .sub .f64 a6 a6 = some u6 from k6)
  clear k6 n6
  obtain ⟨R, hR⟩ := ho
  have hRR : (R == R) = true := by cases R <;> rfl
  have W3 := Lib.hid w3
  have W4 := Lib.hid w4
  have W7 := Lib.hid w7
  have W8 := Lib.hid w8
  clear w3 w4 w7 w8
  go_enter Try.func3, Try.ntmps3
  go_wp2_with (go_at_call 4; (with_reducible refine H4.out.mono ?_); rintro _ _ ⟨⟨v, rfl⟩, rfl⟩; cases v)
  · go_ret
    exact ⟨rfl, (by repeat' (first | (with_reducible assumption) | (with_reducible exact Below.refl _ _) | (with_reducible refine below_drewN ?_ _) | (with_reducible refine Below.drew ?_)))⟩
  refine (cl5 a3 len3 cap3 z3 _ (ints_below W3.out (by repeat' (first | (with_reducible assumption) | (with_reducible exact Below.refl _ _) | (with_reducible refine below_drewN ?_ _) | (with_reducible refine Below.drew ?_)))) (by omega)).mono ?_
  rintro _ x1 ⟨b3, k3, rfl, -, -, hb⟩
  have B1 := Lib.hid (Below.stp hb (show Below w.heap.size w _ from (by repeat' (first | (with_reducible assumption) | (with_reducible exact Below.refl _ _) | (with_reducible refine below_drewN ?_ _) | (with_reducible refine Below.drew ?_)))))
  clear hb
  go_wp2_with fail
  refine (cl5 a7 len7 cap7 z7 _ (ints_below W7.out B1.out) (by omega)).mono ?_
  rintro _ x2 ⟨b7, k7, rfl, -, -, hb⟩
  have B2 := Lib.hid (Below.stp hb B1.out)
  clear hb
  go_wp2_with fail
  refine (cl6 a4 len4 cap4 z4 _ (bools_below W4.out B2.out) (by omega)).mono ?_
  rintro _ x3 ⟨b4, k4, rfl, q4, -, hb⟩
  have Q4 := Lib.hid q4
  have B3 := Lib.hid (Below.stp hb B2.out)
  clear hb q4
  go_wp2_with fail
  refine (cl6 a8 len8 cap8 z8 _ (bools_below W8.out B3.out) (by omega)).mono ?_
  rintro _ x4 ⟨b8, k8, rfl, q8, -, hb⟩
  have Q8 := Lib.hid q8
  have Q4' := Lib.hid (bools_below Q4.out hb)
  have B4 := Lib.hid (Below.stp hb B3.out)
  clear hb q8 Q4
  go_wp2_with fail
  refine (leaf7 _ b3 len3 k3 a2 _).mono ?_
  rintro _ x5 ⟨v1, rfl, kn1, hb5⟩
  obtain ⟨T1, y1, rfl⟩ := kn1.1
  have K1 := Lib.hid kn1
  have B5 := Lib.hid (Below.stp hb5 B4.out)
  have E5 := Lib.hid hb5
  clear kn1 hb5
  go_wp2_with fail
  refine (leaf7 _ b7 len7 k7 a6 _).mono ?_
  rintro _ x6 ⟨v2, rfl, kn2, hb6⟩
  obtain ⟨T2, y2, rfl⟩ := kn2.1
  have K2 := Lib.hid kn2
  have K1' := Lib.hid (K1.out.below hb6)
  have B6 := Lib.hid (Below.stp hb6 B5.out)
  have E6 := Lib.hid (Below.stp hb6 E5.out)
  clear kn2 hb6 K1
  go_wp2_with fail
  have C7 := Lib.hid ((Below.refl x6.heap.size x6).alloc (Nat.le_refl _) (.cells #[.iface T1 y1, .int .i32 0, .iface T2 y2, .int .i32 0, .int .u8 25, .bool false] 38))
  have B7 := Lib.hid (Below.stp C7.out B6.out)
  have E7 := Lib.hid (Below.stp C7.out E6.out)
  refine (leaf7 _ b3 len3 k3 a2 _).mono ?_
  rintro _ x7 ⟨v3, rfl, kn3, hb7⟩
  obtain ⟨T3, y3, rfl⟩ := kn3.1
  have K3 := Lib.hid kn3
  have D8 := Lib.hid hb7
  have C8 := Lib.hid (Below.stp hb7 C7.out)
  have B8 := Lib.hid (Below.stp hb7 B7.out)
  have E8 := Lib.hid (Below.stp hb7 E7.out)
  clear kn3 hb7 C7 B7 E7
  go_wp2_with fail
  refine (wrap8 _ _ _ _ b4 len4 k4 z4 _ K3.out (bools_below Q4'.out E8.out) (by omega)).mono ?_
  rintro _ x8 ⟨v4, rfl, kn4, hb8⟩
  obtain ⟨T4, y4, rfl⟩ := kn4.1
  have K4 := Lib.hid kn4
  have D9 := Lib.hid (Below.stp hb8 D8.out)
  have C9 := Lib.hid (Below.stp hb8 C8.out)
  have B9 := Lib.hid (Below.stp hb8 B8.out)
  have E9 := Lib.hid (Below.stp hb8 E8.out)
  clear kn4 hb8 C8 B8 E8 D8 K3
  go_wp2_with fail
  refine (leaf7 _ b7 len7 k7 a6 _).mono ?_
  rintro _ x9 ⟨v5, rfl, kn5, hb9⟩
  obtain ⟨T5, y5, rfl⟩ := kn5.1
  have K5 := Lib.hid kn5
  have K4' := Lib.hid (K4.out.below hb9)
  have D10 := Lib.hid (Below.stp hb9 D9.out)
  have C10 := Lib.hid (Below.stp hb9 C9.out)
  have B10 := Lib.hid (Below.stp hb9 B9.out)
  have E10 := Lib.hid (Below.stp hb9 E9.out)
  clear kn5 hb9 C9 B9 E9 D9 K4
  go_wp2_with fail
  refine (wrap8 _ _ _ _ b8 len8 k8 z8 _ K5.out (bools_below Q8.out E10.out) (by omega)).mono ?_
  rintro _ x10 ⟨v6, rfl, kn6, hb10⟩
  obtain ⟨T6, y6, rfl⟩ := kn6.1
  have K6 := Lib.hid kn6
  have K4'' := Lib.hid (K4'.out.below hb10)
  have D11 := Lib.hid (Below.stp hb10 D10.out)
  have C11 := Lib.hid (Below.stp hb10 C10.out)
  have B11 := Lib.hid (Below.stp hb10 B10.out)
  clear kn6 hb10 C10 B10 E10 D10 K5 K4'
  go_wp2_with fail
  have F11 := Lib.hid ((Below.refl x10.heap.size x10).alloc (Nat.le_refl _) (.cells #[.iface T4 y4, .int .i32 0, .iface T6 y6, .int .i32 0, .int .u8 25, .bool false] 38))
  have G11 := Lib.hid (Below.stp F11.out D11.out)
  have B12 := Lib.hid (Below.stp F11.out B11.out)
  refine (hR (nd_new G11.out (by simp)) (K1'.out.below (Below.stp F11.out C11.out)) (K2.out.below (Below.stp F11.out C11.out))).mono ?_
  rintro _ z1 ⟨rfl, hz1⟩
  have B13 := Lib.hid (Below.stp hz1 B12.out)
  have Z1 := Lib.hid hz1
  clear hz1
  go_wp2_with fail
  refine (hR (nd_new Z1.out (by simp)) ((K4''.out.below F11.out).below Z1.out) ((K6.out.below F11.out).below Z1.out)).mono ?_
  rintro _ z2 ⟨rfl, hz2⟩
  have B14 := Lib.hid (Below.stp hz2 B13.out)
  clear hz2
  go_wp2_with fail
  go_ret
  exact ⟨rfl, B14.out⟩
end
theorem slice_len {w : World} {a : Option Addr} {len cap : Nat} {vs : List Value} (h : IsSlice w a len cap vs) : len ≤ 9223372036854775807 := by
  have := h.2.1; have := h.2.2.1; unfold maxLen at *; omega
theorem walk (a0 : Int) (a1 : Bool) (a2 : Nat) (a3 : Option Addr) (len3 cap3 : Nat) (z3 : List Int) (a4 : Option Addr) (len4 cap4 : Nat) (z4 : List Bool) (a5 : Bool) (a6 : Nat) (a7 : Option Addr) (len7 cap7 : Nat) (z7 : List Int) (a8 : Option Addr) (len8 cap8 : Nat) (z8 : List Bool) (w : World) (w0 : (Lit.int .u8 a0).wf = true) (w2 : (Lit.float .f64 a2).wf = true) (w3 : IsInts .u16 w a3 len3 cap3 z3) (w4 : IsBools w a4 len4 cap4 z4) (w6 : (Lit.float .f64 a6).wf = true) (w7 : IsInts .u16 w a7 len7 cap7 z7) (w8 : IsBools w a8 len8 cap8 z8) :
    Calls Try.prog 3 #[.int .u8 a0, .bool a1, .float .f64 a2, .slice a3 len3 cap3, .slice a4 len4 cap4, .bool a5, .float .f64 a6, .slice a7 len7 cap7, .slice a8 len8 cap8] w fun e w' => e = .returned (.bool true) ∧ Below w.heap.size w w' := by
  have f2 := f64_range w2
  have f6 := f64_range w6
  have l3 := slice_len w3.1
  have l4 := slice_len w4
  have l7 := slice_len w7.1
  have l8 := slice_len w8
  have H4 := Lib.hid (bytes4 a0 a1 a2 a3 len3 cap3 a4 len4 cap4 a5 a6 a7 len7 cap7 a8 len8 cap8 l3 l4 l7 l8 w)
  by_cases o3 : len3 ≤ 131072
  · by_cases o7 : len7 ≤ 131072
    · by_cases o4 : len4 ≤ 4096
      · by_cases o8 : len8 ≤ 4096
        · by_cases hop : a0 = 23 ∨ a0 = 25
          · cases a1
            · cases a5
              · by_cases n2 : Fp.fin a2
                · by_cases n6 : Fp.fin a6
                  · have ho := one_all a0 false false a2 a6 f2 f6 (fun _ _ _ => ⟨n2, n6⟩)
                    rcases hop with rfl | rfl
                    · exact mainF23 H4 l3 l4 l7 l8 o3 o7 o4 o8 w3 w4 w7 w8 n2 n6 ho
                    · exact mainF25 H4 l3 l4 l7 l8 o3 o7 o4 o8 w3 w4 w7 w8 n2 n6 ho
                  · rcases hop with rfl | rfl
                    · exact skipR23 H4 l3 l4 l7 l8 o3 o7 o4 o8 n2 n6
                    · exact skipR25 H4 l3 l4 l7 l8 o3 o7 o4 o8 n2 n6
                · rcases hop with rfl | rfl
                  · exact skipL23 H4 l3 l4 l7 l8 o3 o7 o4 o8 n2
                  · exact skipL25 H4 l3 l4 l7 l8 o3 o7 o4 o8 n2
              · have ho := one_all a0 false true a2 a6 f2 f6 (fun _ _ h => absurd h (by decide))
                rcases hop with rfl | rfl
                · exact mainR23 H4 l3 l4 l7 l8 o3 o7 o4 o8 w3 w4 w7 w8 ho
                · exact mainR25 H4 l3 l4 l7 l8 o3 o7 o4 o8 w3 w4 w7 w8 ho
            · have ho := one_all a0 true a5 a2 a6 f2 f6 (fun _ h _ => absurd h (by decide))
              rcases hop with rfl | rfl
              · exact mainL23 H4 l3 l4 l7 l8 o3 o7 o4 o8 w3 w4 w7 w8 ho
              · exact mainL25 H4 l3 l4 l7 l8 o3 o7 o4 o8 w3 w4 w7 w8 ho
          · have ho := one_all a0 a1 a5 a2 a6 f2 f6 (fun h _ _ => absurd h hop)
            exact mainO H4 l3 l4 l7 l8 o3 o7 o4 o8 w3 w4 w7 w8 (fun h => hop (.inl h)) (fun h => hop (.inr h)) ho
        · exact long8 H4 l3 l4 l7 l8 o3 o7 o4 o8
      · exact long4 H4 l3 l4 l7 l8 o3 o7 o4
    · exact long7 H4 l3 l4 l7 l8 o3 o7
  · exact long3 H4 l3 l4 l7 l8 o3
end Go.Proofs.Ytfacphjjmmfegaa.fnShouldFoldWrapInvariant
