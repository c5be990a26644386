/-
  The contract of math.Atan2. No condition.
-/
import Derived.Test.YtkdlfggghgchjaaAtv
namespace Go.Proofs.Ytkdlfggghgchjaa
open Go.ChangeShapes Go.WideShapes Go.ChangeAt Go.RowKit Fp
set_option linter.unusedVariables false
set_option exponentiation.threshold 2000

/-- Atan2 of every word of that magnitude: C, under the word's sign. -/
abbrev Gv (F Y x C : Nat) : Prop := ∀ y, y < 18446744073709551616 → rg y = Y → ∀ w, Calls Try.prog F #[.float .f64 y, .float .f64 x] w fun e w' => e = .returned (.float .f64 (wd (sg y) C)) ∧ w = w'
theorem gv_zero (x : Nat) (hx : x < 18446744073709551616) (hn : ¬ Fp.nan x) : Gv 19 0 x (if sg x then 4614256656552045848 else 0) := by
  intro y hy hr w
  have H1 := Lib.hid (isNanB y false (decide_eq_false (by unfold Fp.nan; omega)) w)
  have H2 := Lib.hid (isNanB x false (decide_eq_false hn) w)
  have o := ord_zero' (x := y) hr
  have HS := Lib.hid (signbit x hx (sg x) rfl w)
  have HC := Lib.hid (fun c hc => copysign c y hc hy (sg y) rfl w)
  clear hr hy
  generalize sg y = s at *
  by_cases h0 : rg x = 0
  · have g1 := ord_zero' h0
    have g2 : (FloatKind.f64.format.order x 0 == some .gt) = false := by
      have : Fp.ky x = 0 := by rw [ky_val, h0]; cases sg x <;> rfl
      rw [f_gt hn zero_nn, this]; rfl
    generalize sg x = sx at *
    cases sx
    all_goals
      have HS2 := HS
      clear HS h0 hn hx
      go_enter Try.func19, Try.ntmps19
      go_wp2_with (first
        | (go_at_call 22; (with_reducible refine H1.out.mono ?_); rintro _ _ ⟨rfl, rfl⟩)
        | (go_at_call 22; (with_reducible refine H2.out.mono ?_); rintro _ _ ⟨rfl, rfl⟩)
        | (go_at_call 24; (with_reducible refine HS2.out.mono ?_); rintro _ _ ⟨rfl, rfl⟩)
        | (go_at_call 25; (with_reducible refine (HC.out _ (by omega)).mono ?_); rintro _ _ ⟨rfl, rfl⟩))
      all_goals (repeat go_ret)
      all_goals exact ⟨rfl, rfl⟩
  · obtain ⟨g1, g2, g3⟩ := ord0 hn h0
    generalize sg x = sx at *
    cases sx
    all_goals
      have HS2 := HS
      clear HS h0 hn hx
      simp only [Bool.not_true, Bool.not_false] at g3
      go_enter Try.func19, Try.ntmps19
      go_wp2_with (first
        | (go_at_call 22; (with_reducible refine H1.out.mono ?_); rintro _ _ ⟨rfl, rfl⟩)
        | (go_at_call 22; (with_reducible refine H2.out.mono ?_); rintro _ _ ⟨rfl, rfl⟩)
        | (go_at_call 24; (with_reducible refine HS2.out.mono ?_); rintro _ _ ⟨rfl, rfl⟩)
        | (go_at_call 25; (with_reducible refine (HC.out _ (by omega)).mono ?_); rintro _ _ ⟨rfl, rfl⟩))
      all_goals (repeat go_ret)
      all_goals exact ⟨rfl, rfl⟩
theorem gv_half (Y x : Nat) (h0 : Y ≠ 0) (hY : Y ≤ 9218868437227405312) (hx : x < 18446744073709551616) (h : rg x = 0 ∨ (rg x ≠ 0 ∧ Fp.fin x ∧ Y = 9218868437227405312)) : Gv 19 Y x 4609753056924675352 := by
  intro y hy hr w
  have hny : ¬ Fp.nan y := by unfold Fp.nan; omega
  have hn : ¬ Fp.nan x := by unfold Fp.nan; unfold Fp.fin at h; omega
  have H1 := Lib.hid (isNanB y false (decide_eq_false hny) w)
  have H2 := Lib.hid (isNanB x false (decide_eq_false hn) w)
  have o := (ord0 (x := y) hny (by omega)).1
  have HC := Lib.hid (fun c hc => copysign c y hc hy (sg y) rfl w)
  rcases h with h | ⟨ha, hb, hc⟩
  · have g := ord_zero' h
    clear hr hy hn h hx hny h0 hY
    generalize sg y = s at *
    go_enter Try.func19, Try.ntmps19
    go_wp2_with (first
      | (go_at_call 22; (with_reducible refine H1.out.mono ?_); rintro _ _ ⟨rfl, rfl⟩)
      | (go_at_call 22; (with_reducible refine H2.out.mono ?_); rintro _ _ ⟨rfl, rfl⟩)
      | (go_at_call 25; (with_reducible refine (HC.out _ (by omega)).mono ?_); rintro _ _ ⟨rfl, rfl⟩))
    all_goals (repeat go_ret)
    all_goals exact ⟨rfl, rfl⟩
  · have g := (ord0 (x := x) hn ha).1
    have H3 := Lib.hid (isInfB x hx false (decide_eq_false (by unfold Fp.fin at hb; omega)) w)
    have H4 := Lib.hid (isInfB y hy true (decide_eq_true (by omega)) w)
    clear hr hy hn ha hb hc hx hny h0 hY
    generalize sg y = s at *
    go_enter Try.func19, Try.ntmps19
    go_wp2_with (first
      | (go_at_call 22; (with_reducible refine H1.out.mono ?_); rintro _ _ ⟨rfl, rfl⟩)
      | (go_at_call 22; (with_reducible refine H2.out.mono ?_); rintro _ _ ⟨rfl, rfl⟩)
      | (go_at_call 26; (with_reducible refine H3.out.mono ?_); rintro _ _ ⟨rfl, rfl⟩)
      | (go_at_call 26; (with_reducible refine H4.out.mono ?_); rintro _ _ ⟨rfl, rfl⟩)
      | (go_at_call 25; (with_reducible refine (HC.out _ (by omega)).mono ?_); rintro _ _ ⟨rfl, rfl⟩))
    all_goals (repeat go_ret)
    all_goals exact ⟨rfl, rfl⟩
theorem gv_inf (Y x : Nat) (h0 : Y ≠ 0) (hY : Y ≤ 9218868437227405312) (hx : x < 18446744073709551616) (h : rg x = 9218868437227405312) :
    ∃ C, C ≤ 4614256656552045848 ∧ Gv 19 Y x C := by
  refine ⟨if Y = 9218868437227405312 then (if sg x then 4612488097114038738 else 4605249457297304856) else (if sg x then 4614256656552045848 else 0), by split <;> split <;> omega, ?_⟩
  intro y hy hr w
  have hny : ¬ Fp.nan y := by unfold Fp.nan; omega
  have hn : ¬ Fp.nan x := by unfold Fp.nan; omega
  have H1 := Lib.hid (isNanB y false (decide_eq_false hny) w)
  have H2 := Lib.hid (isNanB x false (decide_eq_false hn) w)
  have o := (ord0 (x := y) hny (by omega)).1
  have g := (ord0 (x := x) hn (by omega)).1
  have HC := Lib.hid (fun c hc => copysign c y hc hy (sg y) rfl w)
  have H3 := Lib.hid (isInfB x hx true (decide_eq_true h) w)
  have H5 := Lib.hid (isInf1 x h _ rfl w)
  have H4 := Lib.hid (isInfB y hy _ rfl w)
  generalize hyi : decide (rg y = 9218868437227405312) = b at *
  have hb : (Y = 9218868437227405312) = (b = true) := by rw [← hyi, hr]; simp
  simp only [hb]
  generalize sg x = sx at *
  clear hr hy hn h hx hny h0 hY hyi hb
  generalize sg y = s at *
  cases b <;> cases sx
  all_goals
    simp only [Bool.not_true, Bool.not_false] at H5
    go_enter Try.func19, Try.ntmps19
    go_wp2_with (first
      | (go_at_call 22; (with_reducible refine H1.out.mono ?_); rintro _ _ ⟨rfl, rfl⟩)
      | (go_at_call 22; (with_reducible refine H2.out.mono ?_); rintro _ _ ⟨rfl, rfl⟩)
      | (go_at_call 26; (with_reducible refine H3.out.mono ?_); rintro _ _ ⟨rfl, rfl⟩)
      | (go_at_call 26; (with_reducible refine H5.out.mono ?_); rintro _ _ ⟨rfl, rfl⟩)
      | (go_at_call 26; (with_reducible refine H4.out.mono ?_); rintro _ _ ⟨rfl, rfl⟩)
      | (go_at_call 25; (with_reducible refine (HC.out _ (by omega)).mono ?_); rintro _ _ ⟨rfl, rfl⟩))
    all_goals (repeat go_ret)
    all_goals exact ⟨rfl, rfl⟩
/-- Both finite and not zero. -/
theorem gv_main (Y x : Nat) (h0 : Y ≠ 0) (hY : Y < 9218868437227405312) (hx : x < 18446744073709551616) (hf : Fp.fin x) (hx0 : rg x ≠ 0)
    (hex : sg x = true → ∀ v, Ieee.double.div Y x = some v → rg v ≠ 0) : ∃ C, C ≤ 4614256656552045848 ∧ Gv 19 Y x C := by
  obtain ⟨U, hU, hd⟩ := div_signs hY hf hx0
  have hn : ¬ Fp.nan x := by unfold Fp.nan; unfold Fp.fin at hf; omega
  obtain ⟨g1, g2, g3⟩ := ord0 hn hx0
  have H2 := Lib.hid (fun w => isNanB x false (decide_eq_false hn) w)
  have H3 := Lib.hid (fun w => isInfB x hx false (decide_eq_false (by unfold Fp.fin at hf; omega)) w)
  have common : ∀ y, rg y = Y → ¬ Fp.nan y := fun y h => by unfold Fp.nan; omega
  by_cases hU0 : U = 0
  · subst hU0
    have hsx : sg x = false := by
      cases hs : sg x
      · rfl
      · exact absurd (rg_wd (by omega)) (hex hs _ (hd Y (rg_pos (by omega))))
    refine ⟨0, by omega, fun y hy hr w => ?_⟩
    have H1 := Lib.hid (isNanB y false (decide_eq_false (common y hr)) w)
    have H4 := Lib.hid (isInfB y hy false (decide_eq_false (by omega)) w)
    have o := (ord0 (x := y) (common y hr) (by omega)).1
    have hq := hd y hr
    rw [hsx, Bool.xor_false] at hq
    rw [hsx] at g2
    have HA := Lib.hid (atan27z (sg y) w)
    generalize wd (sg y) 0 = v at *
    have e1 := fun (t : TypeId) (W : World) => run_float_arith (P := Try.prog) W .quo t .f64 _ _ _ (show floatBits .quo .f64 y x = some v from hq)
    clear hq hd hex hsx common hr hy hn hf hx hx0 h0 hY hU
    go_enter Try.func19, Try.ntmps19
    go_wp2_with (first
      | (go_at_call 22; (with_reducible refine H1.out.mono ?_); rintro _ _ ⟨rfl, rfl⟩)
      | (go_at_call 22; (with_reducible refine (H2.out _).mono ?_); rintro _ _ ⟨rfl, rfl⟩)
      | (go_at_call 26; (with_reducible refine (H3.out _).mono ?_); rintro _ _ ⟨rfl, rfl⟩)
      | (go_at_call 26; (with_reducible refine H4.out.mono ?_); rintro _ _ ⟨rfl, rfl⟩)
      | (go_at_call 27; (with_reducible refine HA.out.mono ?_); rintro _ _ ⟨rfl, rfl⟩))
    all_goals (repeat go_ret)
    all_goals exact ⟨rfl, rfl⟩
  · obtain ⟨S, hc, p1, p2⟩ := atan27 U (by omega) hU
    cases hsx : sg x
    · refine ⟨S, by omega, fun y hy hr w => ?_⟩
      have H1 := Lib.hid (isNanB y false (decide_eq_false (common y hr)) w)
      have H4 := Lib.hid (isInfB y hy false (decide_eq_false (by omega)) w)
      have o := (ord0 (x := y) (common y hr) (by omega)).1
      have hq := hd y hr
      rw [hsx, Bool.xor_false] at hq
      rw [hsx] at g2
      have HA := Lib.hid (hc (sg y) w)
      generalize wd (sg y) U = v at *
      have e1 := fun (t : TypeId) (W : World) => run_float_arith (P := Try.prog) W .quo t .f64 _ _ _ (show floatBits .quo .f64 y x = some v from hq)
      generalize wd (sg y) S = z at *
      clear hq hd hex hsx common hr hy hn hf hx hx0 h0 hY hU hc p1 p2 hU0
      go_enter Try.func19, Try.ntmps19
      go_wp2_with (first
        | (go_at_call 22; (with_reducible refine H1.out.mono ?_); rintro _ _ ⟨rfl, rfl⟩)
        | (go_at_call 22; (with_reducible refine (H2.out _).mono ?_); rintro _ _ ⟨rfl, rfl⟩)
        | (go_at_call 26; (with_reducible refine (H3.out _).mono ?_); rintro _ _ ⟨rfl, rfl⟩)
        | (go_at_call 26; (with_reducible refine H4.out.mono ?_); rintro _ _ ⟨rfl, rfl⟩)
        | (go_at_call 27; (with_reducible refine HA.out.mono ?_); rintro _ _ ⟨rfl, rfl⟩))
      all_goals (repeat go_ret)
      all_goals exact ⟨rfl, rfl⟩
    · obtain ⟨C, hC, c1, c2⟩ := pi_less p1 p2
      refine ⟨C, hC, fun y hy hr w => ?_⟩
      have H1 := Lib.hid (isNanB y false (decide_eq_false (common y hr)) w)
      have H4 := Lib.hid (isInfB y hy false (decide_eq_false (by omega)) w)
      have o := (ord0 (x := y) (common y hr) (by omega)).1
      have hq := hd y hr
      rw [hsx, Bool.xor_true] at hq
      rw [hsx] at g2
      have HA := Lib.hid (hc (!sg y) w)
      have e2 := fun (t : TypeId) (W : World) => run_float_arith (P := Try.prog) W .add t .f64 _ _ _ (show floatBits .add .f64 (wd true S) 4614256656552045848 = some (wd false C) from c1)
      have e3 := fun (t : TypeId) (W : World) => run_float_arith (P := Try.prog) W .sub t .f64 _ _ _ (show floatBits .sub .f64 (wd false S) 4614256656552045848 = some (wd true C) from c2)
      generalize wd (!sg y) U = v at *
      have e1 := fun (t : TypeId) (W : World) => run_float_arith (P := Try.prog) W .quo t .f64 _ _ _ (show floatBits .quo .f64 y x = some v from hq)
      obtain ⟨q1, q2, q3⟩ := ord0 (x := wd (!sg y) S) (wd_not_nan (by omega)) (by rw [rg_wd (by omega)]; omega)
      rw [sg_wd (by omega)] at q2 q3
      generalize sg y = s at *
      clear hq hd hex hsx common hr hy hn hf hx hx0 h0 hY hU hc p1 p2 hU0 c1 c2 hC
      cases s
      all_goals
        simp only [Bool.not_true, Bool.not_false] at HA q1 q2 q3
        generalize wd true S = z1 at *
        generalize wd false S = z2 at *
        generalize wd true C = z3 at *
        generalize wd false C = z4 at *
        go_enter Try.func19, Try.ntmps19
        go_wp2_with (first
          | (go_at_call 22; (with_reducible refine H1.out.mono ?_); rintro _ _ ⟨rfl, rfl⟩)
          | (go_at_call 22; (with_reducible refine (H2.out _).mono ?_); rintro _ _ ⟨rfl, rfl⟩)
          | (go_at_call 26; (with_reducible refine (H3.out _).mono ?_); rintro _ _ ⟨rfl, rfl⟩)
          | (go_at_call 26; (with_reducible refine H4.out.mono ?_); rintro _ _ ⟨rfl, rfl⟩)
          | (go_at_call 27; (with_reducible refine HA.out.mono ?_); rintro _ _ ⟨rfl, rfl⟩))
        all_goals (repeat go_ret)
        all_goals exact ⟨rfl, rfl⟩
/-- All of them. -/
theorem gv_all (Y x : Nat) (hY : Y ≤ 9218868437227405312) (hx : x < 18446744073709551616) (hn : ¬ Fp.nan x)
    (hex : sg x = true → Y ≠ 0 → Y < 9218868437227405312 → Fp.fin x → rg x ≠ 0 → ∀ v, Ieee.double.div Y x = some v → rg v ≠ 0) : ∃ C, C ≤ 4614256656552045848 ∧ Gv 19 Y x C := by
  by_cases h0 : Y = 0
  · subst h0
    exact ⟨_, by split <;> omega, gv_zero x hx hn⟩
  · by_cases hx0 : rg x = 0
    · exact ⟨_, by omega, gv_half Y x h0 hY hx (.inl hx0)⟩
    · by_cases hi : rg x = 9218868437227405312
      · exact gv_inf Y x h0 hY hx hi
      · have hf : Fp.fin x := by unfold Fp.fin; unfold Fp.nan at hn; omega
        by_cases hyi : Y = 9218868437227405312
        · exact ⟨_, by omega, gv_half Y x h0 hY hx (.inr ⟨hx0, hf, hyi⟩)⟩
        · exact gv_main Y x h0 (by omega) hx hf hx0 (fun h => hex h h0 (by omega) hf hx0)
theorem gv_15 {Y x C : Nat} (h : Gv 19 Y x C) : Gv 15 Y x C := by
  intro y hy hr w
  have H := Lib.hid (h y hy hr w)
  generalize wd (sg y) C = z at *
  clear h hr hy
  go_enter Try.func15, Try.ntmps15
  go_wp2_with (go_at_call 19; (with_reducible refine H.out.mono ?_); rintro _ _ ⟨rfl, rfl⟩)
  go_ret
  exact ⟨rfl, rfl⟩
/-- A NaN comes of a NaN. -/
theorem nan_15 (y x : Nat) (h : Fp.nan y ∨ Fp.nan x) (w : World) : Calls Try.prog 15 #[.float .f64 y, .float .f64 x] w fun e w' => e = .returned (.float .f64 9221120237041090561) ∧ w = w' := by
  have H1 := Lib.hid (isNanB y _ rfl w)
  have H2 := Lib.hid (isNanB x _ rfl w)
  have H3 := Lib.hid (nan23 w)
  have hb : (decide (Fp.nan y) || decide (Fp.nan x)) = true := by simpa using h
  generalize decide (Fp.nan y) = b1 at *
  generalize decide (Fp.nan x) = b2 at *
  clear h
  cases b1 <;> cases b2 <;> try exact absurd hb (by decide)
  all_goals
    clear hb
    go_enter Try.func15, Try.ntmps15
    go_wp2_with (first
      | (go_at_call 19; go_enter Try.func19, Try.ntmps19)
      | (go_at_call 22; (with_reducible refine H1.out.mono ?_); rintro _ _ ⟨rfl, rfl⟩)
      | (go_at_call 22; (with_reducible refine H2.out.mono ?_); rintro _ _ ⟨rfl, rfl⟩)
      | (go_at_call 23; (with_reducible refine H3.out.mono ?_); rintro _ _ ⟨rfl, rfl⟩))
    all_goals (repeat go_ret)
    all_goals exact ⟨rfl, rfl⟩
end Go.Proofs.Ytkdlfggghgchjaa
