/-
  Contracts of math.cos. No condition but the tables.
-/
import Derived.Test.YtkdlfggghgchjaaDoorCwk
import Derived.Test.YtkdlfggghgchjaaDoorCnm
import Derived.Test.YtkdlfggghgchjaaDoorCtr
namespace Go.Proofs.YtkdlfggghgchjaaDoor
open Go.ChangeShapes Go.WideShapes Go.ChangeAt Go.RowKit Fp
set_option linter.unusedVariables false
set_option exponentiation.threshold 2000

theorem and1 (n : Nat) (h : n < 4294967296) : bits .and .u64 (n : Int) 1 = ((n % 2 : Nat) : Int) := by
  have := u64_and_nat n 1 (by omega) (by omega)
  rw [show ((1 : Nat) : Int) = 1 from rfl] at this
  rw [this, show (1 : Nat) = 2 ^ 1 - 1 by decide, Nat.and_two_pow_sub_one_eq_mod]
theorem and7 (n : Nat) (h : n < 4294967297) : bits .and .u64 (n : Int) 7 = ((n % 8 : Nat) : Int) := by
  have := u64_and_nat n 7 (by omega) (by omega)
  rw [show ((7 : Nat) : Int) = 7 from rfl] at this
  rw [this, show (7 : Nat) = 2 ^ 3 - 1 by decide, Nat.and_two_pow_sub_one_eq_mod]
section
variable {x X : Nat} {w : World}
abbrev C13 (x R : Nat) (w : World) : Prop := Calls Tryd.prog 13 #[.float .f64 x] w fun e w' => e = .returned (.float .f64 R) ∧ w = w'
theorem below29 (h : X < 4737786807993761792) : (FloatKind.f64.format.order X 4737786807993761792 == some .gt) = false ∧ (FloatKind.f64.format.order X 4737786807993761792 == some .eq) = false := by
  have g1 := f_gt (x := X) (y := 4737786807993761792) (nn_pos (by omega)) (by decide)
  have g2 := f_eq (x := X) (y := 4737786807993761792) (nn_pos (by omega)) (by decide)
  rw [ky_pos (by omega), ky_pos (by omega)] at g1 g2
  rw [decide_eq_false (by omega)] at g1 g2
  exact ⟨g1, g2⟩
variable (HN : Hid (Calls Tryd.prog 14 #[.float .f64 x] w fun e w' => e = .returned (.bool false) ∧ w = w')) (HI : Hid (Calls Tryd.prog 15 #[.float .f64 x, .int .i64 0] w fun e w' => e = .returned (.bool false) ∧ w = w'))
    (HA : Hid (Calls Tryd.prog 17 #[.float .f64 x] w fun e w' => e = .returned (.float .f64 X) ∧ w = w')) (hT : CTabs w)
include HN HI HA hT
/-- The first octant. -/
theorem oct0 {c : Nat} (hX : X ≤ 4605249457297304855) (hc : CosCh X c) : C13 x c w := by
  obtain ⟨p, hp, ip⟩ := mul_in (in_w (l := 0) (h := 4605249457297304855) (x := X) (by omega) hX (by omega)) (In.self (x := 4608412980311869571) (finB_fin (by decide))) (lz := 0) (hz := 4607182418800017407) (by decide +kernel)
  have lp : p < 18446744073709551616 := (mul_near (in_w (l := 0) (h := 4605249457297304855) (x := X) (by omega) hX (by omega)) (In.self (x := 4608412980311869571) (finB_fin (by decide))) hp).lt
  have sgp : sg p = false := by
    rw [mul_sg (x := X) (y := 4608412980311869571) (by unfold Fp.fin; rw [rg_pos (by omega)]; omega) (by decide) hp, sg_pos (show X < 9223372036854775808 by omega)]; rfl
  have kp := ky_val p
  rw [sgp] at kp
  have hw := wd_sg_rg lp
  rw [sgp] at hw
  have hw2 : rg p = p := hw
  have hi := ip.hi
  rw [ky_pos (r := 4607182418800017407) (by omega)] at hi
  simp only [Bool.false_eq_true, if_false] at kp
  obtain ⟨g1, g2⟩ := below29 (X := X) (by omega)
  exact cosS00 x X p 0 X X X c 0 0 0 0 w HN HI HA hT g1 g2 (by omega) (by omega) hp (conv_0 (by omega)) (by decide) (by decide) (by decide +kernel) (by decide +kernel) (sub_z (by omega)) (by decide +kernel) (sub_z (by omega)) (by decide +kernel) (sub_z (by omega)) hc
/-- From there up to one. -/
theorem oct1 {z1 z2 z c : Nat} (h1 : 4605249457297304856 ≤ X) (h2 : X ≤ 4607182418800017408) (e1 : Ieee.double.sub X 4609753056584663040 = some z1) (e2 : Ieee.double.sub z1 4500296887714185216 = some z2) (e3 : Ieee.double.sub z2 4393339057712419184 = some z) (hc : SinCh z c) : C13 x (Op.negFloat .f64 c) w := by
  have iX := in_w (l := 4605249457297304856) (h := 4607182418800017408) (x := X) h1 h2 (by omega)
  have ic := In.self (x := 4608412980311869571) (finB_fin (by decide))
  obtain ⟨p, hp, ip⟩ := mul_in iX ic (lz := 4607182418800017408) (hz := 4609000000000000000) (by decide +kernel)
  have lp := word_pos (mul_near iX ic hp).lt ip (by omega) (by omega) (by omega)
  obtain ⟨g1, g2⟩ := below29 (X := X) (by omega)
  exact cosS12 x X p 4611686018427387904 z1 z2 z c 4609753056584663040 4500296887714185216 4393339057712419184 1 w HN HI HA hT g1 g2 (by omega) (by omega) hp (conv_1 lp.1 (by omega)) (by decide) (by decide) (by decide +kernel) (by decide +kernel) e1 (by decide +kernel) e2 (by decide +kernel) e3 hc
omit HN HI HA hT in
theorem iw_wide {n : Nat} (h : n ≤ 2147483648) : In 0 4746794007248502784 (iw (n : Int)) := by
  have hn : ((n : Int)).natAbs ≤ 9007199254740992 := by omega
  refine ⟨iw_fin hn, sv_le_iff.1 ?_, sv_le_iff.1 ?_⟩
  · rw [iw_sv hn, show sv 0 = 0 by decide +kernel]
    exact Int.mul_nonneg (by omega) (by omega)
  · rw [iw_sv hn, show sv 4746794007248502784 = 2147483648 * ((2 ^ 1074 : Nat) : Int) by decide +kernel]
    exact Int.mul_le_mul_of_nonneg_right (by omega) (by omega)
/-- From one to 2^29: some number. -/
theorem mid {X' : Nat} (hX' : X' = X) (h1 : 4607182418800017408 ≤ X) (h2 : X < 4737786807993761792) : ∃ R, C13 x R w := by
  have iX := in_w (l := 4607182418800017408) (h := 4737786807993761792) (x := X) h1 (by omega) (by omega)
  have ic := In.self (x := 4608412980311869571) (finB_fin (by decide))
  have kA := In.self (x := 4605249456957292544) (finB_fin (by decide))
  have kB := In.self (x := 4495793288086814720) (finB_fin (by decide))
  have kC := In.self (x := 4388835458085048688) (finB_fin (by decide))
  have k1 := In.self (x := 4607182418800017408) (finB_fin (by decide))
  obtain ⟨p, hp, ip⟩ := mul_in iX ic (lz := 4607182418800017408) (hz := 4742290407621132288) (by decide +kernel)
  have lp := word_pos (mul_near iX ic hp).lt ip (by omega) (by omega) (by omega)
  obtain ⟨n, hv, n1, n2, n3⟩ := conv_pos (p := p) (by omega)
  have n30 : n ≤ 1073741824 := by
    have a : N p ≤ N 4742290407621132288 := N_le lp.2
    rw [show N 4742290407621132288 = 1073741824 * Uu by decide +kernel] at a
    exact Nat.le_of_mul_le_mul_right (Nat.le_trans n1 a) Uu_pos
  obtain ⟨g1, g2⟩ := below29 (X := X) h2
  have iy := iw_wide (n := n) (by omega)
  have b1 := and1 n n3
  have hcase : ∀ (y : Nat), In 0 4751297606875873280 y → ∃ yA z1 yB z2 yC z c1 c2, Ieee.double.mul y 4605249456957292544 = some yA ∧ Ieee.double.sub X yA = some z1 ∧ Ieee.double.mul y 4495793288086814720 = some yB ∧ Ieee.double.sub z1 yB = some z2 ∧
      Ieee.double.mul y 4388835458085048688 = some yC ∧ Ieee.double.sub z2 yC = some z ∧ CosCh z c1 ∧ SinCh z c2 := by
    intro y hy
    obtain ⟨yA, a1, i1⟩ := mul_in hy kA (lz := 0) (hz := 4749420724421132288) (by decide +kernel)
    obtain ⟨z1, a2, i2⟩ := sub_in iX i1 (lz := 13973002476475908096) (hz := 4737786807993761792) (by decide +kernel)
    obtain ⟨yB, a3, i3⟩ := mul_in hy kB (lz := 0) (hz := 4647714815446351872) (by decide +kernel)
    obtain ⟨z2, a4, i4⟩ := sub_in i2 i3 (lz := 13973212191675908096) (hz := 4737786807993761792) (by decide +kernel)
    obtain ⟨yC, a5, i5⟩ := mul_in hy kC (lz := 0) (hz := 4647714815446351872) (by decide +kernel)
    obtain ⟨z, a6, i6⟩ := sub_in i4 i5 (lz := 13974669643730649088) (hz := 4751297606875873280) (by decide +kernel)
    obtain ⟨c1, hc1, _⟩ := cosWide i6
    obtain ⟨c2, hc2, _⟩ := sinWide i6
    exact ⟨yA, z1, yB, z2, yC, z, c1, c2, a1, a2, a3, a4, a5, a6, hc1, hc2⟩
  have hn8 : n % 8 = 0 ∨ n % 8 = 1 ∨ n % 8 = 2 ∨ n % 8 = 3 ∨ n % 8 = 4 ∨ n % 8 = 5 ∨ n % 8 = 6 ∨ n % 8 = 7 := by omega
  by_cases ho : n % 2 = 0
  · obtain ⟨yA, z1, yB, z2, yC, z, c1, c2, a1, a2, a3, a4, a5, a6, hc1, hc2⟩ := hcase _ (iy.wide (by decide))
    have b7 := and7 n (by omega)
    rw [ho] at b1
    rcases hn8 with h | h | h | h | h | h | h | h <;> rw [h] at b7 <;> try omega
    · exact ⟨_, cosS00 x X p _ z1 z2 z c1 yA yB yC n w HN HI HA hT g1 g2 (by omega) (by omega) hp hv b1 b7 rfl a1 a2 a3 a4 a5 a6 hc1⟩
    · exact ⟨_, cosS02 x X p _ z1 z2 z c2 yA yB yC n w HN HI HA hT g1 g2 (by omega) (by omega) hp hv b1 b7 rfl a1 a2 a3 a4 a5 a6 hc2⟩
    · exact ⟨_, cosS04 x X p _ z1 z2 z c1 yA yB yC n w HN HI HA hT g1 g2 (by omega) (by omega) hp hv b1 b7 rfl a1 a2 a3 a4 a5 a6 hc1⟩
    · exact ⟨_, cosS06 x X p _ z1 z2 z c2 yA yB yC n w HN HI HA hT g1 g2 (by omega) (by omega) hp hv b1 b7 rfl a1 a2 a3 a4 a5 a6 hc2⟩
  · obtain ⟨y, hy, i0⟩ := add_in iy k1 (lz := 0) (hz := 4751297606875873280) (by decide +kernel)
    obtain ⟨yA, z1, yB, z2, yC, z, c1, c2, a1, a2, a3, a4, a5, a6, hc1, hc2⟩ := hcase y i0
    have b7 := and7 (n + 1) (by omega)
    rw [show (((n + 1 : Nat)) : Int) = (n : Int) + 1 from rfl] at b7
    rw [show n % 2 = 1 by omega] at b1
    rcases hn8 with h | h | h | h | h | h | h | h <;> try omega
    · rw [show (n + 1) % 8 = 2 by omega] at b7
      exact ⟨_, cosS12 x X p _ z1 z2 z c2 yA yB yC n w HN HI HA hT g1 g2 (by omega) (by omega) hp hv b1 b7 hy a1 a2 a3 a4 a5 a6 hc2⟩
    · rw [show (n + 1) % 8 = 4 by omega] at b7
      exact ⟨_, cosS14 x X p _ z1 z2 z c1 yA yB yC n w HN HI HA hT g1 g2 (by omega) (by omega) hp hv b1 b7 hy a1 a2 a3 a4 a5 a6 hc1⟩
    · rw [show (n + 1) % 8 = 6 by omega] at b7
      exact ⟨_, cosS16 x X p _ z1 z2 z c2 yA yB yC n w HN HI HA hT g1 g2 (by omega) (by omega) hp hv b1 b7 hy a1 a2 a3 a4 a5 a6 hc2⟩
    · rw [show (n + 1) % 8 = 0 by omega] at b7
      exact ⟨_, cosS10 x X p _ z1 z2 z c1 yA yB yC n w HN HI HA hT g1 g2 (by omega) (by omega) hp hv b1 b7 hy a1 a2 a3 a4 a5 a6 hc1⟩
end
end Go.Proofs.YtkdlfggghgchjaaDoor
