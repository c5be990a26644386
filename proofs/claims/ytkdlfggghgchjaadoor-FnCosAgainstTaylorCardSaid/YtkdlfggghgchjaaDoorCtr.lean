/-
  The contract of math.trigReduce at great numbers. No condition but the table.
-/
import Derived.Test.YtkdlfggghgchjaaDoorCmt
import Derived.Test.YtkdlfggghgchjaaDoorCtb
import Derived.Test.YtkdlfggghgchjaaDoorShelf
import Derived.Test.YtkdlfggghgchjaaDoorFri
import Derived.Deep.QuietTactic
import Derived.Laws.Externs
import Derived.BigQuiet
namespace Go.Proofs.YtkdlfggghgchjaaDoor
open Go.ChangeShapes Go.WideShapes Go.ChangeAt Go.RowKit
set_option linter.unusedVariables false

/-- An unsigned word. -/
abbrev U64 (n : Int) : Prop := 0 ≤ n ∧ n < 18446744073709551616
theorem or_rng (a b : Int) : U64 (bits .or .u64 a b) := by
  show 0 ≤ IntKind.u64.wrap _ ∧ IntKind.u64.wrap _ < _
  rw [IntKind.wrap_u64]; omega
theorem wrap_rng (a : Int) : U64 (IntKind.u64.wrap a) := by
  unfold U64; rw [IntKind.wrap_u64]; omega
theorem mul64 (x y : Int) (hx : U64 x) (hy : U64 y) (w : World) : Calls Tryd.prog 21 #[.int .u64 x, .int .u64 y] w fun e w' => (∃ a b, e = .returned (.tuple #[.int .u64 a, .int .u64 b]) ∧ U64 a ∧ U64 b) ∧ w = w' := by
  obtain ⟨a, rfl⟩ : ∃ a : Nat, x = a := ⟨x.toNat, by omega⟩
  obtain ⟨b, rfl⟩ : ∃ b : Nat, y = b := ⟨y.toNat, by omega⟩
  refine (Tryd.bits_Mul64 a b (by omega) (by omega) w).mono ?_
  rintro _ _ ⟨rfl, rfl⟩
  have h : a * b < 18446744073709551616 * 18446744073709551616 := Nat.mul_lt_mul'' (by omega) (by omega)
  generalize a * b = p at *
  exact ⟨⟨_, _, rfl, ⟨by omega, by omega⟩, ⟨by omega, by omega⟩⟩, rfl⟩
theorem lz64 (x : Int) (hx : U64 x) (w : World) : Calls Tryd.prog 23 #[.int .u64 x] w fun e w' => (∃ n, e = .returned (.int .i64 n) ∧ 0 ≤ n ∧ n ≤ 64) ∧ w = w' := by
  refine (Tryd.bits_LeadingZeros64 x w hx.1 (by have := hx.2; omega)).mono ?_
  rintro _ _ ⟨rfl, rfl⟩
  have aux : ∀ f y, Lib.bitLenAux f y ≤ f := by
    intro f
    induction f with
    | zero => intro y; exact Nat.le_refl _
    | succ f ih =>
      intro y
      unfold Lib.bitLenAux
      split
      · omega
      · have := ih (y / 2); omega
  have h : Lib.bitLen x.toNat ≤ 64 := aux 64 _
  exact ⟨⟨_, rfl, by omega, by omega⟩, rfl⟩
theorem add64 (x y c : Int) (hx : U64 x) (hy : U64 y) (hc : c = 0 ∨ c = 1) : ∃ a b, (∀ W : World, (callFunc 22 #[.int .u64 x, .int .u64 y, .int .u64 c]).run Tryd.prog W = .ok (.value (.tuple #[.int .u64 a, .int .u64 b])) W) ∧ U64 a ∧ (b = 0 ∨ b = 1) := by
  refine ⟨(x + y + c) % 18446744073709551616, (x + y + c) / 18446744073709551616, fun W => ?_, ⟨by omega, by omega⟩, by omega⟩
  rw [run_callFunc_extern (e := add64Entry) Tryd.func22 (by kernel_rfl) (by kernel_rfl) (by kernel_rfl) (by kernel_rfl), run_add64 x y c hx.1 hy.1 (by omega) (by omega)]
  rfl
theorem shl_ex (x y : Int) (hy : 0 ≤ y) : ∃ r, Op.shift .shl .u64 x .u64 y = pure (.int .u64 r) := by
  have h : ¬ y < 0 := by omega
  simp only [Op.shift, if_neg h]
  exact ⟨_, rfl⟩
theorem shr_ex (x y : Int) (hy : 0 ≤ y) : ∃ r, Op.shift .shr .u64 x .u64 y = pure (.int .u64 r) := by
  have h : ¬ y < 0 := by omega
  simp only [Op.shift, if_neg h]
  exact ⟨_, rfl⟩
theorem or_nat52 {a b : Nat} (ha : a < 4503599627370496) (hb : b < 1023) : bits .or .u64 (a : Int) (((b : Int)) * 4503599627370496) = ((b * 4503599627370496 + a : Nat) : Int) := by
  have := u64_or_nat a (b * 4503599627370496) (by omega) (by omega)
  rw [Fp.or_join ha] at this
  rw [show (b : Int) * 4503599627370496 = ((b * 4503599627370496 : Nat) : Int) by rw [Int.natCast_mul]; rfl]
  exact this
/-- The fraction's word, and what comes of it. -/
theorem frac18 (r1 r2 n : Int) (n0 : 0 ≤ n) (n1 : n ≤ 64) : ∃ V Y1 Y2 Y3 : Nat, bits .or .u64 (bits .or .u64 r1 r2 / 4096) ((1023 - (n + 1)) * 4503599627370496) = (V : Int) ∧
    Ieee.double.sub V 4607182418800017408 = some Y1 ∧ Ieee.double.mul Y1 4605249457297304856 = some Y2 ∧ Ieee.double.mul V 4605249457297304856 = some Y3 ∧ Fp.In 13835058055282163712 4611686018427387904 Y2 ∧ Fp.In 13835058055282163712 4611686018427387904 Y3 := by
  obtain ⟨h1, h2⟩ := or_rng r1 r2
  obtain ⟨a, ha⟩ : ∃ a : Nat, bits .or .u64 r1 r2 / 4096 = (a : Int) := ⟨(bits .or .u64 r1 r2 / 4096).toNat, by omega⟩
  obtain ⟨b, hb⟩ : ∃ b : Nat, 1023 - (n + 1) = (b : Int) := ⟨(1023 - (n + 1)).toNat, by omega⟩
  have ha2 : a < 4503599627370496 := by omega
  have hb2 : b < 1023 := by omega
  rw [ha, hb, or_nat52 ha2 hb2]
  have iV : Fp.In 0 4607182418800017407 (b * 4503599627370496 + a) := by
    refine ⟨?_, ?_, ?_⟩
    · unfold Fp.fin; rw [Fp.rg_pos (by omega)]; omega
    · rw [ky_pos (by omega), ky_pos (by omega)]; omega
    · rw [ky_pos (by omega), ky_pos (by omega)]; omega
  have ic (x : Nat) (h : Fp.finB x = true) := Fp.In.self (Fp.finB_fin h)
  obtain ⟨Y1, e1, i1⟩ := Fp.sub_in iV (ic 4607182418800017408 (by decide)) (lz := 13830554455654793216) (hz := 0) (by decide +kernel)
  obtain ⟨Y2, e2, i2⟩ := Fp.mul_in i1 (ic 4605249457297304856 (by decide)) (lz := 13835058055282163712) (hz := 4611686018427387904) (by decide +kernel)
  obtain ⟨Y3, e3, i3⟩ := Fp.mul_in iV (ic 4605249457297304856 (by decide)) (lz := 13835058055282163712) (hz := 4611686018427387904) (by decide +kernel)
  exact ⟨_, Y1, Y2, Y3, rfl, e1, e2, e3, i2, i3⟩
def Even8 (j : Int) : Prop := j = 0 ∨ j = 2 ∨ j = 4 ∨ j = 6
theorem par8 {hi : Int} (h : U64 hi) : (∃ j, hi / 2305843009213693952 = j ∧ bits .and .u64 j 1 = 0 ∧ Hid (Even8 j)) ∨ (∃ j k, hi / 2305843009213693952 = j ∧ bits .and .u64 j 1 = 1 ∧ bits .and .u64 (j + 1) 7 = k ∧ Hid (Even8 k)) := by
  obtain ⟨h1, h2⟩ := h
  have : hi / 2305843009213693952 = 0 ∨ hi / 2305843009213693952 = 1 ∨ hi / 2305843009213693952 = 2 ∨ hi / 2305843009213693952 = 3 ∨ hi / 2305843009213693952 = 4 ∨ hi / 2305843009213693952 = 5 ∨ hi / 2305843009213693952 = 6 ∨ hi / 2305843009213693952 = 7 := by omega
  rcases this with h | h | h | h | h | h | h | h <;> rw [h]
  · exact .inl ⟨0, rfl, by decide, .inl rfl⟩
  · exact .inr ⟨1, 2, rfl, by decide, by decide, .inr (.inl rfl)⟩
  · exact .inl ⟨2, rfl, by decide, .inr (.inl rfl)⟩
  · exact .inr ⟨3, 4, rfl, by decide, by decide, .inr (.inr (.inl rfl))⟩
  · exact .inl ⟨4, rfl, by decide, .inr (.inr (.inl rfl))⟩
  · exact .inr ⟨5, 6, rfl, by decide, by decide, .inr (.inr (.inr rfl))⟩
  · exact .inl ⟨6, rfl, by decide, .inr (.inr (.inr rfl))⟩
  · exact .inr ⟨7, 0, rfl, by decide, by decide, .inl rfl⟩
theorem w64s {x : Int} (h1 : -5000 ≤ x) (h2 : x ≤ 5000) : wrap64 x = x := by unfold wrap64; omega
theorem wr18 {a b : Int} (h : a = b) (h1 : 0 ≤ a) (h2 : a < 100) : IntKind.u64.wrap a = b := by rw [IntKind.wrap_u64]; omega
theorem parts18 {E d s : Nat} (hE : 1052 ≤ E) (hE2 : E ≤ 2046) (hd : E = 1014 + 64 * d + s) (hs : s < 64) :
    IntKind.u64.wrap ((IntKind.u64.wrap (wrap64 (wrap64 (wrap64 (wrap64 (E : Int) - 1023) - 52) + 61))).tdiv 64) = (d : Int) ∧ (IntKind.u64.wrap (wrap64 (wrap64 (wrap64 (wrap64 (E : Int) - 1023) - 52) + 61))).tmod 64 = (s : Int) := by
  have h0 : (E : Int) - 1023 - 52 + 61 = ((64 * d + s : Nat) : Int) := by omega
  have h3 : (64 * d + s) / 64 = d := by omega
  have h4 : (64 * d + s) % 64 = s := by omega
  have h5 : 64 * d + s < 5000 := by omega
  have h6 : d < 100 := by omega
  rw [w64s (x := (E : Int)) (by omega) (by omega), w64s (x := (E : Int) - 1023) (by omega) (by omega), w64s (x := (E : Int) - 1023 - 52) (by omega) (by omega), w64s (x := (E : Int) - 1023 - 52 + 61) (by omega) (by omega), h0]
  generalize 64 * d + s = t at *
  rw [show IntKind.u64.wrap (t : Int) = (t : Int) by rw [IntKind.wrap_u64]; omega]
  rw [Int.tdiv_eq_ediv_of_nonneg (by omega), Int.tmod_eq_emod_of_nonneg (by omega)]
  constructor
  · rw [show (t : Int) / 64 = (d : Int) by omega, IntKind.wrap_u64]; omega
  · omega
set_option maxHeartbeats 2000000 in
set_option maxRecDepth 100000 in
theorem trig18 (E M d s : Nat) (hE : 1052 ≤ E) (hE2 : E ≤ 2046) (hM : M < 4503599627370496) (hd : E = 1014 + 64 * d + s) (hs : s < 64) (w : World) (hT : CTabs w) :
    Calls Tryd.prog 18 #[.float .f64 (E * 4503599627370496 + M)] w fun e w' => (∃ (j : Int) (z : Nat), e = .returned (.tuple #[.int .u64 j, .float .f64 z]) ∧ (j = 0 ∨ j = 2 ∨ j = 4 ∨ j = 6) ∧ Fp.In 13835058055282163712 4611686018427387904 z) ∧ ∃ k, w' = w.drewN k := by
  obtain ⟨D1, hD1⟩ : ∃ D1, D1 = d + 1 := ⟨_, rfl⟩
  obtain ⟨D2, hD2⟩ : ∃ D2, D2 = d + 2 := ⟨_, rfl⟩
  obtain ⟨D3, hD3⟩ : ∃ D3, D3 = d + 3 := ⟨_, rfl⟩
  obtain ⟨Q, hQ⟩ : ∃ Q, Q = 64 - s := ⟨_, rfl⟩
  obtain ⟨m0, a0, a1, l0⟩ := hT.pi4 d (by omega)
  obtain ⟨m1, b0, b1, l1⟩ := hT.pi4 D1 (by omega)
  obtain ⟨m2, p0, p1, l2⟩ := hT.pi4 D2 (by omega)
  obtain ⟨m3, q0, q1, l3⟩ := hT.pi4 D3 (by omega)
  obtain ⟨X, hX⟩ : ∃ X, X = E * 4503599627370496 + M := ⟨_, rfl⟩
  rw [← hX]
  have g := f_lt (x := X) (y := 4605249457297304856) (nn_pos (by omega)) (by decide)
  rw [ky_pos (by omega), ky_pos (by omega), decide_eq_false (by omega)] at g
  have xb := x_bits
  have xf := x_from
  have h1 : bits .and .u64 ((X : Int) / 4503599627370496) 2047 = (E : Int) := by
    have := u64_and_nat E 2047 (by omega) (by omega)
    rw [Fp.and_2047' ] at this
    rw [show (X : Int) / 4503599627370496 = ((E : Nat) : Int) by omega, show (2047 : Int) = ((2047 : Nat) : Int) from rfl, this]
    omega
  obtain ⟨ix, h2, hix⟩ : ∃ ix, bits .or .u64 (bits .andNot .u64 (X : Int) 9218868437227405312) 4503599627370496 = ix ∧ U64 ix := ⟨_, rfl, or_rng _ _⟩
  have W1 : IntKind.u64.wrap ((d : Int) + 1) = (D1 : Int) := wr18 (by omega) (by omega) (by omega)
  have W2 : IntKind.u64.wrap ((d : Int) + 2) = (D2 : Int) := wr18 (by omega) (by omega) (by omega)
  have W3 : IntKind.u64.wrap ((d : Int) + 3) = (D3 : Int) := wr18 (by omega) (by omega) (by omega)
  have WQ : IntKind.u64.wrap (64 - (s : Int)) = (Q : Int) := wr18 (by omega) (by omega) (by omega)
  have B0 : (d : Int) < 20 := by omega
  have B1 : (D1 : Int) < 20 := by omega
  have B2 : (D2 : Int) < 20 := by omega
  have B3 : (D3 : Int) < 20 := by omega
  obtain ⟨hq, hr⟩ := parts18 hE hE2 hd hs
  obtain ⟨Z0, t0, u0⟩ : ∃ Z, bits .or .u64 (IntKind.u64.wrap (m0 * 2 ^ min s 64)) (m1 / 2 ^ min Q 64) = Z ∧ U64 Z := ⟨_, rfl, or_rng _ _⟩
  obtain ⟨Z1, t1, u1⟩ : ∃ Z, bits .or .u64 (IntKind.u64.wrap (m1 * 2 ^ min s 64)) (m2 / 2 ^ min Q 64) = Z ∧ U64 Z := ⟨_, rfl, or_rng _ _⟩
  obtain ⟨Z2, t2, u2⟩ : ∃ Z, bits .or .u64 (IntKind.u64.wrap (m2 * 2 ^ min s 64)) (m3 / 2 ^ min Q 64) = Z ∧ U64 Z := ⟨_, rfl, or_rng _ _⟩
  obtain ⟨P, tP, uP⟩ : ∃ Z, IntKind.u64.wrap (Z0 * ix) = Z ∧ U64 Z := ⟨_, rfl, wrap_rng _⟩
  clear hd hX hE hE2 hM hD1 hD2 hD3 hQ hT a0 a1 b0 b1 p0 p1 q0 q1 hs
  go_enter Tryd.func18, Tryd.ntmps18
  go_wp2_with fail
  go_quiet (fail)
  go_wp2_with fail
  go_quiet (fail)
  go_wp2_with fail
  go_quiet (fail)
  clear W1 W2 W3 WQ B0 B1 B2 B3
  go_wp2_with (first
    | (go_at_call 21; (with_reducible refine (mul64 Z2 ix u2 hix _).mono ?_); rintro _ _ ⟨⟨p1, p2, rfl, v1, v2⟩, rfl⟩)
    | (go_at_call 21; (with_reducible refine (mul64 Z1 ix u1 hix _).mono ?_); rintro _ _ ⟨⟨q1, q2, rfl, v3, v4⟩, rfl⟩; obtain ⟨lo, c, A1, v5, v6⟩ := add64 q2 p1 0 v4 v1 (.inl rfl); obtain ⟨hi, c2, A2, v7, v8⟩ := add64 P q1 c uP v3 v6; rcases par8 v7 with ⟨j, hj, hb, HJ⟩ | ⟨j, j2, hj, hb, hb2, HJ⟩)
    | (go_at_call 23; (with_reducible refine (lz64 _ (or_rng _ _) _).mono ?_); rintro _ _ ⟨⟨n, rfl, n0, n1⟩, rfl⟩; obtain ⟨r1, s1⟩ := shl_ex (bits .or .u64 (IntKind.u64.wrap (hi * 8)) (lo / 2305843009213693952)) (n + 1) (by omega); obtain ⟨r2, s2⟩ := shr_ex lo (IntKind.u64.wrap (64 - (n + 1))) (wrap_rng _).1; obtain ⟨V, Y1, Y2, Y3, f0, f1, f2, f3, F4, F5⟩ := frac18 r1 r2 n n0 n1; have G1 := fun (t : TypeId) (W : World) => run_float_arith (P := Tryd.prog) W .sub t .f64 _ _ _ (show floatBits .sub .f64 V 4607182418800017408 = some Y1 from f1); have G2 := fun (t : TypeId) (W : World) => run_float_arith (P := Tryd.prog) W .mul t .f64 _ _ _ (show floatBits .mul .f64 Y1 4605249457297304856 = some Y2 from f2); have G3 := fun (t : TypeId) (W : World) => run_float_arith (P := Tryd.prog) W .mul t .f64 _ _ _ (show floatBits .mul .f64 V 4605249457297304856 = some Y3 from f3); have F4 := Lib.hid F4; have F5 := Lib.hid F5; clear f1 f2 f3))
  · go_ret2
    exact ⟨⟨_, _, rfl, HJ.out, F5.out⟩, _, rfl⟩
  · go_ret2
    exact ⟨⟨_, _, rfl, HJ.out, F4.out⟩, _, rfl⟩
end Go.Proofs.YtkdlfggghgchjaaDoor
