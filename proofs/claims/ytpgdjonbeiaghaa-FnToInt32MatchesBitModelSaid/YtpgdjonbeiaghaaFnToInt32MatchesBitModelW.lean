/-
  The law FnToInt32MatchesBitModel's walk. No condition.
-/
import Derived.Test.YtpgdjonbeiaghaaInt32
namespace Go.Proofs.Ytpgdjonbeiaghaa.fnToInt32MatchesBitModel
open Go.ChangeShapes Go.WideShapes Go.ChangeAt Go.RowKit
set_option linter.unusedVariables false

theorem parts {f S E M : Nat} (hf : f = S * 9223372036854775808 + E * 4503599627370496 + M) (hS : S < 2) (hE : E < 2048) (hM : M < 4503599627370496) :
    Fp.sg f = decide (S = 1) ∧ Fp.rg f = E * 4503599627370496 + M := by
  unfold Fp.sg Fp.rg
  constructor
  · rw [show f / 9223372036854775808 % 2 = S by omega]; rfl
  · omega
theorem tr_zero {f M : Nat} (h : Fp.rg f = M) (hM : M < 4503599627370496) : Fp.tr f = 0 := by
  unfold Fp.tr
  rw [h, Fp.N_small hM]
  refine Nat.div_eq_of_lt (Nat.lt_of_lt_of_le hM ?_)
  exact Fp.Un_ge
theorem tr_hi {f E M m : Nat} (h : Fp.rg f = E * 4503599627370496 + M) (hM : M < 4503599627370496) (hm : m = 4503599627370496 + M) (h1 : 1075 ≤ E) : Fp.tr f = m * 2 ^ (E - 1075) := by
  unfold Fp.tr
  rw [h, Fp.N_big (by omega), show (E * 4503599627370496 + M) / 4503599627370496 = E by omega, show (E * 4503599627370496 + M) % 4503599627370496 = M by omega, ← hm]
  unfold Fp.Un
  exact Fp.mul_two_div m (E - 1) 1074 (E - 1075) (by omega)
theorem tr_lo {f E M m : Nat} (h : Fp.rg f = E * 4503599627370496 + M) (hM : M < 4503599627370496) (hm : m = 4503599627370496 + M) (h0 : 1 ≤ E) (h1 : E < 1075) : Fp.tr f = m / 2 ^ (1075 - E) := by
  unfold Fp.tr
  rw [h, Fp.N_big (by omega), show (E * 4503599627370496 + M) / 4503599627370496 = E by omega, show (E * 4503599627370496 + M) % 4503599627370496 = M by omega, ← hm]
  unfold Fp.Un
  exact Fp.div_two m (E - 1) 1074 (1075 - E) (by omega)
theorem i32_in {f S : Nat} (hs : Fp.sg f = decide (S = 1)) (hr : Fp.rg f < 9218868437227405312) : i32of f = IntKind.i32.wrap (Fp.sn (decide (S = 1)) (Fp.tr f)) := by
  unfold i32of
  rw [if_pos (show Fp.fin f from hr), hs]
theorem i32_zero {f S : Nat} (hs : Fp.sg f = decide (S = 1)) (hr : Fp.rg f < 9218868437227405312) (h : Fp.tr f % 4294967296 = 0) : wrap32 0 = i32of f := by
  rw [i32_in hs hr, IntKind.wrap_i32]
  unfold wrap32 Fp.sn
  split <;> omega
theorem i32_neg {f S : Nat} {v : Int} (hs : Fp.sg f = decide (S = 1)) (hr : Fp.rg f < 9218868437227405312) (h1 : S = 1) (h : v % 4294967296 = (Fp.tr f : Int) % 4294967296) : wrap32 (-(v % 4294967296) % 4294967296) = i32of f := by
  rw [i32_in hs hr, IntKind.wrap_i32, decide_eq_true h1]
  unfold wrap32 Fp.sn
  rw [if_pos rfl]
  omega
theorem i32_pos {f S : Nat} {v : Int} (hs : Fp.sg f = decide (S = 1)) (hr : Fp.rg f < 9218868437227405312) (h1 : ¬ S = 1) (h : v % 4294967296 = (Fp.tr f : Int) % 4294967296) : wrap32 (v % 4294967296) = i32of f := by
  rw [i32_in hs hr, IntKind.wrap_i32, decide_eq_false h1]
  unfold wrap32 Fp.sn
  rw [if_neg (by simp)]
  omega
theorem i32_not {f : Nat} (hr : ¬ Fp.rg f < 9218868437227405312) : wrap32 0 = i32of f := by
  unfold i32of
  rw [if_neg (show ¬ Fp.fin f from hr)]
  unfold wrap32
  omega
theorem wrap_u64_mod (v : Int) : IntKind.u64.wrap v % 4294967296 = v % 4294967296 := by
  rw [IntKind.wrap_u64]; omega
/-- All that the ways want. -/
theorem ends {f S E M m : Nat} (hf : f = S * 9223372036854775808 + E * 4503599627370496 + M) (hS : S < 2) (hE : E < 2048) (hM : M < 4503599627370496) (hm : m = 4503599627370496 + M) :
    (E = 2047 → wrap32 0 = i32of f) ∧ (E = 0 → wrap32 0 = i32of f) ∧
    (E ≠ 0 → E ≠ 2047 → 1075 ≤ E → S = 1 → wrap32 (-(IntKind.u64.wrap ((m : Int) * 2 ^ (E - 1075)) % 4294967296) % 4294967296) = i32of f) ∧
    (E ≠ 0 → E ≠ 2047 → 1075 ≤ E → ¬ S = 1 → wrap32 (IntKind.u64.wrap ((m : Int) * 2 ^ (E - 1075)) % 4294967296) = i32of f) ∧
    (E ≠ 0 → E ≠ 2047 → 1107 ≤ E → wrap32 0 = i32of f) ∧
    (E ≠ 0 → E ≠ 2047 → E < 1075 → S = 1 → wrap32 (-((m : Int) / 2 ^ (-((E : Int) - 1075)).toNat % 4294967296) % 4294967296) = i32of f) ∧
    (E ≠ 0 → E ≠ 2047 → E < 1075 → ¬ S = 1 → wrap32 ((m : Int) / 2 ^ (-((E : Int) - 1075)).toNat % 4294967296) = i32of f) ∧
    (E ≠ 0 → E ≠ 2047 → E ≤ 1011 → wrap32 0 = i32of f) := by
  obtain ⟨hs, hr⟩ := parts hf hS hE hM
  have hi : E ≠ 2047 → Fp.rg f < 9218868437227405312 := fun h => by omega
  have ex : (-((E : Int) - 1075)).toNat = 1075 - E := by omega
  refine ⟨fun h => i32_not (by omega), fun h => i32_zero hs (hi (by omega)) (by rw [tr_zero (M := M) (by omega) hM]), ?_, ?_, ?_, ?_, ?_, ?_⟩
  · intro h0 h7 h1 h2
    refine i32_neg (v := IntKind.u64.wrap ((m : Int) * 2 ^ (E - 1075))) hs (hi h7) h2 ?_
    rw [wrap_u64_mod, tr_hi hr hM hm h1, Int.natCast_mul, Int.natCast_pow]; rfl
  · intro h0 h7 h1 h2
    refine i32_pos (v := IntKind.u64.wrap ((m : Int) * 2 ^ (E - 1075))) hs (hi h7) h2 ?_
    rw [wrap_u64_mod, tr_hi hr hM hm h1, Int.natCast_mul, Int.natCast_pow]; rfl
  · intro h0 h7 h1
    refine i32_zero hs (hi h7) ?_
    rw [tr_hi hr hM hm (by omega), Fp.split_two m (E - 1075) 32 (by omega), show (2 : Nat) ^ 32 = 4294967296 by decide, Nat.mul_mod_left]
  · intro h0 h7 h1 h2
    rw [ex]
    refine i32_neg (v := (m : Int) / 2 ^ (1075 - E)) hs (hi h7) h2 ?_
    rw [tr_lo hr hM hm (by omega) h1, Int.natCast_ediv, Int.natCast_pow]; rfl
  · intro h0 h7 h1 h2
    rw [ex]
    refine i32_pos (v := (m : Int) / 2 ^ (1075 - E)) hs (hi h7) h2 ?_
    rw [tr_lo hr hM hm (by omega) h1, Int.natCast_ediv, Int.natCast_pow]; rfl
  · intro h0 h7 h1
    refine i32_zero hs (hi h7) ?_
    rw [tr_lo hr hM hm (by omega) (by omega), Nat.div_eq_of_lt]
    have : 2 ^ 53 ≤ 2 ^ (1075 - E) := Nat.pow_le_pow_right (by omega) (by omega)
    omega
def Low (f : Nat) (w : World) (e : Ending) (w' : World) : Prop := ∃ v, e = .returned (.int .u32 v) ∧ wrap32 v = i32of f ∧ w = w'
theorem bits3 (f S E M m : Nat) (hf : f = S * 9223372036854775808 + E * 4503599627370496 + M) (hS : S < 2) (hE : E < 2048) (hM : M < 4503599627370496) (hm : m = 4503599627370496 + M) :
    bits .and .u64 ((f : Int) / 4503599627370496) 2047 = (E : Int) ∧ bits .and .u64 (f : Int) 4503599627370495 = (M : Int) ∧ bits .or .u64 (M : Int) 4503599627370496 = (m : Int) ∧ (f : Int) / 9223372036854775808 = S ∧ f < 18446744073709551616 ∧ m < 9007199254740992 := by
  refine ⟨?_, ?_, ?_, by omega, by omega, by omega⟩
  · have := u64_and_nat (f / 4503599627370496) 2047 (by omega) (by omega)
    rw [show f / 4503599627370496 &&& 2047 = E by rw [show 2047 = 2 ^ 11 - 1 by decide, Nat.and_two_pow_sub_one_eq_mod]; omega] at this
    exact this
  · have := u64_and_nat f 4503599627370495 (by omega) (by omega)
    rw [show f &&& 4503599627370495 = M by rw [show 4503599627370495 = 2 ^ 52 - 1 by decide, Nat.and_two_pow_sub_one_eq_mod]; omega] at this
    exact this
  · have := u64_or_nat M (1 * 4503599627370496) (by omega) (by omega)
    rw [Fp.or_join hM] at this
    rw [hm]; exact this
theorem ine {a b : Int} (h : a ≠ b) : (a == b) = false := by simpa using h
theorem ieq {a b : Int} (h : a = b) : (a == b) = true := by simpa using h
set_option maxRecDepth 100000 in
set_option maxHeartbeats 1000000 in
theorem low_top (f S E M m : Nat) (hf : f = S * 9223372036854775808 + E * 4503599627370496 + M) (hS : S < 2) (hE : E < 2048) (hM : M < 4503599627370496) (hm : m = 4503599627370496 + M) (h : E = 2047) (w : World) :
    Calls Try.prog 7 #[.float .f64 f] w (Low f w) := by
  have HEN := Lib.hid (ends hf hS hE hM hm)
  obtain ⟨b1, b2, b3, b4, hf', hm1⟩ := bits3 f S E M m hf hS hE hM hm
  have xb := x_bits
  have c0 := ieq (a := (E : Int)) (b := 2047) (by omega)
  have HEN2 := Lib.hid (HEN.out.1 h)
  clear hf b4 hm HEN
  go_enter Try.func7, Try.ntmps7
  go_wp2
  go_ret
  exact ⟨_, rfl, HEN2.out, rfl⟩
set_option maxRecDepth 100000 in
set_option maxHeartbeats 1000000 in
theorem low_zero (f S E M m : Nat) (hf : f = S * 9223372036854775808 + E * 4503599627370496 + M) (hS : S < 2) (hE : E < 2048) (hM : M < 4503599627370496) (hm : m = 4503599627370496 + M) (h : E = 0) (w : World) :
    Calls Try.prog 7 #[.float .f64 f] w (Low f w) := by
  have HEN := Lib.hid (ends hf hS hE hM hm)
  obtain ⟨b1, b2, b3, b4, hf', hm1⟩ := bits3 f S E M m hf hS hE hM hm
  have xb := x_bits
  have c0 := ine (a := (E : Int)) (b := 2047) (by omega)
  have c1 := ieq (a := (E : Int)) (b := 0) (by omega)
  have HEN2 := Lib.hid (HEN.out.2.1 h)
  clear hf b4 hm HEN
  go_enter Try.func7, Try.ntmps7
  go_wp2
  go_ret
  exact ⟨_, rfl, HEN2.out, rfl⟩
set_option maxRecDepth 100000 in
set_option maxHeartbeats 1000000 in
theorem low_an (f S E M m : Nat) (hf : f = S * 9223372036854775808 + E * 4503599627370496 + M) (hS : S < 2) (hE : E < 2048) (hM : M < 4503599627370496) (hm : m = 4503599627370496 + M) (h : 1075 ≤ E) (h7 : E < 1107) (h1 : S = 1) (w : World) :
    Calls Try.prog 7 #[.float .f64 f] w (Low f w) := by
  have HEN := Lib.hid (ends hf hS hE hM hm)
  obtain ⟨b1, b2, b3, b4, hf', hm1⟩ := bits3 f S E M m hf hS hE hM hm
  have xb := x_bits
  have c0 := ine (a := (E : Int)) (b := 2047) (by omega)
  have c1 := ine (a := (E : Int)) (b := 0) (by omega)
  have c2 := ieq (a := (f : Int) / 9223372036854775808) (b := 1) (by omega)
  have HEN2 := Lib.hid (HEN.out.2.2.1 (by omega) (by omega) h h1)
  clear hf b4 hm HEN
  go_enter Try.func7, Try.ntmps7
  go_wp2
  go_ret
  exact ⟨_, rfl, HEN2.out, rfl⟩
set_option maxRecDepth 100000 in
set_option maxHeartbeats 1000000 in
theorem low_bn (f S E M m : Nat) (hf : f = S * 9223372036854775808 + E * 4503599627370496 + M) (hS : S < 2) (hE : E < 2048) (hM : M < 4503599627370496) (hm : m = 4503599627370496 + M) (h : 1107 ≤ E) (h7 : E < 2047) (h1 : S = 1) (w : World) :
    Calls Try.prog 7 #[.float .f64 f] w (Low f w) := by
  have HEN := Lib.hid (ends hf hS hE hM hm)
  obtain ⟨b1, b2, b3, b4, hf', hm1⟩ := bits3 f S E M m hf hS hE hM hm
  have xb := x_bits
  have c0 := ine (a := (E : Int)) (b := 2047) (by omega)
  have c1 := ine (a := (E : Int)) (b := 0) (by omega)
  have c2 := ieq (a := (f : Int) / 9223372036854775808) (b := 1) (by omega)
  have HEN2 := Lib.hid (HEN.out.2.2.2.2.1 (by omega) (by omega) h)
  clear hf b4 hm HEN
  go_enter Try.func7, Try.ntmps7
  go_wp2
  go_ret
  exact ⟨_, rfl, HEN2.out, rfl⟩
set_option maxRecDepth 100000 in
set_option maxHeartbeats 1000000 in
theorem low_cn (f S E M m : Nat) (hf : f = S * 9223372036854775808 + E * 4503599627370496 + M) (hS : S < 2) (hE : E < 2048) (hM : M < 4503599627370496) (hm : m = 4503599627370496 + M) (h : E < 1075) (h7 : 1011 < E) (h1 : S = 1) (w : World) :
    Calls Try.prog 7 #[.float .f64 f] w (Low f w) := by
  have HEN := Lib.hid (ends hf hS hE hM hm)
  obtain ⟨b1, b2, b3, b4, hf', hm1⟩ := bits3 f S E M m hf hS hE hM hm
  have xb := x_bits
  have c0 := ine (a := (E : Int)) (b := 2047) (by omega)
  have c1 := ine (a := (E : Int)) (b := 0) (by omega)
  have c2 := ieq (a := (f : Int) / 9223372036854775808) (b := 1) (by omega)
  have HEN2 := Lib.hid (HEN.out.2.2.2.2.2.1 (by omega) (by omega) h h1)
  clear hf b4 hm HEN
  go_enter Try.func7, Try.ntmps7
  go_wp2
  go_ret
  exact ⟨_, rfl, HEN2.out, rfl⟩
set_option maxRecDepth 100000 in
set_option maxHeartbeats 1000000 in
theorem low_dn (f S E M m : Nat) (hf : f = S * 9223372036854775808 + E * 4503599627370496 + M) (hS : S < 2) (hE : E < 2048) (hM : M < 4503599627370496) (hm : m = 4503599627370496 + M) (h : E ≤ 1011) (h7 : 0 < E) (h1 : S = 1) (w : World) :
    Calls Try.prog 7 #[.float .f64 f] w (Low f w) := by
  have HEN := Lib.hid (ends hf hS hE hM hm)
  obtain ⟨b1, b2, b3, b4, hf', hm1⟩ := bits3 f S E M m hf hS hE hM hm
  have xb := x_bits
  have c0 := ine (a := (E : Int)) (b := 2047) (by omega)
  have c1 := ine (a := (E : Int)) (b := 0) (by omega)
  have c2 := ieq (a := (f : Int) / 9223372036854775808) (b := 1) (by omega)
  have HEN2 := Lib.hid (HEN.out.2.2.2.2.2.2.2 (by omega) (by omega) h)
  clear hf b4 hm HEN
  go_enter Try.func7, Try.ntmps7
  go_wp2
  go_ret
  exact ⟨_, rfl, HEN2.out, rfl⟩
set_option maxRecDepth 100000 in
set_option maxHeartbeats 1000000 in
theorem low_ap (f S E M m : Nat) (hf : f = S * 9223372036854775808 + E * 4503599627370496 + M) (hS : S < 2) (hE : E < 2048) (hM : M < 4503599627370496) (hm : m = 4503599627370496 + M) (h : 1075 ≤ E) (h7 : E < 1107) (h1 : ¬ S = 1) (w : World) :
    Calls Try.prog 7 #[.float .f64 f] w (Low f w) := by
  have HEN := Lib.hid (ends hf hS hE hM hm)
  obtain ⟨b1, b2, b3, b4, hf', hm1⟩ := bits3 f S E M m hf hS hE hM hm
  have xb := x_bits
  have c0 := ine (a := (E : Int)) (b := 2047) (by omega)
  have c1 := ine (a := (E : Int)) (b := 0) (by omega)
  have c2 := ine (a := (f : Int) / 9223372036854775808) (b := 1) (by omega)
  have HEN2 := Lib.hid (HEN.out.2.2.2.1 (by omega) (by omega) h h1)
  clear hf b4 hm HEN
  go_enter Try.func7, Try.ntmps7
  go_wp2
  go_ret
  exact ⟨_, rfl, HEN2.out, rfl⟩
set_option maxRecDepth 100000 in
set_option maxHeartbeats 1000000 in
theorem low_bp (f S E M m : Nat) (hf : f = S * 9223372036854775808 + E * 4503599627370496 + M) (hS : S < 2) (hE : E < 2048) (hM : M < 4503599627370496) (hm : m = 4503599627370496 + M) (h : 1107 ≤ E) (h7 : E < 2047) (h1 : ¬ S = 1) (w : World) :
    Calls Try.prog 7 #[.float .f64 f] w (Low f w) := by
  have HEN := Lib.hid (ends hf hS hE hM hm)
  obtain ⟨b1, b2, b3, b4, hf', hm1⟩ := bits3 f S E M m hf hS hE hM hm
  have xb := x_bits
  have c0 := ine (a := (E : Int)) (b := 2047) (by omega)
  have c1 := ine (a := (E : Int)) (b := 0) (by omega)
  have c2 := ine (a := (f : Int) / 9223372036854775808) (b := 1) (by omega)
  have HEN2 := Lib.hid (HEN.out.2.2.2.2.1 (by omega) (by omega) h)
  clear hf b4 hm HEN
  go_enter Try.func7, Try.ntmps7
  go_wp2
  go_ret
  exact ⟨_, rfl, HEN2.out, rfl⟩
set_option maxRecDepth 100000 in
set_option maxHeartbeats 1000000 in
theorem low_cp (f S E M m : Nat) (hf : f = S * 9223372036854775808 + E * 4503599627370496 + M) (hS : S < 2) (hE : E < 2048) (hM : M < 4503599627370496) (hm : m = 4503599627370496 + M) (h : E < 1075) (h7 : 1011 < E) (h1 : ¬ S = 1) (w : World) :
    Calls Try.prog 7 #[.float .f64 f] w (Low f w) := by
  have HEN := Lib.hid (ends hf hS hE hM hm)
  obtain ⟨b1, b2, b3, b4, hf', hm1⟩ := bits3 f S E M m hf hS hE hM hm
  have xb := x_bits
  have c0 := ine (a := (E : Int)) (b := 2047) (by omega)
  have c1 := ine (a := (E : Int)) (b := 0) (by omega)
  have c2 := ine (a := (f : Int) / 9223372036854775808) (b := 1) (by omega)
  have HEN2 := Lib.hid (HEN.out.2.2.2.2.2.2.1 (by omega) (by omega) h h1)
  clear hf b4 hm HEN
  go_enter Try.func7, Try.ntmps7
  go_wp2
  go_ret
  exact ⟨_, rfl, HEN2.out, rfl⟩
set_option maxRecDepth 100000 in
set_option maxHeartbeats 1000000 in
theorem low_dp (f S E M m : Nat) (hf : f = S * 9223372036854775808 + E * 4503599627370496 + M) (hS : S < 2) (hE : E < 2048) (hM : M < 4503599627370496) (hm : m = 4503599627370496 + M) (h : E ≤ 1011) (h7 : 0 < E) (h1 : ¬ S = 1) (w : World) :
    Calls Try.prog 7 #[.float .f64 f] w (Low f w) := by
  have HEN := Lib.hid (ends hf hS hE hM hm)
  obtain ⟨b1, b2, b3, b4, hf', hm1⟩ := bits3 f S E M m hf hS hE hM hm
  have xb := x_bits
  have c0 := ine (a := (E : Int)) (b := 2047) (by omega)
  have c1 := ine (a := (E : Int)) (b := 0) (by omega)
  have c2 := ine (a := (f : Int) / 9223372036854775808) (b := 1) (by omega)
  have HEN2 := Lib.hid (HEN.out.2.2.2.2.2.2.2 (by omega) (by omega) h)
  clear hf b4 hm HEN
  go_enter Try.func7, Try.ntmps7
  go_wp2
  go_ret
  exact ⟨_, rfl, HEN2.out, rfl⟩
theorem low32 (f S E M : Nat) (hf : f = S * 9223372036854775808 + E * 4503599627370496 + M) (hS : S < 2) (hE : E < 2048) (hM : M < 4503599627370496) (w : World) :
    Calls Try.prog 7 #[.float .f64 f] w (Low f w) := by
  by_cases h0 : E = 2047
  · exact low_top f S E M _ hf hS hE hM rfl h0 w
  by_cases h2 : E = 0
  · exact low_zero f S E M _ hf hS hE hM rfl h2 w
  by_cases h1 : S = 1
  · by_cases h3 : E ≤ 1011
    · exact low_dn f S E M _ hf hS hE hM rfl h3 (by omega) h1 w
    by_cases h4 : E < 1075
    · exact low_cn f S E M _ hf hS hE hM rfl h4 (by omega) h1 w
    by_cases h5 : E < 1107
    · exact low_an f S E M _ hf hS hE hM rfl (by omega) h5 h1 w
    · exact low_bn f S E M _ hf hS hE hM rfl (by omega) (by omega) h1 w
  · by_cases h3 : E ≤ 1011
    · exact low_dp f S E M _ hf hS hE hM rfl h3 (by omega) h1 w
    by_cases h4 : E < 1075
    · exact low_cp f S E M _ hf hS hE hM rfl h4 (by omega) h1 w
    by_cases h5 : E < 1107
    · exact low_ap f S E M _ hf hS hE hM rfl (by omega) h5 h1 w
    · exact low_bp f S E M _ hf hS hE hM rfl (by omega) (by omega) h1 w
theorem split3 (f : Nat) (h : f < 18446744073709551616) : ∃ S E M, f = S * 9223372036854775808 + E * 4503599627370496 + M ∧ S < 2 ∧ E < 2048 ∧ M < 4503599627370496 :=
  ⟨f / 9223372036854775808, f % 9223372036854775808 / 4503599627370496, f % 4503599627370496, by omega, by omega, by omega, by omega⟩
theorem walk (a0 : Nat) (w : World) (w0 : (Lit.float .f64 a0).wf = true) :
    Calls Try.prog 3 #[.float .f64 a0] w fun e w' => e = .returned (.bool true) ∧ Below w.heap.size w w' := by
  have hf := f64_range w0
  obtain ⟨S, E, M, h1, h2, h3, h4⟩ := split3 a0 hf
  have HL := Lib.hid (fun W => low32 a0 S E M h1 h2 h3 h4 W)
  have HT := Lib.hid (toInt32 a0 hf w)
  clear h1 h2 h3 h4
  go_enter Try.func3, Try.ntmps3
  go_wp2_with (first
    | (go_at_call 6; (with_reducible refine HT.out.mono ?_); rintro _ wa ⟨rfl, hb⟩)
    | (go_at_call 7; (with_reducible refine (HL.out _).mono ?_); rintro _ _ ⟨v, rfl, hv, rfl⟩))
  go_ret
  exact ⟨rfl, hb⟩
end Go.Proofs.Ytpgdjonbeiaghaa.fnToInt32MatchesBitModel
