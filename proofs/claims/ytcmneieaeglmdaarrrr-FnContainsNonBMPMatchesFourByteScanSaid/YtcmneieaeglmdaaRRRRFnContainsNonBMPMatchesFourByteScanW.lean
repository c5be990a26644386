/-
  The law FnContainsNonBMPMatchesFourByteScan's walk. No condition.
-/
import Derived.Test.YtcmneieaeglmdaaRRRRScan
namespace Go.Proofs.YtcmneieaeglmdaaRRRR.fnContainsNonBMPMatchesFourByteScan
open Go.ChangeShapes Go.WideShapes Go.ChangeAt Go.RowKit
set_option linter.unusedVariables false

theorem bits192 (b : Nat) (h : b < 256) : bits .and .u8 (b : Int) 192 = ((b / 64 * 64 : Nat) : Int) := by
  have := u8_and_nat b 192 h (by omega)
  have e : b &&& 192 = b / 64 * 64 := by
    have a1 : (b &&& 192) % 2 ^ 6 = 0 := by rw [Nat.and_mod_two_pow, show 192 % 2 ^ 6 = 0 by decide, Nat.and_zero]
    have a2 : (b &&& 192) / 2 ^ 6 = b / 64 := by
      rw [Nat.and_div_two_pow, show 192 / 2 ^ 6 = 2 ^ 2 - 1 by decide, Nat.and_two_pow_sub_one_eq_mod]; omega
    omega
  rwa [e] at this
def fourN (a b c d : Nat) : Bool :=
  ((decide (a = 240) && decide (144 ≤ b) && decide (b ≤ 191)) || (decide (241 ≤ a) && decide (a ≤ 243) && decide (128 ≤ b) && decide (b ≤ 191)) ||
    (decide (a = 244) && decide (128 ≤ b) && decide (b ≤ 143))) && decide (c / 64 = 2) && decide (d / 64 = 2)
theorem four_in {s : ByteArray} {i : Nat} (h : i + 3 < s.size) : four s i = fourN (B s i) (B s (i + 1)) (B s (i + 2)) (B s (i + 3)) := by
  unfold four fourN
  rw [decide_eq_true h, Bool.true_and]
theorem four_out {s : ByteArray} {i : Nat} (h : ¬ i + 3 < s.size) : four s i = false := by
  unfold four
  rw [decide_eq_false h]; simp
set_option maxRecDepth 100000 in
set_option maxHeartbeats 2000000 in
theorem four5 (s : ByteArray) (i : Nat) (hs : s.size ≤ 4194304) (hi : i < s.size) (w : World) :
    Calls Try.prog 5 #[.string s, .int .i64 i] w fun e w' => e = .returned (.bool (four s i)) ∧ w = w' := by
  by_cases h3 : i + 3 < s.size
  · rw [four_in h3]
    have e0 := B_at s i (by omega)
    have e1 := B_at s (i + 1) (by omega)
    have e2 := B_at s (i + 2) (by omega)
    have e3 := B_at s (i + 3) (by omega)
    have h0 := B_lt s i
    have h1 := B_lt s (i + 1)
    have h2 := B_lt s (i + 2)
    have h4 := B_lt s (i + 3)
    generalize B s i = a at *
    generalize B s (i + 1) = b at *
    generalize B s (i + 2) = c at *
    generalize B s (i + 3) = d at *
    have b2 := bits192 c h2
    have b3 := bits192 d h4
    go_enter Try.func5, Try.ntmps5
    go_wp2
    all_goals go_ret
    all_goals
      refine ⟨?_, rfl⟩
      show Ending.returned (.bool _) = _
      congr 2
      simp only [beq_iff_eq, beq_eq_false_iff_ne, ne_eq] at *
      rw [Bool.eq_iff_iff]
      simp only [fourN, Bool.and_eq_true, Bool.or_eq_true, decide_eq_true_eq, beq_iff_eq, Bool.false_eq_true, false_iff]
      omega
  · rw [four_out h3]
    go_enter Try.func5, Try.ntmps5
    go_wp2
    go_ret
    exact ⟨rfl, rfl⟩
theorem fourV (s : ByteArray) (i : Nat) (v : Bool) (hv : four s i = v) (hs : s.size ≤ 4194304) (hi : i < s.size) (w : World) :
    Calls Try.prog 5 #[.string s, .int .i64 i] w fun e w' => e = .returned (.bool v) ∧ w = w' := by rw [← hv]; exact four5 s i hs hi w
theorem bmpV (s : ByteArray) (v : Bool) (hv : big s s.size 0 = v) (hs : s.size ≤ 4194304) (w : World) :
    Calls Try.prog 6 #[.string s] w fun e w' => e = .returned (.bool v) ∧ Below w.heap.size w w' := by rw [← hv]; exact nonBMP s hs w
theorem bytes4 (a : ByteArray) (w : World) (ha : a.size ≤ maxLen) :
    Calls Try.prog 4 #[.string a] w fun e w' => ((e = .returned (.bool false)) ∨ (e = .returned (.bool true) ∧ a.size ≤ 1048576)) ∧ w = w' := by
  unfold maxLen at ha
  by_cases h1 : a.size ≤ 1048576
  · go_enter Try.func4, Try.ntmps4
    go_wp2
    go_ret
    exact ⟨.inr ⟨rfl, h1⟩, rfl⟩
  · go_enter Try.func4, Try.ntmps4
    go_wp2
    go_ret
    exact ⟨.inl rfl, rfl⟩
set_option maxRecDepth 100000 in
set_option maxHeartbeats 1000000 in
theorem walk (a0 : ByteArray) (w : World) (w0 : a0.size ≤ maxLen) :
    Calls Try.prog 3 #[.string a0] w fun e w' => e = .returned (.bool true) ∧ Below w.heap.size w w' := by
  have HB := Lib.hid (bytes4 a0 w w0)
  unfold maxLen at w0
  go_enter Try.func3, Try.ntmps3
  go_wp2_with (first
    | (go_at_call 4; (with_reducible refine HB.out.mono ?_); rintro _ _ ⟨rfl | ⟨rfl, hs0⟩, rfl⟩))
  · go_ret
    exact ⟨rfl, Below.refl _ _⟩
  · go_loopw [3, 4] (fun v i wr => w = wr ∧ ∃ k : Nat, k ≤ a0.size ∧ v = .bool false ∧ i = .int .i64 k ∧ ∀ j, j < k → four a0 j = false) (fun _ i _ => a0.size - (intOf i).toNat)
    case atStart => exact ⟨by trivial, 0, Nat.zero_le _, rfl, rfl, fun j hj => absurd hj (by omega)⟩
    case round =>
      obtain ⟨rfl, k, hk, rfl, rfl, hno⟩ := hrel
      have HNO := Lib.hid hno
      clear hno
      by_cases hlt : k < a0.size
      · cases hf : four a0 k
        · have H5 := Lib.hid (fourV a0 k false hf (by omega) hlt w)
          have HN2 : Hid (∀ j, j < k + 1 → four a0 j = false) := fun j hj => by
            by_cases e : j = k
            · rw [e]; exact hf
            · exact HNO.out j (by omega)
          clear hf HNO
          go_wp2_with (go_at_call 5; (with_reducible refine H5.out.mono ?_); rintro _ _ ⟨rfl, rfl⟩)
          exact ⟨⟨by trivial, k + 1, by omega, rfl, by go_num, HN2.out⟩, by simp [intOf]; omega⟩
        · have H5 := Lib.hid (fourV a0 k true hf (by omega) hlt w)
          have H6 := Lib.hid (bmpV a0 true (big_of a0 a0.size 0 k (by omega) (by omega) hlt hf) (by omega) w)
          clear hf HNO
          go_wp2_with (first
            | (go_at_call 5; (with_reducible refine H5.out.mono ?_); rintro _ _ ⟨rfl, rfl⟩)
            | (go_at_call 6; (with_reducible refine H6.out.mono ?_); rintro _ wa ⟨rfl, hb⟩))
          go_ret
          exact ⟨rfl, hb⟩
      · have : k = a0.size := by omega
        subst this
        have hbig : big a0 a0.size 0 = false := by
          cases hb : big a0 a0.size 0
          · rfl
          · obtain ⟨i, hi, hf⟩ := of_big a0 _ _ hb
            rw [HNO.out i hi] at hf
            cases hf
        have H6 := Lib.hid (bmpV a0 false hbig (by omega) w)
        clear hbig HNO
        go_wp2_with (go_at_call 6; (with_reducible refine H6.out.mono ?_); rintro _ wa ⟨rfl, hb⟩)
        go_ret
        exact ⟨rfl, hb⟩
end Go.Proofs.YtcmneieaeglmdaaRRRR.fnContainsNonBMPMatchesFourByteScan
