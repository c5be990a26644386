/-
  The law FnDecodeWTF8RuneMatchesPrefixModel's walk. No condition.
-/
import Derived.Test.YtihcflebpgefbaaModel
namespace Go.Proofs.Ytihcflebpgefbaa.fnDecodeWTF8RuneMatchesPrefixModel
open Go.ChangeShapes Go.WideShapes Go.ChangeAt Go.RowKit
set_option linter.unusedVariables false

set_option maxRecDepth 100000 in
set_option maxHeartbeats 4000000 in
theorem model6 (s : ByteArray) (hs : s.size ≤ 4194304) (w : World) :
    Calls Try.prog 6 #[.string s] w (GivesB (dcod s.size (B s 0) (B s 1) (B s 2) (B s 3)) w) := by
  by_cases h0 : s.size = 0
  · have : dcod s.size (B s 0) (B s 1) (B s 2) (B s 3) = (65533, 0) := by unfold dcod; rw [if_pos h0]
    rw [this]
    go_enter Try.func6, Try.ntmps6
    go_wp2
    go_ret2
    exact ⟨rfl, Below.refl _ _⟩
  have hz : ((s.size : Int) == 0) = false := by rw [beq_eq_false_iff_ne]; omega
  have e0 := B_at s 0 (by omega)
  have l0 := B_lt s 0
  have lb := B_lt s 1
  have lc := B_lt s 2
  have ld := B_lt s 3
  generalize B s 0 = a at *
  by_cases ha : a < 128
  · have : dcod s.size a (B s 1) (B s 2) (B s 3) = (a, 1) := by unfold dcod; rw [if_neg h0, if_pos ha]
    rw [this]
    go_enter Try.func6, Try.ntmps6
    go_wp2
    go_ret2
    exact ⟨rfl, Below.refl _ _⟩
  by_cases hc2 : 192 ≤ a ∧ a < 224
  · by_cases hn : s.size < 2
    · have : dcod s.size a (B s 1) (B s 2) (B s 3) = (65533, 0) := by unfold dcod; rw [if_neg h0, if_neg ha, if_pos hc2, if_pos hn]
      rw [this]
      obtain ⟨ha1, ha2⟩ := hc2
      go_enter Try.func6, Try.ntmps6
      go_wp2
      go_ret2
      exact ⟨rfl, Below.refl _ _⟩
    · have := mod2 s a (B s 1) _ rfl hs (by omega) e0 (B_at s 1 (by omega)) hc2.1 hc2.2 lb w
      unfold dcod
      rw [if_neg h0, if_neg ha, if_pos hc2, if_neg hn]
      exact this
  by_cases hc3 : 224 ≤ a ∧ a < 240
  · by_cases hn : s.size < 3
    · have : dcod s.size a (B s 1) (B s 2) (B s 3) = (65533, 0) := by unfold dcod; rw [if_neg h0, if_neg ha, if_neg hc2, if_pos hc3, if_pos hn]
      rw [this]
      obtain ⟨ha1, ha2⟩ := hc3
      go_enter Try.func6, Try.ntmps6
      go_wp2
      go_ret2
      exact ⟨rfl, Below.refl _ _⟩
    · have := mod3 s a (B s 1) (B s 2) _ rfl hs (by omega) e0 (B_at s 1 (by omega)) (B_at s 2 (by omega)) hc3.1 hc3.2 lb lc w
      unfold dcod
      rw [if_neg h0, if_neg ha, if_neg hc2, if_pos hc3, if_neg hn]
      exact this
  by_cases hc4 : 240 ≤ a ∧ a < 248
  · by_cases hn : s.size < 4
    · have : dcod s.size a (B s 1) (B s 2) (B s 3) = (65533, 0) := by unfold dcod; rw [if_neg h0, if_neg ha, if_neg hc2, if_neg hc3, if_pos hc4, if_pos hn]
      rw [this]
      obtain ⟨ha1, ha2⟩ := hc4
      go_enter Try.func6, Try.ntmps6
      go_wp2
      go_ret2
      exact ⟨rfl, Below.refl _ _⟩
    · have := mod4 s a (B s 1) (B s 2) (B s 3) _ rfl hs (by omega) e0 (B_at s 1 (by omega)) (B_at s 2 (by omega)) (B_at s 3 (by omega)) hc4.1 hc4.2 lb lc ld w
      unfold dcod
      rw [if_neg h0, if_neg ha, if_neg hc2, if_neg hc3, if_pos hc4, if_neg hn]
      exact this
  have hd : dcod s.size a (B s 1) (B s 2) (B s 3) = (65533, 1) := by
    unfold dcod
    rw [if_neg h0, if_neg ha, if_neg hc2, if_neg hc3, if_neg hc4]
  rw [hd]
  clear hd
  by_cases hx : a < 192
  · clear hc2 hc3 hc4
    go_enter Try.func6, Try.ntmps6
    go_wp2
    go_ret2
    exact ⟨rfl, Below.refl _ _⟩
  · have hx2 : 248 ≤ a := by omega
    clear hc2 hc3 hc4
    go_enter Try.func6, Try.ntmps6
    go_wp2
    go_ret2
    exact ⟨rfl, Below.refl _ _⟩
theorem bytes4 (a : ByteArray) (w : World) (ha : a.size ≤ maxLen) :
    Calls Try.prog 4 #[.string a] w fun e w' => ((e = .returned (.bool false)) ∨ (e = .returned (.bool true) ∧ a.size ≤ 1048576)) ∧ w = w' := by
  unfold maxLen at ha
  by_cases h1 : a.size ≤ 1048576
  · go_enter Try.func4, Try.ntmps4
    go_wp2
    go_ret
    exact ⟨.inr ⟨rfl, h1⟩, rfl⟩
  · go_enter Try.func4, Try.ntmps4
    go_wp2
    go_ret
    exact ⟨.inl rfl, rfl⟩
set_option maxHeartbeats 1000000 in
theorem walk (a0 : ByteArray) (w : World) (w0 : a0.size ≤ maxLen) :
    Calls Try.prog 3 #[.string a0] w fun e w' => e = .returned (.bool true) ∧ Below w.heap.size w w' := by
  have HB := Lib.hid (bytes4 a0 w w0)
  unfold maxLen at w0
  go_enter Try.func3, Try.ntmps3
  go_wp2_with (first
    | (go_at_call 4; (with_reducible refine HB.out.mono ?_); rintro _ _ ⟨rfl | ⟨rfl, hs0⟩, rfl⟩)
    | (go_at_call 5; (with_reducible refine (dec5 a0 (by omega) w).mono ?_); rintro _ _ ⟨rfl, rfl⟩)
    | (go_at_call 6; (with_reducible refine (model6 a0 (by omega) w).mono ?_); rintro _ wa ⟨rfl, hb⟩))
  · go_ret
    exact ⟨rfl, Below.refl _ _⟩
  · go_ret
    exact ⟨rfl, hb⟩
end Go.Proofs.Ytihcflebpgefbaa.fnDecodeWTF8RuneMatchesPrefixModel
