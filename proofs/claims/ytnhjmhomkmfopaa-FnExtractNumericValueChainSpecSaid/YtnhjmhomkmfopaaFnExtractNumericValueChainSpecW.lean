/-
  What the law FnExtractNumericValueChainSpec does, for every input. No condition.
-/
import Derived.Test.YtnhjmhomkmfopaaSmall
import Derived.WideLaws
import Derived.WalkSmall
import Derived.Deep.QuietTactic
import Derived.BigQuiet
namespace Go.Proofs.Ytnhjmhomkmfopaa.fnExtractNumericValueChainSpec
open Go.ChangeShapes Go.WideShapes Go.ChangeAt Go.RowKit
set_option linter.unusedVariables false

set_option maxRecDepth 100000 in
set_option maxHeartbeats 2000000 in
theorem mainA (a0 : Option Addr) (len0 cap0 : Nat) (z0 : List Int) (a1 : Int) (a2 : Nat) (a3 : Option Addr) (len3 cap3 : Nat) (z3 : List Int) (w : World) (w0 : IsInts .u8 w a0 len0 cap0 z0) (h1 : 0 ≤ a1) (w3 : IsInts .u16 w a3 len3 cap3 z3)
    (hs : len0 + len3 ≤ 1048576) (hl0 : len0 ≤ 65536) (hl3 : len3 ≤ 65536) (hs2 : len0 + 2 * len3 ≤ 1048576) (ht : tr z0 = true) (hk : (a1 % 6 == 0) = true) (eR : chR z0 a1 a2 = a2) (eOk : chOk z0 a1 = true) :
    Calls Try.prog 3 #[.slice a0 len0 cap0, .int .u8 a1, .float .f64 a2, .slice a3 len3 cap3] w fun e w' => e = .returned (.bool true) ∧ Below w.heap.size w w' := by
  have W0 := Lib.hid w0
  have W3 := Lib.hid w3
  clear w0 w3
  go_enter Try.func3, Try.ntmps3
  go_wp2_with (go_at_call 7; refine (bytes7_yes _ _ _ _ _ _ _ _ _ hs).mono ?_; rintro e w' ⟨rfl, rfl⟩)
  refine (cl8 a0 len0 cap0 z0 _ W0.out (by omega)).mono ?_
  rintro e w1 ⟨b0, c0, rfl, hA, _, hb1⟩
  have HA1 := Lib.hid hA
  have z1' := hb1.size
  clear hA
  go_wp2_with fail
  refine (cl9 a3 len3 cap3 z3 _ ⟨W3.out.1.below hb1, W3.out.2⟩ (by omega)).mono ?_
  rintro e w2 ⟨b3, c3, rfl, _, _, hb2⟩
  have HA : Hid (IsInts .u8 w2 b0 len0 c0 z0) := ⟨HA1.out.1.below hb2, HA1.out.2⟩
  have hbel := hb1.trans (hb2.mono z1')
  have z2 := hbel.size
  clear HA1 W0 W3 hb1 hb2 z1'
  go_wp2_with fail
  refine (chain b0 len0 c0 z0 _ _ _ _ _ _ HA.out (by omega) h1).mono ?_
  rintro e w3 ⟨x, lo, B, rfl, hx, hext, hb3⟩
  have HE := Lib.hid hext
  have HA3 : Hid (IsInts .u8 w3 b0 len0 c0 z0) := ⟨HA.out.1.below hb3, HA.out.2⟩
  have hbel3 := hbel.trans (hb3.mono z2)
  have z3 := hbel3.size
  clear hext HA hbel hb3
  rcases hx with rfl | ⟨T, y, rfl⟩
  all_goals
    go_wp2_with (first | (go_at_call 11; go_in) | (go_at_call 23; refine (HE.out _ (.of_below (by go_grown))).mono ?_; rintro e w4 ⟨rfl, hb4⟩))
    have k4 := below_step hb4 (B := w3.heap.size) (w0 := w3) (by go_grown) (by go_size)
    have k5 := below_step hb4 (B := w.heap.size) (w0 := w) (by go_grown) (by go_size)
    refine (transp _ _ _ z0 _ ⟨HA3.out.1.below k4.1, HA3.out.2⟩ (by omega)).mono ?_
    rintro e w5 ⟨rfl, rfl⟩
    go_wp2_with (first | (go_at_call 13; (with_reducible refine (same13 _ _).mono ?_); rintro e w' ⟨rfl, rfl⟩) | (go_at_call 14; (with_reducible refine (pos14 _).mono ?_); rintro e w' ⟨rfl, rfl⟩))
    go_ret
    exact ⟨rfl, k5.1⟩
set_option maxRecDepth 100000 in
set_option maxHeartbeats 2000000 in
theorem mainB (a0 : Option Addr) (len0 cap0 : Nat) (z0 : List Int) (a1 : Int) (a2 : Nat) (a3 : Option Addr) (len3 cap3 : Nat) (z3 : List Int) (w : World) (w0 : IsInts .u8 w a0 len0 cap0 z0) (h1 : 0 ≤ a1) (w3 : IsInts .u16 w a3 len3 cap3 z3)
    (hs : len0 + len3 ≤ 1048576) (hl0 : len0 ≤ 65536) (hl3 : len3 ≤ 65536) (hs2 : len0 + 2 * len3 ≤ 1048576) (ht : tr z0 = true) (hk : (a1 % 6 == 0) = false) (eR : chR z0 a1 a2 = 0) (eOk : chOk z0 a1 = false) :
    Calls Try.prog 3 #[.slice a0 len0 cap0, .int .u8 a1, .float .f64 a2, .slice a3 len3 cap3] w fun e w' => e = .returned (.bool true) ∧ Below w.heap.size w w' := by
  have W0 := Lib.hid w0
  have W3 := Lib.hid w3
  clear w0 w3
  go_enter Try.func3, Try.ntmps3
  go_wp2_with (go_at_call 7; refine (bytes7_yes _ _ _ _ _ _ _ _ _ hs).mono ?_; rintro e w' ⟨rfl, rfl⟩)
  refine (cl8 a0 len0 cap0 z0 _ W0.out (by omega)).mono ?_
  rintro e w1 ⟨b0, c0, rfl, hA, _, hb1⟩
  have HA1 := Lib.hid hA
  have z1' := hb1.size
  clear hA
  go_wp2_with fail
  refine (cl9 a3 len3 cap3 z3 _ ⟨W3.out.1.below hb1, W3.out.2⟩ (by omega)).mono ?_
  rintro e w2 ⟨b3, c3, rfl, _, _, hb2⟩
  have HA : Hid (IsInts .u8 w2 b0 len0 c0 z0) := ⟨HA1.out.1.below hb2, HA1.out.2⟩
  have hbel := hb1.trans (hb2.mono z1')
  have z2 := hbel.size
  clear HA1 W0 W3 hb1 hb2 z1'
  go_wp2_with fail
  refine (chain b0 len0 c0 z0 _ _ _ _ _ _ HA.out (by omega) h1).mono ?_
  rintro e w3 ⟨x, lo, B, rfl, hx, hext, hb3⟩
  have HE := Lib.hid hext
  have HA3 : Hid (IsInts .u8 w3 b0 len0 c0 z0) := ⟨HA.out.1.below hb3, HA.out.2⟩
  have hbel3 := hbel.trans (hb3.mono z2)
  have z3 := hbel3.size
  clear hext HA hbel hb3
  rcases hx with rfl | ⟨T, y, rfl⟩
  all_goals
    go_wp2_with (first | (go_at_call 11; go_in) | (go_at_call 23; refine (HE.out _ (.of_below (by go_grown))).mono ?_; rintro e w4 ⟨rfl, hb4⟩))
    have k4 := below_step hb4 (B := w3.heap.size) (w0 := w3) (by go_grown) (by go_size)
    have k5 := below_step hb4 (B := w.heap.size) (w0 := w) (by go_grown) (by go_size)
    refine (transp _ _ _ z0 _ ⟨HA3.out.1.below k4.1, HA3.out.2⟩ (by omega)).mono ?_
    rintro e w5 ⟨rfl, rfl⟩
    go_wp2_with (first | (go_at_call 13; (with_reducible refine (same13 _ _).mono ?_); rintro e w' ⟨rfl, rfl⟩) | (go_at_call 14; (with_reducible refine (pos14 _).mono ?_); rintro e w' ⟨rfl, rfl⟩))
    go_ret
    exact ⟨rfl, k5.1⟩
set_option maxRecDepth 100000 in
set_option maxHeartbeats 2000000 in
theorem mainC (a0 : Option Addr) (len0 cap0 : Nat) (z0 : List Int) (a1 : Int) (a2 : Nat) (a3 : Option Addr) (len3 cap3 : Nat) (z3 : List Int) (w : World) (w0 : IsInts .u8 w a0 len0 cap0 z0) (h1 : 0 ≤ a1) (w3 : IsInts .u16 w a3 len3 cap3 z3)
    (hs : len0 + len3 ≤ 1048576) (hl0 : len0 ≤ 65536) (hl3 : len3 ≤ 65536) (hs2 : len0 + 2 * len3 ≤ 1048576) (ht : tr z0 = false) (hk : True) (eR : chR z0 a1 a2 = 0) (eOk : chOk z0 a1 = false) :
    Calls Try.prog 3 #[.slice a0 len0 cap0, .int .u8 a1, .float .f64 a2, .slice a3 len3 cap3] w fun e w' => e = .returned (.bool true) ∧ Below w.heap.size w w' := by
  have W0 := Lib.hid w0
  have W3 := Lib.hid w3
  clear w0 w3
  go_enter Try.func3, Try.ntmps3
  go_wp2_with (go_at_call 7; refine (bytes7_yes _ _ _ _ _ _ _ _ _ hs).mono ?_; rintro e w' ⟨rfl, rfl⟩)
  refine (cl8 a0 len0 cap0 z0 _ W0.out (by omega)).mono ?_
  rintro e w1 ⟨b0, c0, rfl, hA, _, hb1⟩
  have HA1 := Lib.hid hA
  have z1' := hb1.size
  clear hA
  go_wp2_with fail
  refine (cl9 a3 len3 cap3 z3 _ ⟨W3.out.1.below hb1, W3.out.2⟩ (by omega)).mono ?_
  rintro e w2 ⟨b3, c3, rfl, _, _, hb2⟩
  have HA : Hid (IsInts .u8 w2 b0 len0 c0 z0) := ⟨HA1.out.1.below hb2, HA1.out.2⟩
  have hbel := hb1.trans (hb2.mono z1')
  have z2 := hbel.size
  clear HA1 W0 W3 hb1 hb2 z1'
  go_wp2_with fail
  refine (chain b0 len0 c0 z0 _ _ _ _ _ _ HA.out (by omega) h1).mono ?_
  rintro e w3 ⟨x, lo, B, rfl, hx, hext, hb3⟩
  have HE := Lib.hid hext
  have HA3 : Hid (IsInts .u8 w3 b0 len0 c0 z0) := ⟨HA.out.1.below hb3, HA.out.2⟩
  have hbel3 := hbel.trans (hb3.mono z2)
  have z3 := hbel3.size
  clear hext HA hbel hb3
  rcases hx with rfl | ⟨T, y, rfl⟩
  all_goals
    go_wp2_with (first | (go_at_call 11; go_in) | (go_at_call 23; refine (HE.out _ (.of_below (by go_grown))).mono ?_; rintro e w4 ⟨rfl, hb4⟩))
    have k4 := below_step hb4 (B := w3.heap.size) (w0 := w3) (by go_grown) (by go_size)
    have k5 := below_step hb4 (B := w.heap.size) (w0 := w) (by go_grown) (by go_size)
    refine (transp _ _ _ z0 _ ⟨HA3.out.1.below k4.1, HA3.out.2⟩ (by omega)).mono ?_
    rintro e w5 ⟨rfl, rfl⟩
    go_wp2_with (first | (go_at_call 13; (with_reducible refine (same13 _ _).mono ?_); rintro e w' ⟨rfl, rfl⟩) | (go_at_call 14; (with_reducible refine (pos14 _).mono ?_); rintro e w' ⟨rfl, rfl⟩))
    go_ret
    exact ⟨rfl, k5.1⟩
theorem walk (a0 : Option Addr) (len0 cap0 : Nat) (z0 : List Int) (a1 : Int) (a2 : Nat) (a3 : Option Addr) (len3 cap3 : Nat) (z3 : List Int) (w : World) (w0 : IsInts .u8 w a0 len0 cap0 z0) (w1 : (Lit.int .u8 a1).wf = true) (w2 : (Lit.float .f64 a2).wf = true) (w3 : IsInts .u16 w a3 len3 cap3 z3) :
    Calls Try.prog 3 #[.slice a0 len0 cap0, .int .u8 a1, .float .f64 a2, .slice a3 len3 cap3] w fun e w' => e = .returned (.bool true) ∧ Below w.heap.size w w' := by
  have m0 := slice_max w0.1
  have m3 := slice_max w3.1
  have h1 := (u8_range w1).1
  by_cases hs : len0 + len3 ≤ 1048576
  · by_cases hl : len0 ≤ 65536 ∧ len3 ≤ 65536 ∧ len0 + 2 * len3 ≤ 1048576
    · cases ht : tr z0
      · exact mainC a0 len0 cap0 z0 a1 a2 a3 len3 cap3 z3 w w0 h1 w3 hs hl.1 hl.2.1 hl.2.2 ht trivial (by unfold chR; rw [ht]; rfl) (by unfold chOk; rw [ht]; rfl)
      · by_cases hk : a1 % 6 = 0
        · exact mainA a0 len0 cap0 z0 a1 a2 a3 len3 cap3 z3 w w0 h1 w3 hs hl.1 hl.2.1 hl.2.2 ht (by simpa using hk) (by unfold chR leafR; rw [ht, if_pos rfl, if_pos hk]) (by unfold chOk leafOk; rw [ht, hk]; rfl)
        · exact mainB a0 len0 cap0 z0 a1 a2 a3 len3 cap3 z3 w w0 h1 w3 hs hl.1 hl.2.1 hl.2.2 ht (by simpa using hk) (by unfold chR leafR; rw [ht, if_pos rfl, if_neg hk]) (by unfold chOk leafOk; rw [ht]; simpa using hk)
    · clear w0 w3
      go_enter Try.func3, Try.ntmps3
      go_wp2_with (go_at_call 7; refine (bytes7_yes _ _ _ _ _ _ _ _ _ hs).mono ?_; rintro e w' ⟨rfl, rfl⟩)
      all_goals (go_ret; exact ⟨rfl, Below.refl _ _⟩)
  · clear w0 w3
    go_enter Try.func3, Try.ntmps3
    go_wp2_with (go_at_call 7; refine (bytes7_no _ _ _ _ _ _ _ _ _ hs m0 m3).mono ?_; rintro e w' ⟨rfl, rfl⟩)
    go_ret
    exact ⟨rfl, Below.refl _ _⟩
end Go.Proofs.Ytnhjmhomkmfopaa.fnExtractNumericValueChainSpec
