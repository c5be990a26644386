/-
  What the law FnExtractNumericValuesSwapAgree does, for every input. No condition.
-/
import Derived.Test.YtnhjmhomkmfopaaSmall
import Derived.WideLaws
import Derived.WalkSmall
import Derived.Deep.QuietTactic
import Derived.BigQuiet
namespace Go.Proofs.Ytnhjmhomkmfopaa.fnExtractNumericValuesSwapAgree
open Go.ChangeShapes Go.WideShapes Go.ChangeAt Go.RowKit
set_option linter.unusedVariables false

/-- extractNumericValues of two expressions. -/
def both (ok1 ok2 : Bool) (r : Nat) : Nat := if (ok1 && ok2) = true then r else 0
set_option maxRecDepth 100000 in
theorem pair (v1 v2 : Value) (r1 r2 : Nat) (ok1 ok2 : Bool) (w : World) (i1 : Iface v1) (i2 : Iface v2)
    (K1 : ∀ w', Below w.heap.size w w' → Calls Try.prog 23 #[v1] w' fun e w'' => e = .returned (.tuple #[.float .f64 r1, .bool ok1]) ∧ Below w'.heap.size w' w'')
    (K2 : ∀ w', Below w.heap.size w w' → Calls Try.prog 23 #[v2] w' fun e w'' => e = .returned (.tuple #[.float .f64 r2, .bool ok2]) ∧ Below w'.heap.size w' w'') :
    Calls Try.prog 24 #[.agg #[v1, .int .i32 0], .agg #[v2, .int .i32 0]] w fun e w' => e = .returned (.tuple #[.float .f64 (both ok1 ok2 r1), .float .f64 (both ok1 ok2 r2), .bool (ok1 && ok2)]) ∧ Below w.heap.size w w' := by
  have HK1 := Lib.hid K1
  have HK2 := Lib.hid K2
  clear K1 K2
  rcases i1 with rfl | ⟨T1, x1, rfl⟩
  all_goals
    rcases i2 with rfl | ⟨T2, x2, rfl⟩
    all_goals
      cases ok1
      · go_enter Try.func24, Try.ntmps24
        go_wp2_with fail
        refine (HK1.out _ (by go_grown)).mono ?_
        rintro e w1 ⟨rfl, hb1⟩
        have k1 := below_step hb1 (B := w.heap.size) (w0 := w) (by go_grown) (by go_size)
        go_wp2_with fail
        go_ret3
        exact ⟨rfl, k1.1⟩
      · go_enter Try.func24, Try.ntmps24
        go_wp2_with fail
        refine (HK1.out _ (by go_grown)).mono ?_
        rintro e w1 ⟨rfl, hb1⟩
        have k1 := below_step hb1 (B := w.heap.size) (w0 := w) (by go_grown) (by go_size)
        have q : w1.cell? ⟨w.heap.size + 1, 0, none⟩ = (((w.alloc (.cells #[_, .int .i32 0] 33)).alloc (.cells #[_, .int .i32 0] 33))).cell? ⟨w.heap.size + 1, 0, none⟩ := hb1.cell (by simp)
        simp [go_sem] at q
        go_wp2_with fail
        refine (HK2.out _ k1.1).mono ?_
        rintro e w2 ⟨rfl, hb2⟩
        have k2 := below_step hb2 (B := w.heap.size) (w0 := w) k1.1 k1.2
        cases ok2
        · go_wp2_with fail
          go_ret3
          exact ⟨rfl, k2.1⟩
        · go_wp2_with fail
          go_ret3
          exact ⟨rfl, k2.1⟩
@[go_sem] theorem both_tt (r : Nat) : both true true r = r := rfl
@[go_sem] theorem both_tf (r : Nat) : both true false r = 0 := rfl
@[go_sem] theorem both_ft (r : Nat) : both false true r = 0 := rfl
@[go_sem] theorem both_ff (r : Nat) : both false false r = 0 := rfl
set_option maxRecDepth 100000 in
theorem pair16 (v1 v2 : Value) (r1 r2 : Nat) (ok1 ok2 : Bool) (w : World) (i1 : Iface v1) (i2 : Iface v2)
    (K1 : ∀ w', Below w.heap.size w w' → Calls Try.prog 23 #[v1] w' fun e w'' => e = .returned (.tuple #[.float .f64 r1, .bool ok1]) ∧ Below w'.heap.size w' w'')
    (K2 : ∀ w', Below w.heap.size w w' → Calls Try.prog 23 #[v2] w' fun e w'' => e = .returned (.tuple #[.float .f64 r2, .bool ok2]) ∧ Below w'.heap.size w' w'') :
    Calls Try.prog 16 #[.agg #[v1, .int .i32 0], .agg #[v2, .int .i32 0]] w fun e w' => e = .returned (.tuple #[.float .f64 (both ok1 ok2 r1), .float .f64 (both ok1 ok2 r2), .bool (ok1 && ok2)]) ∧ Below w.heap.size w w' := by
  have HK1 := Lib.hid K1
  have HK2 := Lib.hid K2
  have I1 := Lib.hid i1
  have I2 := Lib.hid i2
  clear K1 K2
  generalize hR1 : both ok1 ok2 r1 = R1
  generalize hR2 : both ok1 ok2 r2 = R2
  generalize hO : (ok1 && ok2) = O
  have HH : Hid (both ok1 ok2 r1 = R1 ∧ both ok1 ok2 r2 = R2 ∧ (ok1 && ok2) = O) := ⟨hR1, hR2, hO⟩
  clear hR1 hR2 hO
  rcases i1 with rfl | ⟨T1, x1, rfl⟩
  all_goals
    rcases i2 with rfl | ⟨T2, x2, rfl⟩
    all_goals
      go_enter Try.func16, Try.ntmps16
      go_wp2_with fail
      refine (pair _ _ r1 r2 ok1 ok2 _ I1.out I2.out (fun w' hb => HK1.out w' (by repeat' (first | (with_reducible exact hb) | (refine Below.trans ?_ (hb.mono ?_)) | go_grown))) (fun w' hb => HK2.out w' (by repeat' (first | (with_reducible exact hb) | (refine Below.trans ?_ (hb.mono ?_)) | go_grown)))).mono ?_
      rintro e w1 ⟨rfl, hb1⟩
      rw [HH.out.1, HH.out.2.1, HH.out.2.2]
      have k1 := below_step hb1 (B := w.heap.size) (w0 := w) (by go_grown) (by go_size)
      go_wp2_with fail
      go_ret3
      exact ⟨rfl, k1.1⟩
theorem ext11 (v : Value) (r : Nat) (ok : Bool) (w : World) (i1 : Iface v) (K : Calls Try.prog 23 #[v] w fun e w'' => e = .returned (.tuple #[.float .f64 r, .bool ok]) ∧ Below w.heap.size w w'') :
    Calls Try.prog 11 #[v] w fun e w'' => e = .returned (.tuple #[.float .f64 r, .bool ok]) ∧ Below w.heap.size w w'' := by
  have HK := Lib.hid K
  clear K
  rcases i1 with rfl | ⟨T1, x1, rfl⟩
  all_goals
    go_enter Try.func11, Try.ntmps11
    go_wp2_with (go_at_call 23; refine HK.out.mono ?_; rintro e w1 ⟨rfl, hb1⟩)
    go_ret2
    exact ⟨rfl, hb1⟩
/-- Two variables that hold expressions. -/
def Two (w : World) (bl br : Nat) (x1 x2 : Value) : Prop := bl < w.heap.size ∧ br < w.heap.size ∧ w.cell? ⟨bl, 0, none⟩ = some x1 ∧ w.cell? ⟨bl, 1, none⟩ = some (.int .i32 0) ∧ w.cell? ⟨br, 0, none⟩ = some x2 ∧ w.cell? ⟨br, 1, none⟩ = some (.int .i32 0)
theorem Two.later {w w' : World} {bl br : Nat} {x1 x2 : Value} (h : Two w bl br x1 x2) (hb : Below w.heap.size w w') : Two w' bl br x1 x2 := by
  obtain ⟨l1, l2, c1, c2, c3, c4⟩ := h
  exact ⟨Nat.lt_of_lt_of_le l1 hb.size, Nat.lt_of_lt_of_le l2 hb.size, by rw [hb.cell l1]; exact c1, by rw [hb.cell l1]; exact c2, by rw [hb.cell l2]; exact c3, by rw [hb.cell l2]; exact c4⟩
set_option maxRecDepth 100000 in
set_option maxHeartbeats 4000000 in
theorem main (a0 : Option Addr) (len0 cap0 : Nat) (z0 : List Int) (a1 : Int) (a2 : Nat) (a3 : Option Addr) (len3 cap3 : Nat) (z3 : List Int) (a4 : Int) (a5 : Nat) (w : World) (w0 : IsInts .u8 w a0 len0 cap0 z0) (h1 : 0 ≤ a1) (h4 : 0 ≤ a4) (w3 : IsInts .u8 w a3 len3 cap3 z3)
    (hs : len0 + len3 ≤ 1048576) (hl0 : len0 ≤ 65536) (hl3 : len3 ≤ 65536) (r1 r2 : Nat) (ok1 ok2 : Bool) (e1 : chR z0 a1 a2 = r1) (e2 : chOk z0 a1 = ok1) (e3 : chR z3 a4 a5 = r2) (e4 : chOk z3 a4 = ok2) :
    Calls Try.prog 4 #[.slice a0 len0 cap0, .int .u8 a1, .float .f64 a2, .slice a3 len3 cap3, .int .u8 a4, .float .f64 a5] w fun e w' => e = .returned (.bool true) ∧ Below w.heap.size w w' := by
  have W0 := Lib.hid w0
  have W3 := Lib.hid w3
  have E1 := Lib.hid e1
  have E2 := Lib.hid e2
  have E3 := Lib.hid e3
  have E4 := Lib.hid e4
  clear w0 w3 e1 e2 e3 e4
  go_enter Try.func4, Try.ntmps4
  go_wp2_with (go_at_call 15; refine (bytes15_yes _ _ _ _ _ _ _ _ _ _ _ hs).mono ?_; rintro e w' ⟨rfl, rfl⟩)
  refine (cl8 a0 len0 cap0 z0 _ W0.out (by omega)).mono ?_
  rintro e w1 ⟨b0, c0, rfl, hA, _, hb1⟩
  have HA1 := Lib.hid hA
  have z1' := hb1.size
  clear hA
  go_wp2_with fail
  refine (cl8 a3 len3 cap3 z3 _ ⟨W3.out.1.below hb1, W3.out.2⟩ (by omega)).mono ?_
  rintro e w2 ⟨b3, c3, rfl, hB, _, hb2⟩
  have HA : Hid (IsInts .u8 w2 b0 len0 c0 z0) := ⟨HA1.out.1.below hb2, HA1.out.2⟩
  have HB := Lib.hid hB
  have hbel := hb1.trans (hb2.mono z1')
  have z2 := hbel.size
  clear HA1 W0 W3 hb1 hb2 z1' hB
  go_wp2_with fail
  refine (chain b0 len0 c0 z0 _ _ _ _ _ _ HA.out (by omega) h1).mono ?_
  rintro e w3 ⟨x, lo, B, rfl, hx, hext, hb3⟩
  rw [E1.out, E2.out] at hext
  have HE := Lib.hid hext
  have HB3 : Hid (IsInts .u8 w3 b3 len3 c3 z3) := ⟨HB.out.1.below hb3, HB.out.2⟩
  have hbel3 := hbel.trans (hb3.mono z2)
  have z3' := hbel3.size
  have HX := Lib.hid hx
  clear hext HA HB hbel hb3
  rcases hx with rfl | ⟨T, y, rfl⟩
  · go_wp2_with fail
    refine (chain b3 len3 c3 z3 _ _ _ _ _ _ ⟨HB3.out.1.below (by go_grown), HB3.out.2⟩ (by omega) h4).mono ?_
    rintro e w4 ⟨x2, lo2, B2, rfl, hx2, hext2, hb4⟩
    rw [E3.out, E4.out] at hext2
    have HE2 := Lib.hid hext2
    have z4 : w3.heap.size < w4.heap.size := by have := hb4.size; simp at this; omega
    have hbel4 := (below_step hb4 (B := w.heap.size) (w0 := w) (by go_grown) (by go_size)).1
    have b34 := (below_step hb4 (B := w3.heap.size) (w0 := w3) (by go_grown) (by go_size)).1
    have q0 : w4.cell? ⟨w3.heap.size, 0, none⟩ = some (.nilIface) := by rw [hb4.cell (by simp)]; simp [go_sem]
    have q1 : w4.cell? ⟨w3.heap.size, 1, none⟩ = some (.int .i32 0) := by rw [hb4.cell (by simp)]; simp [go_sem]
    have HX2 := Lib.hid hx2
    clear hext2 hb4 hbel3 HB3
    rcases hx2 with rfl | ⟨T2, y2, rfl⟩
    · have T4 : Two (w4.alloc (.cells #[.nilIface, .int .i32 0] 33)) w3.heap.size w4.heap.size (.nilIface) (.nilIface) := ⟨by simp; omega, by simp, by simp [go_sem, z4, q0], by simp [go_sem, z4, q1], by simp [go_sem], by simp [go_sem]⟩
      have K1 : ∀ w', Below (w4.alloc (.cells #[.nilIface, .int .i32 0] 33)).heap.size (w4.alloc (.cells #[.nilIface, .int .i32 0] 33)) w' → Calls Try.prog 23 #[.nilIface] w' fun e w'' => e = .returned (.tuple #[.float .f64 r1, .bool ok1]) ∧ Below w'.heap.size w' w'' :=
        fun w' hb => HE.out w' (.of_below ((b34.alloc (by omega) _).trans (hb.mono (by simp; omega))))
      have K2 : ∀ w', Below (w4.alloc (.cells #[.nilIface, .int .i32 0] 33)).heap.size (w4.alloc (.cells #[.nilIface, .int .i32 0] 33)) w' → Calls Try.prog 23 #[.nilIface] w' fun e w'' => e = .returned (.tuple #[.float .f64 r2, .bool ok2]) ∧ Below w'.heap.size w' w'' :=
        fun w' hb => HE2.out w' (.of_below (((Below.refl _ _).alloc (Nat.le_refl _) _).trans (hb.mono (by simp))))
      have hbel5 : Below w.heap.size w (w4.alloc (.cells #[.nilIface, .int .i32 0] 33)) := by go_grown
      have z5 := hbel5.size
      have HK1 := Lib.hid K1
      have HK2 := Lib.hid K2
      have HT4 := Lib.hid T4
      clear K1 K2 T4 hbel4 b34
      go_wp2_with fail
      refine (pair16 _ _ r1 r2 ok1 ok2 _ HX.out HX2.out HK1.out HK2.out).mono ?_
      rintro e w5 ⟨rfl, hb5⟩
      have T5 := HT4.out.later hb5
      have HT5 := Lib.hid T5
      have HK15 : Hid (∀ w', Below w5.heap.size w5 w' → Calls Try.prog 23 #[.nilIface] w' fun e w'' => e = .returned (.tuple #[.float .f64 r1, .bool ok1]) ∧ Below w'.heap.size w' w'') := fun w' hb => HK1.out w' (hb5.trans (hb.mono hb5.size))
      have HK25 : Hid (∀ w', Below w5.heap.size w5 w' → Calls Try.prog 23 #[.nilIface] w' fun e w'' => e = .returned (.tuple #[.float .f64 r2, .bool ok2]) ∧ Below w'.heap.size w' w'') := fun w' hb => HK2.out w' (hb5.trans (hb.mono hb5.size))
      have b5 := hbel5.trans (hb5.mono z5)
      have z6 := b5.size
      obtain ⟨_, _, t1, t2, t3, t4⟩ := T5
      clear HT4 HK1 HK2 hbel5 z5 hb5 q0 q1 z4
      go_wp2_with fail
      refine (pair16 _ _ r2 r1 ok2 ok1 _ HX2.out HX.out HK25.out HK15.out).mono ?_
      rintro e w6 ⟨rfl, hb6⟩
      have HT6 := Lib.hid (HT5.out.later hb6)
      have b6 := b5.trans (hb6.mono z6)
      have z7 := b6.size
      clear t1 t2 t3 t4
      obtain ⟨_, _, t1, t2, t3, t4⟩ := HT6.out
      go_wp2_with fail
      refine (ext11 _ _ _ _ HX.out (HK15.out _ hb6)).mono ?_
      rintro e w7 ⟨rfl, hb7⟩
      have HT7 := Lib.hid (HT6.out.later hb7)
      have b7 := b6.trans (hb7.mono z7)
      have z8 := b7.size
      clear t1 t2 t3 t4
      obtain ⟨_, _, t1, t2, t3, t4⟩ := HT7.out
      go_wp2_with fail
      refine (ext11 _ _ _ _ HX2.out (HK25.out _ (hb6.trans (hb7.mono hb6.size)))).mono ?_
      rintro e w8 ⟨rfl, hb8⟩
      have b8 := b7.trans (hb8.mono z8)
      clear t1 t2 t3 t4 HT5 HT6 HT7 HK15 HK25 hb6 hb7 hb8 b5 b6 b7 z6 z7 z8
      cases ok1
      all_goals
        cases ok2
        all_goals
          go_wp2_with (first | (go_at_call 13; (with_reducible refine (same13 _ _).mono ?_); rintro e w' ⟨rfl, rfl⟩) | (go_at_call 14; (with_reducible refine (pos14 _).mono ?_); rintro e w' ⟨rfl, rfl⟩))
          go_ret
          exact ⟨rfl, b8⟩
    · have T4 : Two (w4.alloc (.cells #[.iface T2 y2, .int .i32 0] 33)) w3.heap.size w4.heap.size (.nilIface) (.iface T2 y2) := ⟨by simp; omega, by simp, by simp [go_sem, z4, q0], by simp [go_sem, z4, q1], by simp [go_sem], by simp [go_sem]⟩
      have K1 : ∀ w', Below (w4.alloc (.cells #[.iface T2 y2, .int .i32 0] 33)).heap.size (w4.alloc (.cells #[.iface T2 y2, .int .i32 0] 33)) w' → Calls Try.prog 23 #[.nilIface] w' fun e w'' => e = .returned (.tuple #[.float .f64 r1, .bool ok1]) ∧ Below w'.heap.size w' w'' :=
        fun w' hb => HE.out w' (.of_below ((b34.alloc (by omega) _).trans (hb.mono (by simp; omega))))
      have K2 : ∀ w', Below (w4.alloc (.cells #[.iface T2 y2, .int .i32 0] 33)).heap.size (w4.alloc (.cells #[.iface T2 y2, .int .i32 0] 33)) w' → Calls Try.prog 23 #[.iface T2 y2] w' fun e w'' => e = .returned (.tuple #[.float .f64 r2, .bool ok2]) ∧ Below w'.heap.size w' w'' :=
        fun w' hb => HE2.out w' (.of_below (((Below.refl _ _).alloc (Nat.le_refl _) _).trans (hb.mono (by simp))))
      have hbel5 : Below w.heap.size w (w4.alloc (.cells #[.iface T2 y2, .int .i32 0] 33)) := by go_grown
      have z5 := hbel5.size
      have HK1 := Lib.hid K1
      have HK2 := Lib.hid K2
      have HT4 := Lib.hid T4
      clear K1 K2 T4 hbel4 b34
      go_wp2_with fail
      refine (pair16 _ _ r1 r2 ok1 ok2 _ HX.out HX2.out HK1.out HK2.out).mono ?_
      rintro e w5 ⟨rfl, hb5⟩
      have T5 := HT4.out.later hb5
      have HT5 := Lib.hid T5
      have HK15 : Hid (∀ w', Below w5.heap.size w5 w' → Calls Try.prog 23 #[.nilIface] w' fun e w'' => e = .returned (.tuple #[.float .f64 r1, .bool ok1]) ∧ Below w'.heap.size w' w'') := fun w' hb => HK1.out w' (hb5.trans (hb.mono hb5.size))
      have HK25 : Hid (∀ w', Below w5.heap.size w5 w' → Calls Try.prog 23 #[.iface T2 y2] w' fun e w'' => e = .returned (.tuple #[.float .f64 r2, .bool ok2]) ∧ Below w'.heap.size w' w'') := fun w' hb => HK2.out w' (hb5.trans (hb.mono hb5.size))
      have b5 := hbel5.trans (hb5.mono z5)
      have z6 := b5.size
      obtain ⟨_, _, t1, t2, t3, t4⟩ := T5
      clear HT4 HK1 HK2 hbel5 z5 hb5 q0 q1 z4
      go_wp2_with fail
      refine (pair16 _ _ r2 r1 ok2 ok1 _ HX2.out HX.out HK25.out HK15.out).mono ?_
      rintro e w6 ⟨rfl, hb6⟩
      have HT6 := Lib.hid (HT5.out.later hb6)
      have b6 := b5.trans (hb6.mono z6)
      have z7 := b6.size
      clear t1 t2 t3 t4
      obtain ⟨_, _, t1, t2, t3, t4⟩ := HT6.out
      go_wp2_with fail
      refine (ext11 _ _ _ _ HX.out (HK15.out _ hb6)).mono ?_
      rintro e w7 ⟨rfl, hb7⟩
      have HT7 := Lib.hid (HT6.out.later hb7)
      have b7 := b6.trans (hb7.mono z7)
      have z8 := b7.size
      clear t1 t2 t3 t4
      obtain ⟨_, _, t1, t2, t3, t4⟩ := HT7.out
      go_wp2_with fail
      refine (ext11 _ _ _ _ HX2.out (HK25.out _ (hb6.trans (hb7.mono hb6.size)))).mono ?_
      rintro e w8 ⟨rfl, hb8⟩
      have b8 := b7.trans (hb8.mono z8)
      clear t1 t2 t3 t4 HT5 HT6 HT7 HK15 HK25 hb6 hb7 hb8 b5 b6 b7 z6 z7 z8
      cases ok1
      all_goals
        cases ok2
        all_goals
          go_wp2_with (first | (go_at_call 13; (with_reducible refine (same13 _ _).mono ?_); rintro e w' ⟨rfl, rfl⟩) | (go_at_call 14; (with_reducible refine (pos14 _).mono ?_); rintro e w' ⟨rfl, rfl⟩))
          go_ret
          exact ⟨rfl, b8⟩
  · go_wp2_with fail
    refine (chain b3 len3 c3 z3 _ _ _ _ _ _ ⟨HB3.out.1.below (by go_grown), HB3.out.2⟩ (by omega) h4).mono ?_
    rintro e w4 ⟨x2, lo2, B2, rfl, hx2, hext2, hb4⟩
    rw [E3.out, E4.out] at hext2
    have HE2 := Lib.hid hext2
    have z4 : w3.heap.size < w4.heap.size := by have := hb4.size; simp at this; omega
    have hbel4 := (below_step hb4 (B := w.heap.size) (w0 := w) (by go_grown) (by go_size)).1
    have b34 := (below_step hb4 (B := w3.heap.size) (w0 := w3) (by go_grown) (by go_size)).1
    have q0 : w4.cell? ⟨w3.heap.size, 0, none⟩ = some (.iface T y) := by rw [hb4.cell (by simp)]; simp [go_sem]
    have q1 : w4.cell? ⟨w3.heap.size, 1, none⟩ = some (.int .i32 0) := by rw [hb4.cell (by simp)]; simp [go_sem]
    have HX2 := Lib.hid hx2
    clear hext2 hb4 hbel3 HB3
    rcases hx2 with rfl | ⟨T2, y2, rfl⟩
    · have T4 : Two (w4.alloc (.cells #[.nilIface, .int .i32 0] 33)) w3.heap.size w4.heap.size (.iface T y) (.nilIface) := ⟨by simp; omega, by simp, by simp [go_sem, z4, q0], by simp [go_sem, z4, q1], by simp [go_sem], by simp [go_sem]⟩
      have K1 : ∀ w', Below (w4.alloc (.cells #[.nilIface, .int .i32 0] 33)).heap.size (w4.alloc (.cells #[.nilIface, .int .i32 0] 33)) w' → Calls Try.prog 23 #[.iface T y] w' fun e w'' => e = .returned (.tuple #[.float .f64 r1, .bool ok1]) ∧ Below w'.heap.size w' w'' :=
        fun w' hb => HE.out w' (.of_below ((b34.alloc (by omega) _).trans (hb.mono (by simp; omega))))
      have K2 : ∀ w', Below (w4.alloc (.cells #[.nilIface, .int .i32 0] 33)).heap.size (w4.alloc (.cells #[.nilIface, .int .i32 0] 33)) w' → Calls Try.prog 23 #[.nilIface] w' fun e w'' => e = .returned (.tuple #[.float .f64 r2, .bool ok2]) ∧ Below w'.heap.size w' w'' :=
        fun w' hb => HE2.out w' (.of_below (((Below.refl _ _).alloc (Nat.le_refl _) _).trans (hb.mono (by simp))))
      have hbel5 : Below w.heap.size w (w4.alloc (.cells #[.nilIface, .int .i32 0] 33)) := by go_grown
      have z5 := hbel5.size
      have HK1 := Lib.hid K1
      have HK2 := Lib.hid K2
      have HT4 := Lib.hid T4
      clear K1 K2 T4 hbel4 b34
      go_wp2_with fail
      refine (pair16 _ _ r1 r2 ok1 ok2 _ HX.out HX2.out HK1.out HK2.out).mono ?_
      rintro e w5 ⟨rfl, hb5⟩
      have T5 := HT4.out.later hb5
      have HT5 := Lib.hid T5
      have HK15 : Hid (∀ w', Below w5.heap.size w5 w' → Calls Try.prog 23 #[.iface T y] w' fun e w'' => e = .returned (.tuple #[.float .f64 r1, .bool ok1]) ∧ Below w'.heap.size w' w'') := fun w' hb => HK1.out w' (hb5.trans (hb.mono hb5.size))
      have HK25 : Hid (∀ w', Below w5.heap.size w5 w' → Calls Try.prog 23 #[.nilIface] w' fun e w'' => e = .returned (.tuple #[.float .f64 r2, .bool ok2]) ∧ Below w'.heap.size w' w'') := fun w' hb => HK2.out w' (hb5.trans (hb.mono hb5.size))
      have b5 := hbel5.trans (hb5.mono z5)
      have z6 := b5.size
      obtain ⟨_, _, t1, t2, t3, t4⟩ := T5
      clear HT4 HK1 HK2 hbel5 z5 hb5 q0 q1 z4
      go_wp2_with fail
      refine (pair16 _ _ r2 r1 ok2 ok1 _ HX2.out HX.out HK25.out HK15.out).mono ?_
      rintro e w6 ⟨rfl, hb6⟩
      have HT6 := Lib.hid (HT5.out.later hb6)
      have b6 := b5.trans (hb6.mono z6)
      have z7 := b6.size
      clear t1 t2 t3 t4
      obtain ⟨_, _, t1, t2, t3, t4⟩ := HT6.out
      go_wp2_with fail
      refine (ext11 _ _ _ _ HX.out (HK15.out _ hb6)).mono ?_
      rintro e w7 ⟨rfl, hb7⟩
      have HT7 := Lib.hid (HT6.out.later hb7)
      have b7 := b6.trans (hb7.mono z7)
      have z8 := b7.size
      clear t1 t2 t3 t4
      obtain ⟨_, _, t1, t2, t3, t4⟩ := HT7.out
      go_wp2_with fail
      refine (ext11 _ _ _ _ HX2.out (HK25.out _ (hb6.trans (hb7.mono hb6.size)))).mono ?_
      rintro e w8 ⟨rfl, hb8⟩
      have b8 := b7.trans (hb8.mono z8)
      clear t1 t2 t3 t4 HT5 HT6 HT7 HK15 HK25 hb6 hb7 hb8 b5 b6 b7 z6 z7 z8
      cases ok1
      all_goals
        cases ok2
        all_goals
          go_wp2_with (first | (go_at_call 13; (with_reducible refine (same13 _ _).mono ?_); rintro e w' ⟨rfl, rfl⟩) | (go_at_call 14; (with_reducible refine (pos14 _).mono ?_); rintro e w' ⟨rfl, rfl⟩))
          go_ret
          exact ⟨rfl, b8⟩
    · have T4 : Two (w4.alloc (.cells #[.iface T2 y2, .int .i32 0] 33)) w3.heap.size w4.heap.size (.iface T y) (.iface T2 y2) := ⟨by simp; omega, by simp, by simp [go_sem, z4, q0], by simp [go_sem, z4, q1], by simp [go_sem], by simp [go_sem]⟩
      have K1 : ∀ w', Below (w4.alloc (.cells #[.iface T2 y2, .int .i32 0] 33)).heap.size (w4.alloc (.cells #[.iface T2 y2, .int .i32 0] 33)) w' → Calls Try.prog 23 #[.iface T y] w' fun e w'' => e = .returned (.tuple #[.float .f64 r1, .bool ok1]) ∧ Below w'.heap.size w' w'' :=
        fun w' hb => HE.out w' (.of_below ((b34.alloc (by omega) _).trans (hb.mono (by simp; omega))))
      have K2 : ∀ w', Below (w4.alloc (.cells #[.iface T2 y2, .int .i32 0] 33)).heap.size (w4.alloc (.cells #[.iface T2 y2, .int .i32 0] 33)) w' → Calls Try.prog 23 #[.iface T2 y2] w' fun e w'' => e = .returned (.tuple #[.float .f64 r2, .bool ok2]) ∧ Below w'.heap.size w' w'' :=
        fun w' hb => HE2.out w' (.of_below (((Below.refl _ _).alloc (Nat.le_refl _) _).trans (hb.mono (by simp))))
      have hbel5 : Below w.heap.size w (w4.alloc (.cells #[.iface T2 y2, .int .i32 0] 33)) := by go_grown
      have z5 := hbel5.size
      have HK1 := Lib.hid K1
      have HK2 := Lib.hid K2
      have HT4 := Lib.hid T4
      clear K1 K2 T4 hbel4 b34
      go_wp2_with fail
      refine (pair16 _ _ r1 r2 ok1 ok2 _ HX.out HX2.out HK1.out HK2.out).mono ?_
      rintro e w5 ⟨rfl, hb5⟩
      have T5 := HT4.out.later hb5
      have HT5 := Lib.hid T5
      have HK15 : Hid (∀ w', Below w5.heap.size w5 w' → Calls Try.prog 23 #[.iface T y] w' fun e w'' => e = .returned (.tuple #[.float .f64 r1, .bool ok1]) ∧ Below w'.heap.size w' w'') := fun w' hb => HK1.out w' (hb5.trans (hb.mono hb5.size))
      have HK25 : Hid (∀ w', Below w5.heap.size w5 w' → Calls Try.prog 23 #[.iface T2 y2] w' fun e w'' => e = .returned (.tuple #[.float .f64 r2, .bool ok2]) ∧ Below w'.heap.size w' w'') := fun w' hb => HK2.out w' (hb5.trans (hb.mono hb5.size))
      have b5 := hbel5.trans (hb5.mono z5)
      have z6 := b5.size
      obtain ⟨_, _, t1, t2, t3, t4⟩ := T5
      clear HT4 HK1 HK2 hbel5 z5 hb5 q0 q1 z4
      go_wp2_with fail
      refine (pair16 _ _ r2 r1 ok2 ok1 _ HX2.out HX.out HK25.out HK15.out).mono ?_
      rintro e w6 ⟨rfl, hb6⟩
      have HT6 := Lib.hid (HT5.out.later hb6)
      have b6 := b5.trans (hb6.mono z6)
      have z7 := b6.size
      clear t1 t2 t3 t4
      obtain ⟨_, _, t1, t2, t3, t4⟩ := HT6.out
      go_wp2_with fail
      refine (ext11 _ _ _ _ HX.out (HK15.out _ hb6)).mono ?_
      rintro e w7 ⟨rfl, hb7⟩
      have HT7 := Lib.hid (HT6.out.later hb7)
      have b7 := b6.trans (hb7.mono z7)
      have z8 := b7.size
      clear t1 t2 t3 t4
      obtain ⟨_, _, t1, t2, t3, t4⟩ := HT7.out
      go_wp2_with fail
      refine (ext11 _ _ _ _ HX2.out (HK25.out _ (hb6.trans (hb7.mono hb6.size)))).mono ?_
      rintro e w8 ⟨rfl, hb8⟩
      have b8 := b7.trans (hb8.mono z8)
      clear t1 t2 t3 t4 HT5 HT6 HT7 HK15 HK25 hb6 hb7 hb8 b5 b6 b7 z6 z7 z8
      cases ok1
      all_goals
        cases ok2
        all_goals
          go_wp2_with (first | (go_at_call 13; (with_reducible refine (same13 _ _).mono ?_); rintro e w' ⟨rfl, rfl⟩) | (go_at_call 14; (with_reducible refine (pos14 _).mono ?_); rintro e w' ⟨rfl, rfl⟩))
          go_ret
          exact ⟨rfl, b8⟩
theorem walk (a0 : Option Addr) (len0 cap0 : Nat) (z0 : List Int) (a1 : Int) (a2 : Nat) (a3 : Option Addr) (len3 cap3 : Nat) (z3 : List Int) (a4 : Int) (a5 : Nat) (w : World) (w0 : IsInts .u8 w a0 len0 cap0 z0) (w1 : (Lit.int .u8 a1).wf = true) (w2 : (Lit.float .f64 a2).wf = true) (w3 : IsInts .u8 w a3 len3 cap3 z3) (w4 : (Lit.int .u8 a4).wf = true) (w5 : (Lit.float .f64 a5).wf = true) :
    Calls Try.prog 4 #[.slice a0 len0 cap0, .int .u8 a1, .float .f64 a2, .slice a3 len3 cap3, .int .u8 a4, .float .f64 a5] w fun e w' => e = .returned (.bool true) ∧ Below w.heap.size w w' := by
  have m0 := slice_max w0.1
  have m3 := slice_max w3.1
  by_cases hs : len0 + len3 ≤ 1048576
  · by_cases hl : len0 ≤ 65536 ∧ len3 ≤ 65536
    · exact main a0 len0 cap0 z0 a1 a2 a3 len3 cap3 z3 a4 a5 w w0 (u8_range w1).1 (u8_range w4).1 w3 hs hl.1 hl.2 _ _ _ _ rfl rfl rfl rfl
    · clear w0 w3
      go_enter Try.func4, Try.ntmps4
      go_wp2_with (go_at_call 15; refine (bytes15_yes _ _ _ _ _ _ _ _ _ _ _ hs).mono ?_; rintro e w' ⟨rfl, rfl⟩)
      all_goals (go_ret; exact ⟨rfl, Below.refl _ _⟩)
  · clear w0 w3
    go_enter Try.func4, Try.ntmps4
    go_wp2_with (go_at_call 15; refine (bytes15_no _ _ _ _ _ _ _ _ _ _ _ hs m0 m3).mono ?_; rintro e w' ⟨rfl, rfl⟩)
    go_ret
    exact ⟨rfl, Below.refl _ _⟩
end Go.Proofs.Ytnhjmhomkmfopaa.fnExtractNumericValuesSwapAgree
