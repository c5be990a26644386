/-
  Small functions of the laws on wrapped numbers. No condition.
-/
import Derived.Test.YtnhjmhomkmfopaaChain
import Derived.WideLaws
import Derived.WalkSmall
import Derived.Deep.QuietTactic
import Derived.BigQuiet
namespace Go.Proofs.Ytnhjmhomkmfopaa
open Go.ChangeShapes Go.WideShapes Go.ChangeAt Go.RowKit
set_option linter.unusedVariables false

theorem tr_true {ws : List Int} (h : ∀ i, i < ws.length → ws.getD i 0 % 5 ≤ 1) : tr ws = true := by
  unfold tr
  rw [List.all_eq_true]
  intro x hx
  obtain ⟨i, hi, rfl⟩ := List.getElem_of_mem hx
  have := h i hi
  simpa [List.getD_eq_getElem?_getD, List.getElem?_eq_getElem hi] using this
theorem tr_false {ws : List Int} {i : Nat} (hi : i < ws.length) (h : ¬ ws.getD i 0 % 5 ≤ 1) : tr ws = false := by
  rw [Bool.eq_false_iff]
  intro ht
  unfold tr at ht
  rw [List.all_eq_true] at ht
  have := ht (ws.getD i 0) (by simp [List.getD_eq_getElem?_getD, List.getElem?_eq_getElem hi])
  exact h (by simpa using this)
set_option maxRecDepth 100000 in
theorem transp (a : Option Addr) (len cap : Nat) (ws : List Int) (w : World) (h : IsInts .u8 w a len cap ws) (hl : len ≤ 1048576) :
    Calls Try.prog 12 #[.slice a len cap] w fun e w' => e = .returned (.bool (tr ws)) ∧ w = w' := by
  have HL : Hid (ws.length = len) := by have := h.1.1; rwa [List.length_map] at this
  have HS := Lib.hid h
  clear h
  go_enter Try.func12, Try.ntmps12
  go_wp2
  go_loop [3] (fun i => ∃ k : Nat, k ≤ len ∧ i = .int .i64 k ∧ Hid (∀ j, j < k → ws.getD j 0 % 5 ≤ 1)) (fun i => len - (intOf i).toNat)
  case atStart => exact ⟨0, Nat.zero_le _, rfl, fun j hj => absurd hj (by omega)⟩
  case round =>
    obtain ⟨k, hk, rfl, hc⟩ := hrel
    by_cases hlt : k < len
    · obtain ⟨ba, oa, rfl, _, hca⟩ := ints_cell HS.out (by omega)
      have ca1 := hca k hlt
      have bx := u8_bd HS.out.2 k
      have i0 : (0 : Int) ≤ (k : Int) := by omega
      have i1 : (k : Int) < (len : Int) := by omega
      clear hca
      by_cases hx : ws.getD k 0 % 5 ≤ 1
      · have NX : Hid (∀ j, j < k + 1 → ws.getD j 0 % 5 ≤ 1) := by
          intro j hj
          by_cases e : j = k
          · subst e; exact hx
          · exact hc.out j (by omega)
        generalize ws.getD k 0 = x at *
        clear hc
        go_wp2
        go_round
        case rel => exact ⟨k + 1, by omega, by go_num, NX⟩
        case measure => simp [intOf]; omega
      · have FIN : Hid (tr ws = false) := tr_false (by rw [HL.out]; exact hlt) hx
        generalize ws.getD k 0 = x at *
        clear hc
        go_wp2
        go_ret
        exact ⟨by rw [FIN.out]; rfl, rfl⟩
    · have FIN : Hid (tr ws = true) := tr_true (fun i hi => hc.out i (by have := HL.out; omega))
      clear hc
      go_wp2
      go_ret
      exact ⟨by rw [FIN.out]; rfl, rfl⟩
theorem same13 (x : Nat) (w : World) : Calls Try.prog 13 #[.float .f64 x, .float .f64 x] w fun e w' => e = .returned (.bool true) ∧ w = w' := by
  by_cases h : Fp.nan x
  · have h1 := n_ne (x := x) (y := x) (.inl h)
    clear h
    go_enter Try.func13, Try.ntmps13
    go_wp2
    go_ret
    exact ⟨rfl, rfl⟩
  · have h1 := s_ne h
    by_cases h0 : Fp.rg x = 0
    · have h3 := ord_zero' h0
      have h4 : (FloatKind.f64.format.order (Fp.wd (Fp.sg x) 9218868437227405312) (Fp.wd (Fp.sg x) 9218868437227405312) == some .eq) = true := by rw [ord_refl (inf_not_nan _)]; rfl
      have hr := fun (t : TypeId) (W : World) => run_float_arith (P := Try.prog) W .quo t .f64 _ _ _ (show floatBits .quo .f64 4607182418800017408 x = _ from Fp.one_over_zero h0)
      generalize Fp.wd (Fp.sg x) 9218868437227405312 = r at hr h4
      clear h0 h
      go_enter Try.func13, Try.ntmps13
      go_wp2
      all_goals (go_ret; exact ⟨rfl, rfl⟩)
    · have h3 := ord_zero h h0
      clear h0 h
      go_enter Try.func13, Try.ntmps13
      go_wp2
      all_goals (go_ret; exact ⟨rfl, rfl⟩)
theorem pos14 (w : World) : Calls Try.prog 14 #[.float .f64 0] w fun e w' => e = .returned (.bool true) ∧ w = w' := by
  have h5 : (FloatKind.f64.format.order 0 0 == some .eq) = true := by rw [f_eq zero_nn zero_nn]; simp
  have h7 := fun (t : TypeId) (W : World) => run_float_arith (P := Try.prog) W .quo t .f64 _ _ _ (show floatBits .quo .f64 4607182418800017408 0 = some 9218868437227405312 from by decide)
  have h8 : (FloatKind.f64.format.order 9218868437227405312 0 == some .gt) = true := by decide
  go_enter Try.func14, Try.ntmps14
  go_wp2
  go_ret
  exact ⟨rfl, rfl⟩
theorem bytes7_yes (a b : Option Addr) (la ca lb cb : Nat) (x : Int) (y : Nat) (w : World) (h : la + lb ≤ 1048576) :
    Calls Try.prog 7 #[.slice a la ca, .int .u8 x, .float .f64 y, .slice b lb cb] w fun e w' => e = .returned (.bool true) ∧ w = w' := by
  go_enter Try.func7, Try.ntmps7
  go_wp2
  go_ret
  exact ⟨rfl, rfl⟩
theorem bytes7_no (a b : Option Addr) (la ca lb cb : Nat) (x : Int) (y : Nat) (w : World) (h : ¬ la + lb ≤ 1048576) (h1 : la ≤ 9223372036854775807) (h2 : lb ≤ 9223372036854775807) :
    Calls Try.prog 7 #[.slice a la ca, .int .u8 x, .float .f64 y, .slice b lb cb] w fun e w' => e = .returned (.bool false) ∧ w = w' := by
  go_enter Try.func7, Try.ntmps7
  go_wp2
  all_goals (go_ret; exact ⟨rfl, rfl⟩)
theorem bytes15_yes (a b : Option Addr) (la ca lb cb : Nat) (x1 x2 : Int) (y1 y2 : Nat) (w : World) (h : la + lb ≤ 1048576) :
    Calls Try.prog 15 #[.slice a la ca, .int .u8 x1, .float .f64 y1, .slice b lb cb, .int .u8 x2, .float .f64 y2] w fun e w' => e = .returned (.bool true) ∧ w = w' := by
  go_enter Try.func15, Try.ntmps15
  go_wp2
  go_ret
  exact ⟨rfl, rfl⟩
theorem bytes15_no (a b : Option Addr) (la ca lb cb : Nat) (x1 x2 : Int) (y1 y2 : Nat) (w : World) (h : ¬ la + lb ≤ 1048576) (h1 : la ≤ 9223372036854775807) (h2 : lb ≤ 9223372036854775807) :
    Calls Try.prog 15 #[.slice a la ca, .int .u8 x1, .float .f64 y1, .slice b lb cb, .int .u8 x2, .float .f64 y2] w fun e w' => e = .returned (.bool false) ∧ w = w' := by
  go_enter Try.func15, Try.ntmps15
  go_wp2
  all_goals (go_ret; exact ⟨rfl, rfl⟩)
theorem u8_range {a : Int} (h : (Lit.int .u8 a).wf = true) : 0 ≤ a ∧ a ≤ 255 := by
  simpa [Lit.wf, IntKind.min, IntKind.max, IntKind.signed, IntKind.bits] using h
theorem slice_max {w : World} {a : Option Addr} {len cap : Nat} {vs : List Value} (h : IsSlice w a len cap vs) : len ≤ 9223372036854775807 := by
  have := h.2.1; have := h.2.2.1; unfold maxLen at this; omega
end Go.Proofs.Ytnhjmhomkmfopaa
