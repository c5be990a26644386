/-
  What the law FnIsPropertyAccessCaseTable does, for every input. No condition.
-/
import Derived.Test.YtfbmadlcjpaddaaBa
import Derived.Test.YtfbmadlcjpaddaaBb
import Derived.Test.YtfbmadlcjpaddaaBc
import Derived.Test.YtfbmadlcjpaddaaTas
import Derived.WideLaws
import Derived.Deep.RegionHeld3
namespace Go.Proofs.Ytfbmadlcjpaddaa.fnIsPropertyAccessCaseTable
open Go.ChangeShapes Go.WideShapes Go.ChangeAt Go.RowKit
set_option linter.unusedVariables false

set_option maxRecDepth 100000 in
theorem acc74 (b : Nat) (l : Int) (w : World) : Calls Try.prog 9 #[.agg #[Value.iface 74 (.pointer (some ⟨b, 0, none⟩)), .int .i32 l]] w fun e w' => e = .returned (.bool false) ∧ Below w.heap.size w w' := by
  go_enter Try.func9, Try.ntmps9
  go_wp2
  go_ret
  exact ⟨rfl, by go_grown⟩
set_option maxRecDepth 100000 in
theorem acc77 (b : Nat) (l : Int) (w : World) : Calls Try.prog 9 #[.agg #[Value.iface 77 (.pointer (some ⟨b, 0, none⟩)), .int .i32 l]] w fun e w' => e = .returned (.bool false) ∧ Below w.heap.size w w' := by
  go_enter Try.func9, Try.ntmps9
  go_wp2
  go_ret
  exact ⟨rfl, by go_grown⟩
set_option maxRecDepth 100000 in
theorem acc65 (b : Nat) (l : Int) (w : World) : Calls Try.prog 9 #[.agg #[Value.iface 65 (.pointer (some ⟨b, 0, none⟩)), .int .i32 l]] w fun e w' => e = .returned (.bool false) ∧ Below w.heap.size w w' := by
  go_enter Try.func9, Try.ntmps9
  go_wp2
  go_ret
  exact ⟨rfl, by go_grown⟩
set_option maxRecDepth 100000 in
theorem acc79 (b : Nat) (l : Int) (w : World) : Calls Try.prog 9 #[.agg #[Value.iface 79 (.pointer (some ⟨b, 0, none⟩)), .int .i32 l]] w fun e w' => e = .returned (.bool false) ∧ Below w.heap.size w w' := by
  go_enter Try.func9, Try.ntmps9
  go_wp2
  go_ret
  exact ⟨rfl, by go_grown⟩
set_option maxRecDepth 100000 in
theorem acc82 (b : Nat) (l : Int) (w : World) : Calls Try.prog 9 #[.agg #[Value.iface 82 (.pointer (some ⟨b, 0, none⟩)), .int .i32 l]] w fun e w' => e = .returned (.bool false) ∧ Below w.heap.size w w' := by
  go_enter Try.func9, Try.ntmps9
  go_wp2
  go_ret
  exact ⟨rfl, by go_grown⟩
set_option maxRecDepth 100000 in
theorem acc58 (b : Nat) (l : Int) (w : World) : Calls Try.prog 9 #[.agg #[Value.iface 58 (.pointer (some ⟨b, 0, none⟩)), .int .i32 l]] w fun e w' => e = .returned (.bool false) ∧ Below w.heap.size w w' := by
  go_enter Try.func9, Try.ntmps9
  go_wp2
  go_ret
  exact ⟨rfl, by go_grown⟩
set_option maxRecDepth 100000 in
theorem acc57 (b : Nat) (l : Int) (w : World) : Calls Try.prog 9 #[.agg #[Value.iface 57 (.pointer (some ⟨b, 0, none⟩)), .int .i32 l]] w fun e w' => e = .returned (.bool false) ∧ Below w.heap.size w w' := by
  go_enter Try.func9, Try.ntmps9
  go_wp2
  go_ret
  exact ⟨rfl, by go_grown⟩
set_option maxRecDepth 100000 in
theorem acc92 (b : Nat) (l : Int) (w : World) : Calls Try.prog 9 #[.agg #[Value.iface 92 (.pointer (some ⟨b, 0, none⟩)), .int .i32 l]] w fun e w' => e = .returned (.bool true) ∧ Below w.heap.size w w' := by
  go_enter Try.func9, Try.ntmps9
  go_wp2
  go_ret
  exact ⟨rfl, by go_grown⟩
set_option maxRecDepth 100000 in
theorem acc96 (b : Nat) (l : Int) (w : World) : Calls Try.prog 9 #[.agg #[Value.iface 96 (.pointer (some ⟨b, 0, none⟩)), .int .i32 l]] w fun e w' => e = .returned (.bool true) ∧ Below w.heap.size w w' := by
  go_enter Try.func9, Try.ntmps9
  go_wp2
  go_ret
  exact ⟨rfl, by go_grown⟩
set_option maxRecDepth 100000 in
theorem acc99 (b : Nat) (l : Int) (w : World) : Calls Try.prog 9 #[.agg #[Value.iface 99 (.pointer (some ⟨b, 0, none⟩)), .int .i32 l]] w fun e w' => e = .returned (.bool false) ∧ Below w.heap.size w w' := by
  go_enter Try.func9, Try.ntmps9
  go_wp2
  go_ret
  exact ⟨rfl, by go_grown⟩
set_option maxRecDepth 100000 in
theorem acc69 (b : Nat) (l : Int) (w : World) : Calls Try.prog 9 #[.agg #[Value.iface 69 (.pointer (some ⟨b, 0, none⟩)), .int .i32 l]] w fun e w' => e = .returned (.bool false) ∧ Below w.heap.size w w' := by
  go_enter Try.func9, Try.ntmps9
  go_wp2
  go_ret
  exact ⟨rfl, by go_grown⟩
set_option maxRecDepth 100000 in
theorem acc103 (b : Nat) (l : Int) (w : World) : Calls Try.prog 9 #[.agg #[Value.iface 103 (.pointer (some ⟨b, 0, none⟩)), .int .i32 l]] w fun e w' => e = .returned (.bool false) ∧ Below w.heap.size w w' := by
  go_enter Try.func9, Try.ntmps9
  go_wp2
  go_ret
  exact ⟨rfl, by go_grown⟩
set_option maxRecDepth 100000 in
theorem acc106 (b : Nat) (l : Int) (w : World) : Calls Try.prog 9 #[.agg #[Value.iface 106 (.pointer (some ⟨b, 0, none⟩)), .int .i32 l]] w fun e w' => e = .returned (.bool false) ∧ Below w.heap.size w w' := by
  go_enter Try.func9, Try.ntmps9
  go_wp2
  go_ret
  exact ⟨rfl, by go_grown⟩
set_option maxRecDepth 100000 in
theorem acc110 (b : Nat) (l : Int) (w : World) : Calls Try.prog 9 #[.agg #[Value.iface 110 (.pointer (some ⟨b, 0, none⟩)), .int .i32 l]] w fun e w' => e = .returned (.bool false) ∧ Below w.heap.size w w' := by
  go_enter Try.func9, Try.ntmps9
  go_wp2
  go_ret
  exact ⟨rfl, by go_grown⟩
set_option maxRecDepth 100000 in
theorem acc0 (b : Nat) (l : Int) (w : World) : Calls Try.prog 9 #[.agg #[Value.nilIface, .int .i32 l]] w fun e w' => e = .returned (.bool false) ∧ Below w.heap.size w w' := by
  go_enter Try.func9, Try.ntmps9
  go_wp2
  go_ret
  exact ⟨rfl, by go_grown⟩
set_option maxRecDepth 100000 in
theorem acc113 (b : Nat) (l : Int) (w : World) : Calls Try.prog 9 #[.agg #[Value.iface 113 (.pointer (some ⟨b, 0, none⟩)), .int .i32 l]] w fun e w' => e = .returned (.bool false) ∧ Below w.heap.size w w' := by
  go_enter Try.func9, Try.ntmps9
  go_wp2
  go_ret
  exact ⟨rfl, by go_grown⟩
set_option maxRecDepth 100000 in
theorem acc122 (b : Nat) (l : Int) (w : World) : Calls Try.prog 9 #[.agg #[Value.iface 122 (.pointer (some ⟨b, 0, none⟩)), .int .i32 l]] w fun e w' => e = .returned (.bool false) ∧ Below w.heap.size w w' := by
  go_enter Try.func9, Try.ntmps9
  go_wp2
  go_ret
  exact ⟨rfl, by go_grown⟩

theorem case0 (a0 : Int) (a1 : Int) (a2 : Bool) (a3 : Nat) (a4 : Int) (w : World) (h0 : 0 ≤ a0) (h : a0 % 20 = 0) :
    Calls Try.prog 3 #[.int .u8 a0, .int .u8 a1, .bool a2, .float .f64 a3, .int .i32 a4] w fun e w' => e = .returned (.bool true) ∧ Below w.heap.size w w' := by
  go_enter Try.func3, Try.ntmps3
  go_wp2_with (first | (go_at_call 8; refine (build0 _ _ _ _ _ _ h0 h).mono ?_; rintro e w' ⟨v, rfl, ⟨b, rfl, hlt⟩, hb⟩) | (go_at_call 9; (with_reducible refine (acc74 _ _ _).mono ?_); rintro e w2 ⟨rfl, hb2⟩))
  go_ret
  have hz := hb.size
  exact ⟨rfl, (below_step hb2 (by go_grown) (by go_size)).1⟩

theorem case1 (a0 : Int) (a1 : Int) (a2 : Bool) (a3 : Nat) (a4 : Int) (w : World) (h0 : 0 ≤ a0) (h : a0 % 20 = 1) :
    Calls Try.prog 3 #[.int .u8 a0, .int .u8 a1, .bool a2, .float .f64 a3, .int .i32 a4] w fun e w' => e = .returned (.bool true) ∧ Below w.heap.size w w' := by
  go_enter Try.func3, Try.ntmps3
  go_wp2_with (first | (go_at_call 8; refine (build1 _ _ _ _ _ _ h0 h).mono ?_; rintro e w' ⟨v, rfl, ⟨b, rfl, hlt⟩, hb⟩) | (go_at_call 9; (with_reducible refine (acc77 _ _ _).mono ?_); rintro e w2 ⟨rfl, hb2⟩))
  go_ret
  have hz := hb.size
  exact ⟨rfl, (below_step hb2 (by go_grown) (by go_size)).1⟩

theorem case2 (a0 : Int) (a1 : Int) (a2 : Bool) (a3 : Nat) (a4 : Int) (w : World) (h0 : 0 ≤ a0) (h : a0 % 20 = 2) :
    Calls Try.prog 3 #[.int .u8 a0, .int .u8 a1, .bool a2, .float .f64 a3, .int .i32 a4] w fun e w' => e = .returned (.bool true) ∧ Below w.heap.size w w' := by
  go_enter Try.func3, Try.ntmps3
  go_wp2_with (first | (go_at_call 8; refine (build2 _ _ _ _ _ _ h0 h).mono ?_; rintro e w' ⟨v, rfl, ⟨b, rfl, hlt⟩, hb⟩) | (go_at_call 9; (with_reducible refine (acc65 _ _ _).mono ?_); rintro e w2 ⟨rfl, hb2⟩))
  go_ret
  have hz := hb.size
  exact ⟨rfl, (below_step hb2 (by go_grown) (by go_size)).1⟩

theorem case3 (a0 : Int) (a1 : Int) (a2 : Bool) (a3 : Nat) (a4 : Int) (w : World) (h0 : 0 ≤ a0) (h : a0 % 20 = 3) :
    Calls Try.prog 3 #[.int .u8 a0, .int .u8 a1, .bool a2, .float .f64 a3, .int .i32 a4] w fun e w' => e = .returned (.bool true) ∧ Below w.heap.size w w' := by
  go_enter Try.func3, Try.ntmps3
  go_wp2_with (first | (go_at_call 8; refine (build3 _ _ _ _ _ _ h0 h).mono ?_; rintro e w' ⟨v, rfl, ⟨b, rfl, hlt⟩, hb⟩) | (go_at_call 9; (with_reducible refine (acc79 _ _ _).mono ?_); rintro e w2 ⟨rfl, hb2⟩))
  go_ret
  have hz := hb.size
  exact ⟨rfl, (below_step hb2 (by go_grown) (by go_size)).1⟩

theorem case4 (a0 : Int) (a1 : Int) (a2 : Bool) (a3 : Nat) (a4 : Int) (w : World) (h0 : 0 ≤ a0) (h : a0 % 20 = 4) :
    Calls Try.prog 3 #[.int .u8 a0, .int .u8 a1, .bool a2, .float .f64 a3, .int .i32 a4] w fun e w' => e = .returned (.bool true) ∧ Below w.heap.size w w' := by
  go_enter Try.func3, Try.ntmps3
  go_wp2_with (first | (go_at_call 8; refine (build4 _ _ _ _ _ _ h0 h).mono ?_; rintro e w' ⟨v, rfl, ⟨b, rfl, hlt⟩, hb⟩) | (go_at_call 9; (with_reducible refine (acc82 _ _ _).mono ?_); rintro e w2 ⟨rfl, hb2⟩))
  go_ret
  have hz := hb.size
  exact ⟨rfl, (below_step hb2 (by go_grown) (by go_size)).1⟩

theorem case5 (a0 : Int) (a1 : Int) (a2 : Bool) (a3 : Nat) (a4 : Int) (w : World) (h0 : 0 ≤ a0) (h : a0 % 20 = 5) :
    Calls Try.prog 3 #[.int .u8 a0, .int .u8 a1, .bool a2, .float .f64 a3, .int .i32 a4] w fun e w' => e = .returned (.bool true) ∧ Below w.heap.size w w' := by
  go_enter Try.func3, Try.ntmps3
  go_wp2_with (first | (go_at_call 8; refine (build5 _ _ _ _ _ _ h0 h).mono ?_; rintro e w' ⟨v, rfl, ⟨b, rfl, hlt⟩, hb⟩) | (go_at_call 9; (with_reducible refine (acc58 _ _ _).mono ?_); rintro e w2 ⟨rfl, hb2⟩))
  go_ret
  have hz := hb.size
  exact ⟨rfl, (below_step hb2 (by go_grown) (by go_size)).1⟩

theorem case6 (a0 : Int) (a1 : Int) (a2 : Bool) (a3 : Nat) (a4 : Int) (w : World) (h0 : 0 ≤ a0) (h : a0 % 20 = 6) :
    Calls Try.prog 3 #[.int .u8 a0, .int .u8 a1, .bool a2, .float .f64 a3, .int .i32 a4] w fun e w' => e = .returned (.bool true) ∧ Below w.heap.size w w' := by
  go_enter Try.func3, Try.ntmps3
  go_wp2_with (first | (go_at_call 8; refine (build6 _ _ _ _ _ _ h0 h).mono ?_; rintro e w' ⟨v, rfl, ⟨b, rfl, hlt⟩, hb⟩) | (go_at_call 9; (with_reducible refine (acc57 _ _ _).mono ?_); rintro e w2 ⟨rfl, hb2⟩))
  go_ret
  have hz := hb.size
  exact ⟨rfl, (below_step hb2 (by go_grown) (by go_size)).1⟩

theorem case7 (a0 : Int) (a1 : Int) (a2 : Bool) (a3 : Nat) (a4 : Int) (w : World) (h0 : 0 ≤ a0) (h : a0 % 20 = 7) :
    Calls Try.prog 3 #[.int .u8 a0, .int .u8 a1, .bool a2, .float .f64 a3, .int .i32 a4] w fun e w' => e = .returned (.bool true) ∧ Below w.heap.size w w' := by
  go_enter Try.func3, Try.ntmps3
  go_wp2_with (first | (go_at_call 8; refine (build7 _ _ _ _ _ _ h0 h).mono ?_; rintro e w' ⟨v, rfl, ⟨b, rfl, hlt⟩, hb⟩) | (go_at_call 9; (with_reducible refine (acc92 _ _ _).mono ?_); rintro e w2 ⟨rfl, hb2⟩))
  go_ret
  have hz := hb.size
  exact ⟨rfl, (below_step hb2 (by go_grown) (by go_size)).1⟩

theorem case8 (a0 : Int) (a1 : Int) (a2 : Bool) (a3 : Nat) (a4 : Int) (w : World) (h0 : 0 ≤ a0) (h : a0 % 20 = 8) :
    Calls Try.prog 3 #[.int .u8 a0, .int .u8 a1, .bool a2, .float .f64 a3, .int .i32 a4] w fun e w' => e = .returned (.bool true) ∧ Below w.heap.size w w' := by
  go_enter Try.func3, Try.ntmps3
  go_wp2_with (first | (go_at_call 8; refine (build8 _ _ _ _ _ _ h0 h).mono ?_; rintro e w' ⟨v, rfl, ⟨b, rfl, hlt⟩, hb⟩) | (go_at_call 9; (with_reducible refine (acc96 _ _ _).mono ?_); rintro e w2 ⟨rfl, hb2⟩))
  go_ret
  have hz := hb.size
  exact ⟨rfl, (below_step hb2 (by go_grown) (by go_size)).1⟩

theorem case9 (a0 : Int) (a1 : Int) (a2 : Bool) (a3 : Nat) (a4 : Int) (w : World) (h0 : 0 ≤ a0) (h : a0 % 20 = 9) :
    Calls Try.prog 3 #[.int .u8 a0, .int .u8 a1, .bool a2, .float .f64 a3, .int .i32 a4] w fun e w' => e = .returned (.bool true) ∧ Below w.heap.size w w' := by
  go_enter Try.func3, Try.ntmps3
  go_wp2_with (first | (go_at_call 8; refine (build9 _ _ _ _ _ _ h0 h).mono ?_; rintro e w' ⟨v, rfl, ⟨b, rfl, hlt⟩, hb⟩) | (go_at_call 9; (with_reducible refine (acc99 _ _ _).mono ?_); rintro e w2 ⟨rfl, hb2⟩))
  go_ret
  have hz := hb.size
  exact ⟨rfl, (below_step hb2 (by go_grown) (by go_size)).1⟩

theorem case10 (a0 : Int) (a1 : Int) (a2 : Bool) (a3 : Nat) (a4 : Int) (w : World) (h0 : 0 ≤ a0) (h : a0 % 20 = 10) :
    Calls Try.prog 3 #[.int .u8 a0, .int .u8 a1, .bool a2, .float .f64 a3, .int .i32 a4] w fun e w' => e = .returned (.bool true) ∧ Below w.heap.size w w' := by
  go_enter Try.func3, Try.ntmps3
  go_wp2_with (first | (go_at_call 8; refine (build10 _ _ _ _ _ _ h0 h).mono ?_; rintro e w' ⟨v, rfl, ⟨b, rfl, hlt, hc⟩, hb⟩) | (go_at_call 9; (with_reducible refine (acc69 _ _ _).mono ?_); rintro e w2 ⟨rfl, hb2⟩))
  go_ret
  have hz := hb.size
  exact ⟨rfl, (below_step hb2 (by go_grown) (by go_size)).1⟩

theorem case11 (a0 : Int) (a1 : Int) (a2 : Bool) (a3 : Nat) (a4 : Int) (w : World) (h0 : 0 ≤ a0) (h : a0 % 20 = 11) :
    Calls Try.prog 3 #[.int .u8 a0, .int .u8 a1, .bool a2, .float .f64 a3, .int .i32 a4] w fun e w' => e = .returned (.bool true) ∧ Below w.heap.size w w' := by
  go_enter Try.func3, Try.ntmps3
  go_wp2_with (first | (go_at_call 8; refine (build11 _ _ _ _ _ _ h0 h).mono ?_; rintro e w' ⟨v, rfl, ⟨b, rfl, hlt, hc⟩, hb⟩) | (go_at_call 9; (with_reducible refine (acc69 _ _ _).mono ?_); rintro e w2 ⟨rfl, hb2⟩))
  go_ret
  have hz := hb.size
  exact ⟨rfl, (below_step hb2 (by go_grown) (by go_size)).1⟩

theorem case12 (a0 : Int) (a1 : Int) (a2 : Bool) (a3 : Nat) (a4 : Int) (w : World) (h0 : 0 ≤ a0) (h : a0 % 20 = 12) :
    Calls Try.prog 3 #[.int .u8 a0, .int .u8 a1, .bool a2, .float .f64 a3, .int .i32 a4] w fun e w' => e = .returned (.bool true) ∧ Below w.heap.size w w' := by
  go_enter Try.func3, Try.ntmps3
  go_wp2_with (first | (go_at_call 8; refine (build12 _ _ _ _ _ _ h0 h).mono ?_; rintro e w' ⟨v, rfl, ⟨b, rfl, hlt, hc⟩, hb⟩) | (go_at_call 9; (with_reducible refine (acc103 _ _ _).mono ?_); rintro e w2 ⟨rfl, hb2⟩))
  go_ret
  have hz := hb.size
  exact ⟨rfl, (below_step hb2 (by go_grown) (by go_size)).1⟩

theorem case13 (a0 : Int) (a1 : Int) (a2 : Bool) (a3 : Nat) (a4 : Int) (w : World) (h0 : 0 ≤ a0) (h : a0 % 20 = 13) :
    Calls Try.prog 3 #[.int .u8 a0, .int .u8 a1, .bool a2, .float .f64 a3, .int .i32 a4] w fun e w' => e = .returned (.bool true) ∧ Below w.heap.size w w' := by
  go_enter Try.func3, Try.ntmps3
  go_wp2_with (first | (go_at_call 8; refine (build13 _ _ _ _ _ _ h0 h).mono ?_; rintro e w' ⟨v, rfl, ⟨b, y, rfl, hlt, hc⟩, hb⟩) | (go_at_call 9; (with_reducible refine (acc106 _ _ _).mono ?_); rintro e w2 ⟨rfl, hb2⟩))
  go_ret
  have hz := hb.size
  exact ⟨rfl, (below_step hb2 (by go_grown) (by go_size)).1⟩

theorem case14 (a0 : Int) (a1 : Int) (a2 : Bool) (a3 : Nat) (a4 : Int) (w : World) (h0 : 0 ≤ a0) (h : a0 % 20 = 14) :
    Calls Try.prog 3 #[.int .u8 a0, .int .u8 a1, .bool a2, .float .f64 a3, .int .i32 a4] w fun e w' => e = .returned (.bool true) ∧ Below w.heap.size w w' := by
  go_enter Try.func3, Try.ntmps3
  go_wp2_with (first | (go_at_call 8; refine (build14 _ _ _ _ _ _ h0 h).mono ?_; rintro e w' ⟨v, rfl, ⟨b, y, rfl, hlt, hc⟩, hb⟩) | (go_at_call 9; (with_reducible refine (acc110 _ _ _).mono ?_); rintro e w2 ⟨rfl, hb2⟩))
  go_ret
  have hz := hb.size
  exact ⟨rfl, (below_step hb2 (by go_grown) (by go_size)).1⟩

theorem case15 (a0 : Int) (a1 : Int) (a2 : Bool) (a3 : Nat) (a4 : Int) (w : World) (h0 : 0 ≤ a0) (h : a0 % 20 = 15) :
    Calls Try.prog 3 #[.int .u8 a0, .int .u8 a1, .bool a2, .float .f64 a3, .int .i32 a4] w fun e w' => e = .returned (.bool true) ∧ Below w.heap.size w w' := by
  go_enter Try.func3, Try.ntmps3
  go_wp2_with (first | (go_at_call 8; refine (build15 _ _ _ _ _ _ h0 h).mono ?_; rintro e w' ⟨v, rfl, rfl, hb⟩) | (go_at_call 9; (with_reducible refine (acc0 0 _ _).mono ?_); rintro e w2 ⟨rfl, hb2⟩))
  go_ret
  have hz := hb.size
  exact ⟨rfl, (below_step hb2 (by go_grown) (by go_size)).1⟩

theorem case16 (a0 : Int) (a1 : Int) (a2 : Bool) (a3 : Nat) (a4 : Int) (w : World) (h0 : 0 ≤ a0) (h : a0 % 20 = 16) :
    Calls Try.prog 3 #[.int .u8 a0, .int .u8 a1, .bool a2, .float .f64 a3, .int .i32 a4] w fun e w' => e = .returned (.bool true) ∧ Below w.heap.size w w' := by
  go_enter Try.func3, Try.ntmps3
  go_wp2_with (first | (go_at_call 8; refine (build16 _ _ _ _ _ _ h0 h).mono ?_; rintro e w' ⟨v, rfl, ⟨b, rfl, hlt⟩, hb⟩) | (go_at_call 9; (with_reducible refine (acc113 _ _ _).mono ?_); rintro e w2 ⟨rfl, hb2⟩))
  go_ret
  have hz := hb.size
  exact ⟨rfl, (below_step hb2 (by go_grown) (by go_size)).1⟩

theorem case17 (a0 : Int) (a1 : Int) (a2 : Bool) (a3 : Nat) (a4 : Int) (w : World) (h0 : 0 ≤ a0) (h : a0 % 20 = 17) :
    Calls Try.prog 3 #[.int .u8 a0, .int .u8 a1, .bool a2, .float .f64 a3, .int .i32 a4] w fun e w' => e = .returned (.bool true) ∧ Below w.heap.size w w' := by
  go_enter Try.func3, Try.ntmps3
  go_wp2_with (first | (go_at_call 8; refine (build17 _ _ _ _ _ _ h0 h).mono ?_; rintro e w' ⟨v, rfl, ⟨b, rfl, hlt⟩, hb⟩) | (go_at_call 9; (with_reducible refine (acc122 _ _ _).mono ?_); rintro e w2 ⟨rfl, hb2⟩))
  go_ret
  have hz := hb.size
  exact ⟨rfl, (below_step hb2 (by go_grown) (by go_size)).1⟩

theorem case18 (a0 : Int) (a1 : Int) (a2 : Bool) (a3 : Nat) (a4 : Int) (w : World) (h0 : 0 ≤ a0) (h : a0 % 20 = 18) :
    Calls Try.prog 3 #[.int .u8 a0, .int .u8 a1, .bool a2, .float .f64 a3, .int .i32 a4] w fun e w' => e = .returned (.bool true) ∧ Below w.heap.size w w' := by
  go_enter Try.func3, Try.ntmps3
  go_wp2_with (first | (go_at_call 8; refine (build18 _ _ _ _ _ _ h0 h).mono ?_; rintro e w' ⟨v, rfl, ⟨b, y, rfl, hlt, hc⟩, hb⟩) | (go_at_call 9; (with_reducible refine (acc106 _ _ _).mono ?_); rintro e w2 ⟨rfl, hb2⟩))
  go_ret
  have hz := hb.size
  exact ⟨rfl, (below_step hb2 (by go_grown) (by go_size)).1⟩

theorem case19 (a0 : Int) (a1 : Int) (a2 : Bool) (a3 : Nat) (a4 : Int) (w : World) (h0 : 0 ≤ a0) (h : a0 % 20 = 19) :
    Calls Try.prog 3 #[.int .u8 a0, .int .u8 a1, .bool a2, .float .f64 a3, .int .i32 a4] w fun e w' => e = .returned (.bool true) ∧ Below w.heap.size w w' := by
  go_enter Try.func3, Try.ntmps3
  go_wp2_with (first | (go_at_call 8; refine (build19 _ _ _ _ _ _ h0 h).mono ?_; rintro e w' ⟨v, rfl, ⟨b, y, rfl, hlt, hc⟩, hb⟩) | (go_at_call 9; (with_reducible refine (acc110 _ _ _).mono ?_); rintro e w2 ⟨rfl, hb2⟩))
  go_ret
  have hz := hb.size
  exact ⟨rfl, (below_step hb2 (by go_grown) (by go_size)).1⟩

theorem u8_range {a : Int} (h : (Lit.int .u8 a).wf = true) : 0 ≤ a ∧ a ≤ 255 := by
  simpa [Lit.wf, IntKind.min, IntKind.max, IntKind.signed, IntKind.bits] using h
theorem walk (a0 : Int) (a1 : Int) (a2 : Bool) (a3 : Nat) (a4 : Int) (w : World) (w0 : (Lit.int .u8 a0).wf = true) (w1 : (Lit.int .u8 a1).wf = true) (w3 : (Lit.float .f64 a3).wf = true) (w4 : (Lit.int .i32 a4).wf = true) :
    Calls Try.prog 3 #[.int .u8 a0, .int .u8 a1, .bool a2, .float .f64 a3, .int .i32 a4] w fun e w' => e = .returned (.bool true) ∧ Below w.heap.size w w' := by
  have h0 := (u8_range w0).1
  have h : a0 % 20 = 0 ∨ a0 % 20 = 1 ∨ a0 % 20 = 2 ∨ a0 % 20 = 3 ∨ a0 % 20 = 4 ∨ a0 % 20 = 5 ∨ a0 % 20 = 6 ∨ a0 % 20 = 7 ∨ a0 % 20 = 8 ∨ a0 % 20 = 9 ∨ a0 % 20 = 10 ∨ a0 % 20 = 11 ∨ a0 % 20 = 12 ∨ a0 % 20 = 13 ∨ a0 % 20 = 14 ∨ a0 % 20 = 15 ∨ a0 % 20 = 16 ∨ a0 % 20 = 17 ∨ a0 % 20 = 18 ∨ a0 % 20 = 19 := by omega
  rcases h with h | h | h | h | h | h | h | h | h | h | h | h | h | h | h | h | h | h | h | h
  · exact case0 a0 a1 a2 a3 a4 w h0 h
  · exact case1 a0 a1 a2 a3 a4 w h0 h
  · exact case2 a0 a1 a2 a3 a4 w h0 h
  · exact case3 a0 a1 a2 a3 a4 w h0 h
  · exact case4 a0 a1 a2 a3 a4 w h0 h
  · exact case5 a0 a1 a2 a3 a4 w h0 h
  · exact case6 a0 a1 a2 a3 a4 w h0 h
  · exact case7 a0 a1 a2 a3 a4 w h0 h
  · exact case8 a0 a1 a2 a3 a4 w h0 h
  · exact case9 a0 a1 a2 a3 a4 w h0 h
  · exact case10 a0 a1 a2 a3 a4 w h0 h
  · exact case11 a0 a1 a2 a3 a4 w h0 h
  · exact case12 a0 a1 a2 a3 a4 w h0 h
  · exact case13 a0 a1 a2 a3 a4 w h0 h
  · exact case14 a0 a1 a2 a3 a4 w h0 h
  · exact case15 a0 a1 a2 a3 a4 w h0 h
  · exact case16 a0 a1 a2 a3 a4 w h0 h
  · exact case17 a0 a1 a2 a3 a4 w h0 h
  · exact case18 a0 a1 a2 a3 a4 w h0 h
  · exact case19 a0 a1 a2 a3 a4 w h0 h
end Go.Proofs.Ytfbmadlcjpaddaa.fnIsPropertyAccessCaseTable
