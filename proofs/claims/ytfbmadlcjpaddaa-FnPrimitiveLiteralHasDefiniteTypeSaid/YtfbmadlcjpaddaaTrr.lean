/-
  Contracts of the law's small functions on nodes, and of b3IsTree. No condition.
-/
import Derived.Test.YtfbmadlcjpaddaaNds
import Derived.WalkSpells
import Derived.Handy
namespace Go.Proofs.Ytfbmadlcjpaddaa
open Go.ChangeShapes Go.WideShapes Go.ChangeAt Go.RowKit
set_option linter.unusedVariables false

theorem bytes15 (a : Option Addr) (len cap : Nat) (h : len ≤ 9223372036854775807) (w : World) : Calls Try.prog 15 #[.slice a len cap] w fun e w' => (∃ v, e = .returned (.bool v)) ∧ w = w' := by
  by_cases p : len ≤ 1048576
  all_goals
    go_enter Try.func15, Try.ntmps15
    go_wp2_with fail
    go_ret
    exact ⟨⟨_, rfl⟩, rfl⟩
set_option maxHeartbeats 4000000 in
theorem arity36 (k : Int) (hk : 0 ≤ k ∧ k ≤ 255) (w : World) : Calls Try.prog 36 #[.int .u8 k] w fun e w' => (∃ n : Nat, e = .returned (.int .i64 n) ∧ n ≤ 3) ∧ w = w' := by
  have hc : k = 6 ∨ k = 9 ∨ k = 10 ∨ k = 11 ∨ k = 13 ∨ k = 7 ∨ k = 14 ∨ k = 8 ∨ (¬ k = 6 ∧ ¬ k = 9 ∧ ¬ k = 10 ∧ ¬ k = 11 ∧ ¬ k = 13 ∧ ¬ k = 7 ∧ ¬ k = 14 ∧ ¬ k = 8) := by omega
  rcases hc with rfl | rfl | rfl | rfl | rfl | rfl | rfl | rfl | ⟨n1, n2, n3, n4, n5, n6, n7, n8⟩
  · go_enter Try.func36, Try.ntmps36
    go_wp2_with fail
    go_ret
    exact ⟨⟨1, rfl, by omega⟩, rfl⟩
  · go_enter Try.func36, Try.ntmps36
    go_wp2_with fail
    go_ret
    exact ⟨⟨1, rfl, by omega⟩, rfl⟩
  · go_enter Try.func36, Try.ntmps36
    go_wp2_with fail
    go_ret
    exact ⟨⟨1, rfl, by omega⟩, rfl⟩
  · go_enter Try.func36, Try.ntmps36
    go_wp2_with fail
    go_ret
    exact ⟨⟨1, rfl, by omega⟩, rfl⟩
  · go_enter Try.func36, Try.ntmps36
    go_wp2_with fail
    go_ret
    exact ⟨⟨1, rfl, by omega⟩, rfl⟩
  · go_enter Try.func36, Try.ntmps36
    go_wp2_with fail
    go_ret
    exact ⟨⟨2, rfl, by omega⟩, rfl⟩
  · go_enter Try.func36, Try.ntmps36
    go_wp2_with fail
    go_ret
    exact ⟨⟨2, rfl, by omega⟩, rfl⟩
  · go_enter Try.func36, Try.ntmps36
    go_wp2_with fail
    go_ret
    exact ⟨⟨3, rfl, by omega⟩, rfl⟩
  · go_enter Try.func36, Try.ntmps36
    go_wp2_with fail
    go_ret
    exact ⟨⟨0, rfl, by omega⟩, rfl⟩
/-- A node as a value. -/
def nodV (k op : Int) (f : Bool) (c a1 a2 a3 : Int) : Value := .agg #[.int .u8 k, .int .u8 op, .bool f, .int .u8 c, .int .i32 a1, .int .i32 a2, .int .i32 a3]
set_option maxHeartbeats 4000000 in
theorem child37 (k op : Int) (f : Bool) (c a1 a2 a3 j : Int) (w : World) (h1 : -2147483648 ≤ a1 ∧ a1 ≤ 2147483647) (h2 : -2147483648 ≤ a2 ∧ a2 ≤ 2147483647) (h3 : -2147483648 ≤ a3 ∧ a3 ≤ 2147483647) :
    Calls Try.prog 37 #[nodV k op f c a1 a2 a3, .int .i64 j] w fun e w' => (∃ x : Int, e = .returned (.int .i32 x) ∧ -2147483648 ≤ x ∧ x ≤ 2147483647) ∧ Below w.heap.size w w' := by
  have hc : j = 0 ∨ j = 1 ∨ (¬ j = 0 ∧ ¬ j = 1) := by omega
  unfold nodV
  rcases hc with rfl | rfl | ⟨n1, n2⟩
  · go_enter Try.func37, Try.ntmps37
    go_wp2_with fail
    go_ret
    exact ⟨⟨_, rfl, h1.1, h1.2⟩, by go_grown⟩
  · go_enter Try.func37, Try.ntmps37
    go_wp2_with fail
    go_ret
    exact ⟨⟨_, rfl, h2.1, h2.2⟩, by go_grown⟩
  · go_enter Try.func37, Try.ntmps37
    go_wp2_with fail
    go_ret
    exact ⟨⟨_, rfl, h3.1, h3.2⟩, by go_grown⟩
theorem ok38 (n i : Nat) (c : Int) (hn : n ≤ 4096) (hi : i ≤ 4096) (h : -2147483648 ≤ c ∧ c ≤ 2147483647) (b : Bool) (hb : b = decide ((i : Int) < c ∧ c < n)) (w : World) :
    Calls Try.prog 38 #[.int .i64 n, .int .i64 i, .int .i32 c] w fun e w' => e = .returned (.bool b) ∧ w = w' := by
  subst hb
  by_cases h1 : (i : Int) < c
  · by_cases h2 : c < (n : Int)
    · rw [decide_eq_true ⟨h1, h2⟩]
      go_enter Try.func38, Try.ntmps38
      go_wp2_with fail
      go_ret
      exact ⟨by simp <;> omega, rfl⟩
    · rw [decide_eq_false (fun q => h2 q.2)]
      go_enter Try.func38, Try.ntmps38
      go_wp2_with fail
      go_ret
      exact ⟨by simp <;> omega, rfl⟩
  · rw [decide_eq_false (fun q => h1 q.1)]
    go_enter Try.func38, Try.ntmps38
    go_wp2_with fail
    go_ret
    exact ⟨rfl, rfl⟩
/-- The table of used nodes. -/
structure Us (w wr : World) (n : Nat) : Prop where
  below : Below w.heap.size w wr
  size : w.heap.size < wr.heap.size
  free : ∀ j, wr.frozen? ⟨w.heap.size, j, none⟩ = false
  some : ∀ j, j < n → ∃ v, wr.cell? ⟨w.heap.size, j, none⟩ = .some (.bool v)
theorem Us.step {w wr : World} {n j : Nat} (h : Us w wr n) (hj : j < n) : Us w (wr.setCell ⟨w.heap.size, j, none⟩ (.bool true)) n := by
  refine ⟨h.below.setCell (Nat.le_refl _) _, by simpa using h.size, fun i => by simpa using h.free i, fun i hi => ?_⟩
  by_cases e : j = i
  · subst e
    obtain ⟨v, hv⟩ := h.some j hj
    exact ⟨true, World.cell?_setCell_same _ _ _ hv⟩
  · obtain ⟨v, hv⟩ := h.some i hi
    exact ⟨v, by rw [World.cell?_setCell_other _ _ _ _ (by simp)]; exact hv⟩
theorem Us.of_below {w wr w2 : World} {n : Nat} (h : Us w wr n) (hb : Below wr.heap.size wr w2) : Us w w2 n := by
  have hs := h.size
  exact ⟨h.below.trans (hb.mono h.below.size), Nat.lt_of_lt_of_le hs hb.size, fun j => (hb.frozen (p := ⟨w.heap.size, j, none⟩) hs).trans (h.free j), fun j hj => by
    obtain ⟨v, hv⟩ := h.some j hj
    exact ⟨v, (hb.cell (p := ⟨w.heap.size, j, none⟩) hs).trans hv⟩⟩
end Go.Proofs.Ytfbmadlcjpaddaa
