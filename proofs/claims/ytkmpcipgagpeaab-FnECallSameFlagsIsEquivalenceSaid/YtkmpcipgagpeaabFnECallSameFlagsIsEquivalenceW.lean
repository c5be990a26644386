/-
  What the law FnECallSameFlagsIsEquivalence does, for every input. No condition.
-/
import Derived.Test.YtkmpcipgagpeaabProg
import Derived.Test.YtkmpcipgagpeaabKit
import Derived.Handy
import Derived.WalkLawsBesides
import Derived.Deep.QuietTactic
import Derived.BigQuiet
import Derived.WalkSmall
namespace Go.Proofs.Ytkmpcipgagpeaab.fnECallSameFlagsIsEquivalence
open Go.ChangeShapes Go.WideShapes Go.ChangeAt Go.RowKit
set_option linter.unusedVariables false

/-- The cells of a node's flags. -/
def At (w : World) (b : Nat) (o : Int) (k : Int) (u : Bool) : Prop :=
  w.cell? ⟨b, 4, none⟩ = some (.int .u8 o) ∧ w.cell? ⟨b, 5, none⟩ = some (.int .u8 k) ∧ w.cell? ⟨b, 7, none⟩ = some (.bool u)
def same (o : Int) (k : Int) (u : Bool) (o' : Int) (k' : Int) (u' : Bool) : Bool := (o == o') && (k == k') && (u == u')

theorem has (a b : Nat) (o : Int) (k : Int) (u : Bool) (o' : Int) (k' : Int) (u' : Bool) (w : World) (ha : At w a o k u) (hb : At w b o' k' u') :
    Calls Try.prog 10 #[.pointer (some ⟨a, 0, none⟩), .pointer (some ⟨b, 0, none⟩)] w fun e w' => e = .returned (.bool (same o k u o' k' u')) ∧ ∃ n, w' = w.drewN n := by
  obtain ⟨a0, a1, a2⟩ := ha
  obtain ⟨b0, b1, b2⟩ := hb
  by_cases h0 : (o == o') = true
  · by_cases h1 : (k == k') = true
    · have hs : same o k u o' k' u' = (u == u') := by simp only [same, h0, h1, Bool.true_and, Bool.and_self]
      rw [hs]; clear hs
      go_enter Try.func10, Try.ntmps10
      go_wp2
      go_quiet (fail)
      go_wp2
      go_ret
      exact ⟨rfl, _, rfl⟩
    · have h1 : (k == k') = false := by simpa using h1
      have hs : same o k u o' k' u' = false := by simp only [same, h1, Bool.and_false, Bool.false_and]
      rw [hs]; clear hs
      go_enter Try.func10, Try.ntmps10
      go_wp2
      go_quiet (fail)
      go_wp2
      go_ret
      exact ⟨rfl, _, rfl⟩
  · have h0 : (o == o') = false := by simpa using h0
    have hs : same o k u o' k' u' = false := by simp only [same, h0, Bool.false_and]
    rw [hs]; clear hs
    go_enter Try.func10, Try.ntmps10
    go_wp2
    go_quiet (fail)
    go_wp2
    go_ret
    exact ⟨rfl, _, rfl⟩

theorem has' (W : World) (m : Nat) (a b : Nat) (o : Int) (k : Int) (u : Bool) (o' : Int) (k' : Int) (u' : Bool) (ha : At W a o k u) (hb : At W b o' k' u') :
    Calls Try.prog 10 #[.pointer (some ⟨a, 0, none⟩), .pointer (some ⟨b, 0, none⟩)] (W.drewN m) fun e w' => e = .returned (.bool (same o k u o' k' u')) ∧ ∃ n, w' = W.drewN n :=
  (has a b o k u o' k' u' (W.drewN m) ha hb).mono fun _ _ ⟨h1, n, h2⟩ => ⟨h1, m + n, by rw [h2]; simp [World.drewN, Nat.add_assoc]⟩

theorem same_iff (o : Int) (k : Int) (u : Bool) (o' : Int) (k' : Int) (u' : Bool) : same o k u o' k' u' = true ↔ o = o' ∧ k = k' ∧ u = u' := by
  simp [same, and_assoc]
theorem same_refl (o : Int) (k : Int) (u : Bool) : same o k u o k u = true := by simp [same]
theorem same_symm (o : Int) (k : Int) (u : Bool) (o' : Int) (k' : Int) (u' : Bool) : same o k u o' k' u' = same o' k' u' o k u := by
  rw [Bool.eq_iff_iff, same_iff, same_iff]
  exact ⟨fun ⟨h0, h1, h2⟩ => ⟨h0.symm, h1.symm, h2.symm⟩, fun ⟨h0, h1, h2⟩ => ⟨h0.symm, h1.symm, h2.symm⟩⟩
theorem same_trans (o : Int) (k : Int) (u : Bool) (o' : Int) (k' : Int) (u' : Bool) (o'' : Int) (k'' : Int) (u'' : Bool) (h1 : same o k u o' k' u' = true) (h2 : same o' k' u' o'' k'' u'' = true) : same o k u o'' k'' u'' = true := by
  rw [same_iff] at *
  obtain ⟨p0, p1, p2⟩ := h1
  obtain ⟨q0, q1, q2⟩ := h2
  exact ⟨p0.trans q0, p1.trans q1, p2.trans q2⟩

def obj (x0 : Int) (x1 : Int) (x2 : Bool) (x3 : Bool) : Obj := Obj.cells #[Value.nilIface, Value.int IntKind.i32 0, Value.slice none 0 0, Value.int IntKind.i32 0, Value.int IntKind.u8 x0, Value.int IntKind.u8 x1, Value.bool x3, Value.bool x2] 47
theorem walk (a0 : Int) (a1 : Int) (a2 : Bool) (a3 : Bool) (a4 : Int) (a5 : Int) (a6 : Bool) (a7 : Bool) (a8 : Int) (a9 : Int) (a10 : Bool) (a11 : Bool) (w : World) (w0 : (Lit.int .u8 a0).wf = true) (w1 : (Lit.int .u8 a1).wf = true) (w4 : (Lit.int .u8 a4).wf = true) (w5 : (Lit.int .u8 a5).wf = true) (w8 : (Lit.int .u8 a8).wf = true) (w9 : (Lit.int .u8 a9).wf = true) :
    Calls Try.prog 4 #[.int .u8 a0, .int .u8 a1, .bool a2, .bool a3, .int .u8 a4, .int .u8 a5, .bool a6, .bool a7, .int .u8 a8, .int .u8 a9, .bool a10, .bool a11] w fun e w' => e = .returned (.bool true) ∧ Below w.heap.size w w' := by
  have hA : At (((w.alloc (obj a0 a1 a2 a3)).alloc (obj a4 a5 a6 a7)).alloc (obj a8 a9 a10 a11)) w.heap.size a0 a1 a2 := by simp [At, obj, go_sem]
  have hB : At (((w.alloc (obj a0 a1 a2 a3)).alloc (obj a4 a5 a6 a7)).alloc (obj a8 a9 a10 a11)) (w.heap.size + 1) a4 a5 a6 := by simp [At, obj, go_sem]
  have hC : At (((w.alloc (obj a0 a1 a2 a3)).alloc (obj a4 a5 a6 a7)).alloc (obj a8 a9 a10 a11)) (w.heap.size + 1 + 1) a8 a9 a10 := by simp [At, obj, go_sem]
  have hbel : Below w.heap.size w (((w.alloc (obj a0 a1 a2 a3)).alloc (obj a4 a5 a6 a7)).alloc (obj a8 a9 a10 a11)) := by go_grown
  unfold obj at hA hB hC hbel
  have h1 := same_refl a0 a1 a2
  by_cases h3 : same a0 a1 a2 a4 a5 a6 = true
  · have h3' : same a4 a5 a6 a0 a1 a2 = true := by rw [same_symm]; exact h3
    by_cases h4 : same a4 a5 a6 a8 a9 a10 = true
    · have h5 := same_trans a0 a1 a2 a4 a5 a6 a8 a9 a10 h3 h4
      go_enter Try.func4, Try.ntmps4
      go_wp2_with (first | (go_at_call 9; go_in) | (go_at_call 10; (with_reducible refine (has' _ _ _ _ _ _ _ _ _ _ (by assumption) (by assumption)).mono ?_); rintro e w' ⟨rfl, n, rfl⟩) | (go_at_call 10; (with_reducible refine (has _ _ _ _ _ _ _ _ _ (by assumption) (by assumption)).mono ?_); rintro e w' ⟨rfl, n, rfl⟩))
      go_ret
      exact ⟨rfl, below_drewN hbel _⟩
    · have h4 : same a4 a5 a6 a8 a9 a10 = false := by simpa using h4
      go_enter Try.func4, Try.ntmps4
      go_wp2_with (first | (go_at_call 9; go_in) | (go_at_call 10; (with_reducible refine (has' _ _ _ _ _ _ _ _ _ _ (by assumption) (by assumption)).mono ?_); rintro e w' ⟨rfl, n, rfl⟩) | (go_at_call 10; (with_reducible refine (has _ _ _ _ _ _ _ _ _ (by assumption) (by assumption)).mono ?_); rintro e w' ⟨rfl, n, rfl⟩))
      go_ret
      exact ⟨rfl, below_drewN hbel _⟩
  · have h3 : same a0 a1 a2 a4 a5 a6 = false := by simpa using h3
    have h3' : same a4 a5 a6 a0 a1 a2 = false := by rw [same_symm]; exact h3
    go_enter Try.func4, Try.ntmps4
    go_wp2_with (first | (go_at_call 9; go_in) | (go_at_call 10; (with_reducible refine (has' _ _ _ _ _ _ _ _ _ _ (by assumption) (by assumption)).mono ?_); rintro e w' ⟨rfl, n, rfl⟩) | (go_at_call 10; (with_reducible refine (has _ _ _ _ _ _ _ _ _ (by assumption) (by assumption)).mono ?_); rintro e w' ⟨rfl, n, rfl⟩))
    go_ret
    exact ⟨rfl, below_drewN hbel _⟩
end Go.Proofs.Ytkmpcipgagpeaab.fnECallSameFlagsIsEquivalence
