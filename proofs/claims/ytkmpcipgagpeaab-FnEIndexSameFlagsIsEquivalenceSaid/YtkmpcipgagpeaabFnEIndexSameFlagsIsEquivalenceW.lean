/-
  What the law FnEIndexSameFlagsIsEquivalence does, for every input. No condition.
-/
import Derived.Test.YtkmpcipgagpeaabProg
import Derived.Test.YtkmpcipgagpeaabKit
import Derived.Handy
import Derived.WalkLawsBesides
import Derived.Deep.QuietTactic
import Derived.BigQuiet
import Derived.WalkSmall
namespace Go.Proofs.Ytkmpcipgagpeaab.fnEIndexSameFlagsIsEquivalence
open Go.ChangeShapes Go.WideShapes Go.ChangeAt Go.RowKit
set_option linter.unusedVariables false

/-- The cells of a node's flags. -/
def At (w : World) (b : Nat) (o : Int) (r : Bool) (u : Bool) (s : Bool) : Prop :=
  w.cell? ⟨b, 5, none⟩ = some (.int .u8 o) ∧ w.cell? ⟨b, 6, none⟩ = some (.bool r) ∧ w.cell? ⟨b, 7, none⟩ = some (.bool u) ∧ w.cell? ⟨b, 8, none⟩ = some (.bool s)
def same (o : Int) (r : Bool) (u : Bool) (s : Bool) (o' : Int) (r' : Bool) (u' : Bool) (s' : Bool) : Bool := (o == o') && (r == r') && (u == u') && (s == s')

theorem has (a b : Nat) (o : Int) (r : Bool) (u : Bool) (s : Bool) (o' : Int) (r' : Bool) (u' : Bool) (s' : Bool) (w : World) (ha : At w a o r u s) (hb : At w b o' r' u' s') :
    Calls Try.prog 12 #[.pointer (some ⟨a, 0, none⟩), .pointer (some ⟨b, 0, none⟩)] w fun e w' => e = .returned (.bool (same o r u s o' r' u' s')) ∧ ∃ n, w' = w.drewN n := by
  obtain ⟨a0, a1, a2, a3⟩ := ha
  obtain ⟨b0, b1, b2, b3⟩ := hb
  by_cases h0 : (o == o') = true
  · by_cases h1 : (r == r') = true
    · by_cases h2 : (u == u') = true
      · have hs : same o r u s o' r' u' s' = (s == s') := by simp only [same, h0, h1, h2, Bool.true_and, Bool.and_self]
        rw [hs]; clear hs
        go_enter Try.func12, Try.ntmps12
        go_wp2
        go_quiet (fail)
        go_wp2
        go_ret
        exact ⟨rfl, _, rfl⟩
      · have h2 : (u == u') = false := by simpa using h2
        have hs : same o r u s o' r' u' s' = false := by simp only [same, h2, Bool.and_false, Bool.false_and]
        rw [hs]; clear hs
        go_enter Try.func12, Try.ntmps12
        go_wp2
        go_quiet (fail)
        go_wp2
        go_ret
        exact ⟨rfl, _, rfl⟩
    · have h1 : (r == r') = false := by simpa using h1
      have hs : same o r u s o' r' u' s' = false := by simp only [same, h1, Bool.and_false, Bool.false_and]
      rw [hs]; clear hs
      go_enter Try.func12, Try.ntmps12
      go_wp2
      go_quiet (fail)
      go_wp2
      go_ret
      exact ⟨rfl, _, rfl⟩
  · have h0 : (o == o') = false := by simpa using h0
    have hs : same o r u s o' r' u' s' = false := by simp only [same, h0, Bool.false_and]
    rw [hs]; clear hs
    go_enter Try.func12, Try.ntmps12
    go_wp2
    go_quiet (fail)
    go_wp2
    go_ret
    exact ⟨rfl, _, rfl⟩

theorem has' (W : World) (m : Nat) (a b : Nat) (o : Int) (r : Bool) (u : Bool) (s : Bool) (o' : Int) (r' : Bool) (u' : Bool) (s' : Bool) (ha : At W a o r u s) (hb : At W b o' r' u' s') :
    Calls Try.prog 12 #[.pointer (some ⟨a, 0, none⟩), .pointer (some ⟨b, 0, none⟩)] (W.drewN m) fun e w' => e = .returned (.bool (same o r u s o' r' u' s')) ∧ ∃ n, w' = W.drewN n :=
  (has a b o r u s o' r' u' s' (W.drewN m) ha hb).mono fun _ _ ⟨h1, n, h2⟩ => ⟨h1, m + n, by rw [h2]; simp [World.drewN, Nat.add_assoc]⟩

theorem same_iff (o : Int) (r : Bool) (u : Bool) (s : Bool) (o' : Int) (r' : Bool) (u' : Bool) (s' : Bool) : same o r u s o' r' u' s' = true ↔ o = o' ∧ r = r' ∧ u = u' ∧ s = s' := by
  simp [same, and_assoc]
theorem same_refl (o : Int) (r : Bool) (u : Bool) (s : Bool) : same o r u s o r u s = true := by simp [same]
theorem same_symm (o : Int) (r : Bool) (u : Bool) (s : Bool) (o' : Int) (r' : Bool) (u' : Bool) (s' : Bool) : same o r u s o' r' u' s' = same o' r' u' s' o r u s := by
  rw [Bool.eq_iff_iff, same_iff, same_iff]
  exact ⟨fun ⟨h0, h1, h2, h3⟩ => ⟨h0.symm, h1.symm, h2.symm, h3.symm⟩, fun ⟨h0, h1, h2, h3⟩ => ⟨h0.symm, h1.symm, h2.symm, h3.symm⟩⟩
theorem same_trans (o : Int) (r : Bool) (u : Bool) (s : Bool) (o' : Int) (r' : Bool) (u' : Bool) (s' : Bool) (o'' : Int) (r'' : Bool) (u'' : Bool) (s'' : Bool) (h1 : same o r u s o' r' u' s' = true) (h2 : same o' r' u' s' o'' r'' u'' s'' = true) : same o r u s o'' r'' u'' s'' = true := by
  rw [same_iff] at *
  obtain ⟨p0, p1, p2, p3⟩ := h1
  obtain ⟨q0, q1, q2, q3⟩ := h2
  exact ⟨p0.trans q0, p1.trans q1, p2.trans q2, p3.trans q3⟩

def obj (x0 : Int) (x1 : Bool) (x2 : Bool) (x3 : Bool) : Obj := Obj.cells #[Value.nilIface, Value.int IntKind.i32 0, Value.nilIface, Value.int IntKind.i32 0, Value.int IntKind.i32 0, Value.int IntKind.u8 x0, Value.bool x1, Value.bool x2, Value.bool x3] 49
theorem walk (a0 : Int) (a1 : Bool) (a2 : Bool) (a3 : Bool) (a4 : Int) (a5 : Bool) (a6 : Bool) (a7 : Bool) (a8 : Int) (a9 : Bool) (a10 : Bool) (a11 : Bool) (w : World) (w0 : (Lit.int .u8 a0).wf = true) (w4 : (Lit.int .u8 a4).wf = true) (w8 : (Lit.int .u8 a8).wf = true) :
    Calls Try.prog 5 #[.int .u8 a0, .bool a1, .bool a2, .bool a3, .int .u8 a4, .bool a5, .bool a6, .bool a7, .int .u8 a8, .bool a9, .bool a10, .bool a11] w fun e w' => e = .returned (.bool true) ∧ Below w.heap.size w w' := by
  have hA : At (((w.alloc (obj a0 a1 a2 a3)).alloc (obj a4 a5 a6 a7)).alloc (obj a8 a9 a10 a11)) w.heap.size a0 a1 a2 a3 := by simp [At, obj, go_sem]
  have hB : At (((w.alloc (obj a0 a1 a2 a3)).alloc (obj a4 a5 a6 a7)).alloc (obj a8 a9 a10 a11)) (w.heap.size + 1) a4 a5 a6 a7 := by simp [At, obj, go_sem]
  have hC : At (((w.alloc (obj a0 a1 a2 a3)).alloc (obj a4 a5 a6 a7)).alloc (obj a8 a9 a10 a11)) (w.heap.size + 1 + 1) a8 a9 a10 a11 := by simp [At, obj, go_sem]
  have hbel : Below w.heap.size w (((w.alloc (obj a0 a1 a2 a3)).alloc (obj a4 a5 a6 a7)).alloc (obj a8 a9 a10 a11)) := by go_grown
  unfold obj at hA hB hC hbel
  have h1 := same_refl a0 a1 a2 a3
  by_cases h3 : same a0 a1 a2 a3 a4 a5 a6 a7 = true
  · have h3' : same a4 a5 a6 a7 a0 a1 a2 a3 = true := by rw [same_symm]; exact h3
    by_cases h4 : same a4 a5 a6 a7 a8 a9 a10 a11 = true
    · have h5 := same_trans a0 a1 a2 a3 a4 a5 a6 a7 a8 a9 a10 a11 h3 h4
      go_enter Try.func5, Try.ntmps5
      go_wp2_with (first | (go_at_call 11; go_in) | (go_at_call 12; (with_reducible refine (has' _ _ _ _ _ _ _ _ _ _ _ _ (by assumption) (by assumption)).mono ?_); rintro e w' ⟨rfl, n, rfl⟩) | (go_at_call 12; (with_reducible refine (has _ _ _ _ _ _ _ _ _ _ _ (by assumption) (by assumption)).mono ?_); rintro e w' ⟨rfl, n, rfl⟩))
      go_ret
      exact ⟨rfl, below_drewN hbel _⟩
    · have h4 : same a4 a5 a6 a7 a8 a9 a10 a11 = false := by simpa using h4
      go_enter Try.func5, Try.ntmps5
      go_wp2_with (first | (go_at_call 11; go_in) | (go_at_call 12; (with_reducible refine (has' _ _ _ _ _ _ _ _ _ _ _ _ (by assumption) (by assumption)).mono ?_); rintro e w' ⟨rfl, n, rfl⟩) | (go_at_call 12; (with_reducible refine (has _ _ _ _ _ _ _ _ _ _ _ (by assumption) (by assumption)).mono ?_); rintro e w' ⟨rfl, n, rfl⟩))
      go_ret
      exact ⟨rfl, below_drewN hbel _⟩
  · have h3 : same a0 a1 a2 a3 a4 a5 a6 a7 = false := by simpa using h3
    have h3' : same a4 a5 a6 a7 a0 a1 a2 a3 = false := by rw [same_symm]; exact h3
    go_enter Try.func5, Try.ntmps5
    go_wp2_with (first | (go_at_call 11; go_in) | (go_at_call 12; (with_reducible refine (has' _ _ _ _ _ _ _ _ _ _ _ _ (by assumption) (by assumption)).mono ?_); rintro e w' ⟨rfl, n, rfl⟩) | (go_at_call 12; (with_reducible refine (has _ _ _ _ _ _ _ _ _ _ _ (by assumption) (by assumption)).mono ?_); rintro e w' ⟨rfl, n, rfl⟩))
    go_ret
    exact ⟨rfl, below_drewN hbel _⟩
end Go.Proofs.Ytkmpcipgagpeaab.fnEIndexSameFlagsIsEquivalence
