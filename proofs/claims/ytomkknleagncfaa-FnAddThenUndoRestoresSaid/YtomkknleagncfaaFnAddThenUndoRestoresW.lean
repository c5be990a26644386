/-
  The law FnAddThenUndoRestores's walk. No condition.
-/
import Derived.Test.YtomkknleagncfaaWg
namespace Go.Proofs.Ytomkknleagncfaa.fnAddThenUndoRestores
open Go.ChangeShapes Go.WideShapes Go.ChangeAt Go.RowKit
set_option linter.unusedVariables false

theorem i32_range {a : Int} (h : (Lit.int .i32 a).wf = true) : -2147483648 ≤ a ∧ a ≤ 2147483647 := by
  simpa [Lit.wf, IntKind.min, IntKind.max, IntKind.signed, IntKind.bits] using h
def NewG (w : World) (e : Ending) (w' : World) : Prop := ∃ p c, e = .returned (.pointer (some ⟨p, 0, none⟩)) ∧ TG w' p c 0 #[] 0 0 ∧ Below w.heap.size w w' ∧ w.heap.size ≤ p
theorem makeG (w : World) : Calls Try.prog 6 #[] w (NewG w) := (make6 w).mono fun e w' ⟨p, c, h1, h2, h3, h4, h5⟩ => ⟨p, c, h1, h2, h3, h4⟩
def Added (n : Int) (p c : Nat) (w : World) (e : Ending) (w' : World) : Prop := e = .returned (.tuple #[]) ∧ TG w' p c n #[] 0 0 ∧ ∀ B, B ≤ p → Below B w w'
theorem addG (p c : Nat) (n d m : Int) (hm : n + d = m) (w : World) (h : TG w p c n #[] 0 0) (h1 : 1 ≤ m) (h2 : m ≤ 2147483647) :
    Calls Try.prog 7 #[.pointer (some ⟨p, 0, none⟩), .int .i32 d] w (Added m p c w) := by
  subst hm
  refine (add7 p c n d #[] 0 0 w h h1 h2).mono fun e w' q => ?_
  obtain ⟨q1, rfl⟩ := q
  exact ⟨q1, h.set _, fun B hB => (Below.refl _ w).setCell (p := ⟨p, 0, none⟩) hB _⟩
set_option maxHeartbeats 1000000 in
theorem walk (a0 : Int) (a1 : Int) (w : World) (w0 : (Lit.int .i32 a0).wf = true) (w1 : (Lit.int .i32 a1).wf = true) :
    Calls Try.prog 3 #[.int .i32 a0, .int .i32 a1] w fun e w' => e = .returned (.bool true) ∧ Below w.heap.size w w' := by
  have r0 := i32_range w0
  have r1 := i32_range w1
  clear w0 w1
  by_cases g : 1 ≤ a0 ∧ 1 ≤ a0 + a1 ∧ a0 + a1 ≤ 2147483647 ∧ a1 ≠ -2147483648
  · obtain ⟨g1, g2, g3, g4⟩ := g
    have g5 : (a1 == -2147483648) = false := by simpa using g4
    obtain ⟨t, ht⟩ : ∃ t, t = a0 + a1 := ⟨_, rfl⟩
    have HT := Lib.hid ht
    clear g4 ht
    go_enter Try.func3, Try.ntmps3
    go_wp2_with (first
      | (go_at_call 6; (with_reducible refine (makeG w).mono ?_); rintro _ wa ⟨p, c, rfl, hG, hb, hp⟩)
      | (go_at_call 7; (with_reducible refine (addG p c 0 a0 a0 (by omega) wa hG (by omega) (by omega)).mono ?_); rintro _ wb ⟨rfl, hG2, hb2⟩)
      | (go_at_call 7; (with_reducible refine (addG p c a0 a1 (a0 + a1) rfl wb hG2 (by omega) (by omega)).mono ?_); rintro _ wc ⟨rfl, hG3, hb3⟩)
      | (go_at_call 8; (with_reducible refine (counter8 p c (a0 + a1) #[] 0 0 wc hG3).mono ?_); rintro _ _ ⟨rfl, rfl⟩)
      | (go_at_call 9; (with_reducible refine (pending9 p c (a0 + a1) #[] 0 0 wc hG3).mono ?_); rintro _ _ ⟨rfl, rfl⟩)
      | (go_at_call 7; (with_reducible refine (addG p c (a0 + a1) (-a1) a0 (by omega) wc hG3 (by omega) (by omega)).mono ?_); rintro _ wd ⟨rfl, hG4, hb4⟩)
      | (go_at_call 8; (with_reducible refine (counter8 p c a0 #[] 0 0 wd hG4).mono ?_); rintro _ _ ⟨rfl, rfl⟩)
      | (go_at_call 9; (with_reducible refine (pending9 p c a0 #[] 0 0 wd hG4).mono ?_); rintro _ _ ⟨rfl, rfl⟩))
    go_ret
    exact ⟨rfl, ((hb.trans (hb2 _ hp)).trans (hb3 _ hp)).trans (hb4 _ hp)⟩
  · go_enter Try.func3, Try.ntmps3
    go_wp2
    all_goals (go_ret; exact ⟨rfl, Below.refl _ _⟩)
end Go.Proofs.Ytomkknleagncfaa.fnAddThenUndoRestores
