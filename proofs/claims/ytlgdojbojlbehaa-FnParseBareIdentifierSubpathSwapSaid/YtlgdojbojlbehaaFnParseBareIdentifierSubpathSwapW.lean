/-
  The law FnParseBareIdentifierSubpathSwap's walk. No condition.
-/
import Derived.Test.YtlgdojbojlbehaaBare
namespace Go.Proofs.Ytlgdojbojlbehaa.fnParseBareIdentifierSubpathSwap
open Go.ChangeShapes Go.WideShapes Go.ChangeAt Go.RowKit
set_option linter.unusedVariables false

theorem bytes5 (a b : ByteArray) (w : World) (ha : a.size ≤ maxLen) (hb : b.size ≤ maxLen) :
    Calls Try.prog 5 #[.string a, .string b] w fun e w' => ((e = .returned (.bool false)) ∨ (e = .returned (.bool true) ∧ a.size ≤ 1048576 ∧ b.size ≤ 1048576)) ∧ w = w' := by
  unfold maxLen at ha hb
  by_cases h1 : a.size ≤ 1048576
  · by_cases h2 : b.size ≤ 1048576
    · by_cases h3 : a.size + b.size ≤ 1048576
      · go_enter Try.func5, Try.ntmps5
        go_wp2
        go_ret
        exact ⟨.inr ⟨rfl, h1, h2⟩, rfl⟩
      · go_enter Try.func5, Try.ntmps5
        go_wp2
        go_ret
        exact ⟨.inl rfl, rfl⟩
    · go_enter Try.func5, Try.ntmps5
      go_wp2
      go_ret
      exact ⟨.inl rfl, rfl⟩
  · go_enter Try.func5, Try.ntmps5
    go_wp2
    go_ret
    exact ⟨.inl rfl, rfl⟩
theorem size_le_of {s I : ByteArray} (h : identOf s = some I) : I.size ≤ s.size := by
  unfold identOf at h
  split at h
  · split at h
    · cases h
    · split at h
      · cases h; exact Nat.le_refl _
      · cases h; rw [← len_tl, Lib.extract_data, ← len_tl]; simp; omega
  · split at h
    · cases h; exact Nat.le_refl _
    · cases h; rw [← len_tl, Lib.extract_data, ← len_tl]; simp; omega
theorem app_list (I T : ByteArray) : (I ++ ⟨#[47]⟩ ++ T).data.toList = I.data.toList ++ 47 :: T.data.toList := by simp
theorem app_size (I T : ByteArray) : (I ++ ⟨#[47]⟩ ++ T).size = I.size + 1 + T.size := by rw [← len_tl, app_list, ← len_tl, ← len_tl]; simp; omega
theorem again {s I T : ByteArray} (h : identOf s = some I) : identOf (I ++ ⟨#[47]⟩ ++ T) = some I := ident_good (good_of h) (app_list I T)
theorem path_eq (I T : ByteArray) : (I ++ ⟨#[47]⟩ ++ T).extract I.size (I ++ ⟨#[47]⟩ ++ T).size = ⟨#[47]⟩ ++ T := by
  refine ba_ext ?_
  rw [Lib.extract_to_end, app_list, ← len_tl, List.drop_left]
  simp
theorem parseAgain {s I : ByteArray} (h : identOf s = some I) (T : ByteArray) (hs : s.size ≤ 1048576) (hT : T.size ≤ 1048576) (w : World) :
    Calls Try.prog 6 #[.string (I ++ ⟨#[47]⟩ ++ T)] w fun e w' => e = .returned (.tuple #[.string I, .string (⟨#[47]⟩ ++ T), .bool true]) ∧ w = w' := by
  have := size_le_of h
  refine (parse6 _ (by rw [app_size]; omega) w).mono ?_
  rintro e w' ⟨I', M, ok, rfl, h1, h2, rfl⟩
  refine ⟨?_, rfl⟩
  cases ok
  · have := h2 rfl
    rw [again h] at this
    cases this
  · obtain ⟨q1, q2⟩ := h1 rfl
    rw [again h] at q1
    cases q1
    rw [q2, path_eq]
theorem add_ok (a b : ByteArray) (h : a.size + b.size ≤ 8000000) (W : World) : (Op.stringOp .add a b).run Try.prog W = .ok (.string (a ++ b)) W := run_string_add W a b (by omega) (by omega)
theorem add1 {s I : ByteArray} (h : identOf s = some I) (hs : s.size ≤ 1048576) (W : World) : (Op.stringOp .add I ⟨#[47]⟩).run Try.prog W = .ok (.string (I ++ ⟨#[47]⟩)) W := add_ok _ _ (by have := size_le_of h; show I.size + 1 ≤ _; omega) W
theorem add2 {s I : ByteArray} (h : identOf s = some I) (T : ByteArray) (hs : s.size ≤ 1048576) (hT : T.size ≤ 1048576) (W : World) : (Op.stringOp .add (I ++ ⟨#[47]⟩) T).run Try.prog W = .ok (.string (I ++ ⟨#[47]⟩ ++ T)) W := add_ok _ _ (by have := size_le_of h; rw [ByteArray.size_append]; show I.size + 1 + T.size ≤ _; omega) W
theorem add3 (T : ByteArray) (hT : T.size ≤ 1048576) (W : World) : (Op.stringOp .add ⟨#[47]⟩ T).run Try.prog W = .ok (.string (⟨#[47]⟩ ++ T)) W := add_ok _ _ (by show 1 + T.size ≤ _; omega) W
set_option maxHeartbeats 1000000 in
theorem walk (a0 : ByteArray) (a1 : ByteArray) (w : World) (w0 : a0.size ≤ maxLen) (w1 : a1.size ≤ maxLen) :
    Calls Try.prog 3 #[.string a0, .string a1] w fun e w' => e = .returned (.bool true) ∧ Below w.heap.size w w' := by
  have HB := Lib.hid (bytes5 a0 a1 w w0 w1)
  unfold maxLen at w0 w1
  go_enter Try.func3, Try.ntmps3
  go_wp2_with (first
    | (go_at_call 5; (with_reducible refine HB.out.mono ?_); rintro _ _ ⟨rfl | ⟨rfl, hs0, hs1⟩, rfl⟩)
    | (go_at_call 6; (with_reducible refine (parse6 a0 (by omega) w).mono ?_); rintro _ _ ⟨I, M, ok, rfl, h1, h2, rfl⟩; cases ok <;> first | (obtain ⟨hI, rfl⟩ := h1 rfl; have HI := Lib.hid hI; have q1 := add1 hI hs0; have q2 := add2 hI a1 hs0 hs1; have q3 := add3 a1 hs1; clear h1 h2 hI) | clear h1 h2)
    | (go_at_call 6; (with_reducible refine (parseAgain HI.out a1 hs0 hs1 w).mono ?_); rintro _ _ ⟨rfl, rfl⟩))
  all_goals (go_ret; exact ⟨by first | rfl | simp, Below.refl _ _⟩)
end Go.Proofs.Ytlgdojbojlbehaa.fnParseBareIdentifierSubpathSwap
