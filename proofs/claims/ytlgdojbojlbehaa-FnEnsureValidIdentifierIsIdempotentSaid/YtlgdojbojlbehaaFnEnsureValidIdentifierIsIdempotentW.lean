/-
  The law FnEnsureValidIdentifierIsIdempotent's walk. No condition.
-/
import Derived.Test.YtlgdojbojlbehaaEnsure
namespace Go.Proofs.Ytlgdojbojlbehaa.fnEnsureValidIdentifierIsIdempotent
open Go.ChangeShapes Go.WideShapes Go.ChangeAt Go.RowKit
set_option linter.unusedVariables false

theorem bytes7 (a : ByteArray) (w : World) (ha : a.size ≤ maxLen) :
    Calls Try.prog 7 #[.string a] w fun e w' => ((e = .returned (.bool false)) ∨ (e = .returned (.bool true) ∧ a.size ≤ 1048576)) ∧ w = w' := by
  unfold maxLen at ha
  by_cases h1 : a.size ≤ 1048576
  · go_enter Try.func7, Try.ntmps7
    go_wp2
    go_ret
    exact ⟨.inr ⟨rfl, h1⟩, rfl⟩
  · go_enter Try.func7, Try.ntmps7
    go_wp2
    go_ret
    exact ⟨.inl rfl, rfl⟩
theorem runs_len (s : ByteArray) : ∀ (b pos : Nat) (st : List Nat × Bool), (runs s b pos st).1.length ≤ st.1.length + 2 * b
  | 0, _, st => by simp [runs]
  | b + 1, pos, st => by
    unfold runs
    split
    · have h1 := runs_len s b (pos + (Utf8.decode s pos).2) (step st (Utf8.decode s pos).1)
      have h2 := step_len st (Utf8.decode s pos).1
      omega
    · omega
theorem text_size (s : ByteArray) (hs : s.size ≤ 1048576) : (text (res s)).size ≤ 4194304 := by
  have h := runs_len s s.size 0 ([], false)
  have h2 : (res s).length ≤ 2 * s.size := by
    unfold res
    simpa using h
  unfold text
  split
  · show 1 ≤ _; omega
  · rw [size_list, List.length_map]; omega
set_option maxHeartbeats 1000000 in
theorem walk (a0 : ByteArray) (w : World) (w0 : a0.size ≤ maxLen) :
    Calls Try.prog 4 #[.string a0] w fun e w' => e = .returned (.bool true) ∧ Below w.heap.size w w' := by
  have HB := Lib.hid (bytes7 a0 w w0)
  have HT := Lib.hid (res_text a0)
  unfold maxLen at w0
  go_enter Try.func4, Try.ntmps4
  go_wp2_with (first
    | (go_at_call 7; (with_reducible refine HB.out.mono ?_); rintro _ _ ⟨rfl | ⟨rfl, hs0⟩, rfl⟩)
    | (go_at_call 8; (with_reducible refine (ensure8 a0 (by omega) w).mono ?_); rintro _ wa ⟨rfl, hb1⟩; have h2 := ensure8 (text (res a0)) (text_size a0 hs0) wa; rw [HT.out] at h2; have H2 := Lib.hid h2; clear h2)
    | (go_at_call 8; (with_reducible refine H2.out.mono ?_); rintro _ wb ⟨rfl, hb2⟩))
  · go_ret
    exact ⟨rfl, Below.refl _ _⟩
  · go_ret
    exact ⟨by simp, hb1.trans (hb2.mono hb1.size)⟩
end Go.Proofs.Ytlgdojbojlbehaa.fnEnsureValidIdentifierIsIdempotent
