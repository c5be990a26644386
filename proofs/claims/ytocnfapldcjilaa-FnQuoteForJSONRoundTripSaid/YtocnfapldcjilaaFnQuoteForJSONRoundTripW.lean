/-
  The walk of FnQuoteForJSONRoundTrip. No condition.
-/
import Derived.Test.YtocnfapldcjilaaJq
import Derived.Test.YtocnfapldcjilaaJu
import Derived.Test.YtocnfapldcjilaaJv
namespace Go.Proofs.Ytocnfapldcjilaa.fnQuoteForJSONRoundTrip
open Go.ChangeShapes Go.WideShapes Go.ChangeAt Go.RowKit
set_option linter.unusedVariables false

theorem bytes14 (a : ByteArray) (b : Bool) (w : World) (ha : a.size ≤ maxLen) :
    Calls Try.prog 14 #[.string a, .bool b] w fun e w' => ((e = .returned (.bool false)) ∨ (e = .returned (.bool true) ∧ a.size ≤ 1048576)) ∧ w = w' := by
  unfold maxLen at ha
  by_cases h1 : a.size ≤ 1048576
  · go_enter Try.func14, Try.ntmps14
    go_wp2
    go_ret
    exact ⟨.inr ⟨rfl, h1⟩, rfl⟩
  · go_enter Try.func14, Try.ntmps14
    go_wp2
    go_ret
    exact ⟨.inl rfl, rfl⟩
theorem quote16 (s : ByteArray) (cs : List Nat) (a : Bool) (hs : s.size ≤ 1048576) (hp : Pts s cs) (w : World) :
    Calls Try.prog 16 #[.string s, .bool a] w fun e w' => ∃ v, e = .returned v ∧ Hid (Row w.heap.size v ((34 :: outs a cs) ++ [34]) w') ∧ Below w.heap.size w w' := by
  have H24 := Lib.hid (quote24 s cs a hs hp w)
  go_enter Try.func16, Try.ntmps16
  go_wp2_with (go_at_call 24; (with_reducible refine H24.out.mono ?_); rintro _ w3 ⟨v2, rfl, hr, hb⟩; have HR := Lib.hid hr; clear hr)
  go_ret
  exact ⟨v2, rfl, HR, hb⟩
theorem unq17r (v : Value) (s : ByteArray) (cs : List Nat) (a : Bool) (hs : s.size ≤ 1048576) (hp : Pts s cs) (B0 : Nat) (w : World) (hr : Row B0 v ((34 :: outs a cs) ++ [34]) w) :
    Calls Try.prog 17 #[v, .int .u8 34, .bool a] w fun e w' => ∃ v', e = .returned (.tuple #[v', .bool true]) ∧ Hid (OwnB w.heap.size 5 v' s.data.toList w') ∧ Below w.heap.size w w' := by
  obtain ⟨g, cap, rfl, hB, hlt, hc⟩ := hr.form (by simp)
  have hl := outs_len a cs
  have hsz : (cs.flatMap encN).length = s.size := by rw [← hp.2, nb_len]
  have hva := vals_all a cs
  refine (unq17 g _ cap ((34 :: outs a cs) ++ [34]) (cs.flatMap (toks a)) a w rfl rfl (by rw [List.length_append, List.length_cons]; simp only [List.length_cons, List.length_nil]; omega) ⟨hlt, hc⟩ (oks_all a cs hp.1) (by rw [hva]; omega)).mono ?_
  rintro e w' ⟨v', rfl, hown, hb⟩
  refine ⟨v', rfl, Lib.hid ?_, hb⟩
  rw [hva, ← hp.2, by8_nb] at hown
  exact hown
set_option maxRecDepth 100000 in
set_option maxHeartbeats 4000000 in
theorem walk (a0 : ByteArray) (a1 : Bool) (w : World) (w0 : a0.size ≤ maxLen) :
    Calls Try.prog 4 #[.string a0, .bool a1] w fun e w' => e = .returned (.bool true) ∧ Below w.heap.size w w' := by
  have H14 := fun W => Lib.hid (bytes14 a0 a1 W w0)
  by_cases hbig : a0.size ≤ 1048576
  · have H15 := fun W => Lib.hid (valid15 a0 (by omega) W)
    clear w0
    go_enter Try.func4, Try.ntmps4
    go_wp2_with (first
      | (go_at_call 14; (with_reducible refine (H14 _).out.mono ?_); rintro _ _ ⟨rfl | ⟨rfl, _⟩, rfl⟩)
      | (go_at_call 15; (with_reducible refine (H15 _).out.mono ?_); rintro _ _ ⟨rfl | ⟨rfl, cs, hp⟩, rfl⟩))
    · go_ret
      exact ⟨rfl, by go_grown⟩
    · go_ret
      exact ⟨rfl, by go_grown⟩
    · have HP := Lib.hid hp
      clear hp
      go_wp2_with (first
        | (go_at_call 16; (with_reducible refine (quote16 a0 cs a1 hbig HP.out _).mono ?_); rintro _ w3 ⟨v2, rfl, HR, hb⟩; have HB3 := Lib.hid hb; clear hb)
        | (go_at_call 17; (with_reducible refine (unq17r _ a0 cs a1 hbig HP.out _ _ HR.out).mono ?_); rintro _ w4 ⟨v4, rfl, HO, hb⟩; have HB4 := Lib.hid (HB3.out.trans (hb.mono HB3.out.size)); clear hb; have hcv := HO.out.text Try.prog 23 9 Try.underlying23 Try.underlying5 Try.underlying9))
      go_ret
      exact ⟨rfl, HB4.out⟩
  · clear H14
    have H14 := Lib.hid (bytes14 a0 a1 w w0)
    unfold maxLen at w0
    go_enter Try.func4, Try.ntmps4
    go_wp2_with (go_at_call 14; (with_reducible refine (H14).out.mono ?_); rintro _ _ ⟨rfl | ⟨rfl, _⟩, rfl⟩)
    all_goals
      go_ret
      exact ⟨rfl, by go_grown⟩
end Go.Proofs.Ytocnfapldcjilaa.fnQuoteForJSONRoundTrip
