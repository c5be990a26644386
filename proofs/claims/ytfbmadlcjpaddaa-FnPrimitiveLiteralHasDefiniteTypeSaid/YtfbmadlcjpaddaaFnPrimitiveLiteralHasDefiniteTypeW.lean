/-
  The walk of FnPrimitiveLiteralHasDefiniteType. No condition.
-/
import Derived.Test.YtfbmadlcjpaddaaBui
namespace Go.Proofs.Ytfbmadlcjpaddaa.fnPrimitiveLiteralHasDefiniteType
open Go.ChangeShapes Go.WideShapes Go.ChangeAt Go.RowKit
set_option linter.unusedVariables false

set_option maxRecDepth 100000 in
set_option maxHeartbeats 8000000 in
theorem walk (a0 : Option Addr) (len0 cap0 : Nat) (w : World) (w0 : IsNods w a0 len0 cap0) :
    Calls Try.prog 5 #[.slice a0 len0 cap0] w fun e w' => e = .returned (.bool true) ∧ Below w.heap.size w w' := by
  have hm : len0 ≤ maxLen := Nat.le_trans w0.1 w0.2.1
  have H0 := Lib.hid w0
  have H15 := Lib.hid (fun W => bytes15 a0 len0 cap0 (Nat.le_trans hm (by decide)) W)
  clear w0
  by_cases hbig : 4096 < len0
  · go_enter Try.func5, Try.ntmps5
    go_wp2_with (go_at_call 15; (with_reducible refine (H15.out _).mono ?_); rintro _ _ ⟨⟨vb, rfl⟩, rfl⟩; rcases vb with _ | _)
    all_goals
      go_ret
      exact ⟨rfl, by go_grown⟩
  · have hl : len0 ≤ 4096 := by omega
    rcases Nat.eq_zero_or_pos len0 with rfl | h0
    · go_enter Try.func5, Try.ntmps5
      go_wp2_with (go_at_call 15; (with_reducible refine (H15.out _).mono ?_); rintro _ _ ⟨⟨vb, rfl⟩, rfl⟩; rcases vb with _ | _)
      all_goals
        go_ret
        exact ⟨rfl, by go_grown⟩
    · go_enter Try.func5, Try.ntmps5
      go_wp2_with (first
        | (go_at_call 15; (with_reducible refine (H15.out _).mono ?_); rintro _ _ ⟨⟨vb, rfl⟩, rfl⟩; rcases vb with _ | _)
        | (go_at_call 16; (with_reducible refine (tree16 a0 len0 cap0 _ H0.out hl h0).mono ?_); rintro _ wt ⟨⟨tb, rfl⟩, hbt⟩; have HT := Lib.hid hbt; clear hbt; rcases tb with _ | _)
        | (go_at_call 17; (with_reducible refine (clone17 a0 len0 cap0 _ (H0.out.below HT.out) hl h0).mono ?_); rintro _ wc ⟨rfl, hnc, hbc⟩; have HC := Lib.hid hnc; have HBC := Lib.hid (HT.out.trans (hbc.mono HT.out.size)); clear hnc hbc)
        | (go_at_call 18; (with_reducible refine (build18 _ len0 _ _ HC.out hl h0).mono ?_); rintro _ wb ⟨rfl, hbd⟩; have HBD := Lib.hid hbd.out; have HBB := Lib.hid (HBC.out.trans (hbd.below.mono HBC.out.size)); clear hbd))
      · go_ret
        exact ⟨rfl, by go_grown⟩
      · go_ret
        exact ⟨rfl, HT.out⟩
      · go_loopw [4] (fun i wr => ∃ k : Nat, k ≤ len0 ∧ i = .int .i64 k ∧ wr = wb) (fun i _ => len0 - (jOf i).toNat)
        case atStart => exact ⟨0, Nat.zero_le _, rfl, rfl⟩
        case round =>
          obtain ⟨k, hk, rfl, rfl⟩ := hrel
          by_cases hlt : k < len0
          · obtain ⟨v, l, e0, _, g⟩ := HBD.out.cell k hlt
            obtain ⟨p, t, rt, hlit⟩ := g.lit
            have L := hlit _ (Kx.refl _ _)
            have L19 := Lib.hid L.prim
            have L11 := Lib.hid L.kind
            have L20 := Lib.hid (is20 t rt)
            have hn := Lib.hid g.nif
            have lt := HBD.out.lt
            clear L hlit g
            rcases hn.out with rfl | ⟨T, y, rfl⟩
            all_goals
              cases p
              · clear L11
                go_wp2_with (go_at_call 19; (with_reducible refine (L19.out).mono ?_); rintro _ _ ⟨rfl, rfl⟩)
                refine ⟨⟨k + 1, by omega, by go_num, ?_⟩, by simp [jOf]; omega⟩
                first | trivial | rfl
              · have K11 := Lib.hid (L11.out rfl)
                clear L11
                go_wp2_with (first
                  | (go_at_call 19; (with_reducible refine (L19.out).mono ?_); rintro _ _ ⟨rfl, rfl⟩)
                  | (go_at_call 11; (with_reducible refine (K11.out).mono ?_); rintro _ _ ⟨rfl, rfl⟩)
                  | (go_at_call 20; (with_reducible refine (L20.out _).mono ?_); rintro _ _ ⟨rfl, rfl⟩))
                refine ⟨⟨k + 1, by omega, by go_num, ?_⟩, by simp [jOf]; omega⟩
                first | trivial | rfl
          · have : k = len0 := by omega
            subst this
            go_wp2_with fail
            go_ret
            exact ⟨rfl, HBB.out⟩
end Go.Proofs.Ytfbmadlcjpaddaa.fnPrimitiveLiteralHasDefiniteType
