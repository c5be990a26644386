/-
  FnNoBaseURLPatternPrefixTable holds for every input, fmt's text told: the call returns true and the arguments read as before. No condition.
-/
import Derived.Test.YtlgdojbojlbehaaFmtRows
import Derived.Test.YtlgdojbojlbehaaFmtCards
import Derived.Test.YtlgdojbojlbehaaFmtTie
import Derived.Test.YtlgdojbojlbehaaFmtFnNoBaseURLPatternPrefixTableW
import Derived.Stop.JoinedAt
import Derived.Stop.JoinedTold
import Derived.SevenToldRow
import Derived.SizedLaws
import Derived.Lay
import Derived.PinnedBridge
import Derived.LaidOnce
import Derived.SevenTiedAt
import Derived.LaidMore
namespace Go.Proofs.YtlgdojbojlbehaaFmt.fnNoBaseURLPatternPrefixTable
open Go.ChangeShapes Go.WideShapes Go.ChangeAt Go.RowKit Go.Kit
open Go.ChangeMaps (open_string shut_string)
open Go.Extern.Stop Go.Stop Go.Extern
set_option linter.unusedVariables false

theorem own : ownKnob Tryf.prog.godebug = none := by kernel_rfl
theorem laidOut : laidOutB Tryf.prog = true := by kernel_rfl

set_option maxRecDepth 100000 in
theorem lifted (os : Os) (started : os.Started) (H : Type) (enc : TypeId × Value → H) :
    ReturnsInTold none {} Tryf.checked os 3 .any Input.okWide ((OpenSpec.ofChange Rows.fnNoBaseURLPatternPrefixTableSpec).preRow enc Tryf.prog Tryf.f3 Rows.fnNoBaseURLPatternPrefixTableRow.domain false Rows.fnNoBaseURLPatternPrefixTableRow.laid) (fun F => ((OpenSpec.ofChange Rows.fnNoBaseURLPatternPrefixTableSpec).at F).post enc Tryf.prog Tryf.f3 false true false false) (aloneAtReturn Tryf.prog) nothingAlways := by
  refine returnsInTold_of_row (C := Tryf.checked) (s := (OpenSpec.ofChange Rows.fnNoBaseURLPatternPrefixTableSpec)) (by kernel_rfl) own started (by kernel_rfl) Tryf.func3
    (fun F => ⟨World.laidAll Tryf.prog os Rows.fnNoBaseURLPatternPrefixTableRow.laid, F.over fun _ _ => 0, ⟨#[], #[.string ByteArray.empty], []⟩, World.laidAll_os _ _ _, World.shaped_of_ZipB (by kernel_rfl) (by kernel_rfl), rfl, (Input.okWide_of_okWideB (by kernel_rfl)).2,
      OpenSpec.preRow_of_B rfl 8 (by kernel_rfl) (by kernel_rfl) (by rw [MakeChecks.laidMetH_plain _ _ _ (by kernel_rfl)]; exact laidMet_laidAll _ (by kernel_rfl) (by kernel_rfl)),
      (by simp only [Assume.holds]; exact ⟨by simp, by simp, fun _ => F.over_modest Modest.zero, by simp, by simp⟩), F.over_answers _⟩) ?_
  intro F W base args ds gs before _ hF hval0 hW _ _ hsz _ _
  have hval : ∀ (j : Nat) t v, Tryf.f3.params[j]? = some t → args[j]? = some v → Value.okWide Tryf.prog W .any base t v := hval0
  have hW' := hW
  obtain ⟨p, q, hA0, hV, rfl, hfz, hnd⟩ := hW
  have hA : DataW.TrodAll enc Tryf.prog W 0 (fun _ => true) true Tryf.f3.params.toList args.toList ds p := hA0
  rw [Tryf.params3] at hA hval
  obtain ⟨v0, vs0, d0, ds0, p0, q0, hargs, rfl, rfl, h0, r0⟩ := trodAll_cons hA
  obtain ⟨rfl, rfl, rfl⟩ := trodAll_nil r0
  obtain rfl : args = #[v0] := by cases args; simp_all
  obtain ⟨rfl, rfl⟩ := trodVars_none hV
  obtain ⟨a0, rfl, rfl, rfl, w0⟩ := open_string Tryf.underlying9 (hval 0 9 v0 rfl rfl) h0
  clear hA0 hval0
  refine (walk F a0 W w0 hF).mono fun e W' ⟨he, bel⟩ => ?_
  subst he
  exact ⟨_, rfl, _, _, _, [], _, [], hW', trodAll_mk1 (shut_bool Tryf.underlying4 _), (trodAll_cons_mk (shut_string Tryf.underlying9 w0) trodAll_mk0), rfl, bel.frame _, fun h => by cases h⟩

theorem stops : Tryf.pinned.checked.prog.stops = ["fmt.Sprintf"] := by kernel_rfl
theorem stopKnobs : Tryf.pinned.checked.prog.stopKnobs = [] := by kernel_rfl
theorem quiet (os : Os) : Stop.quiet Tryf.pinned.checked.prog os := by
  intro k hk
  rw [stopKnobs] at hk
  cases hk

theorem proved : Rows.FnNoBaseURLPatternPrefixTableToldSaid :=
  Claim7.holds_of_told_tied_any_at .later (c := Rows.fnNoBaseURLPatternPrefixTableRow) (s := (OpenSpec.ofChange Rows.fnNoBaseURLPatternPrefixTableSpec)) 3 Tryf.f3 "fmt.Sprintf" [] [] Rows.fnNoBaseURLPatternPrefixTableCard.stood.harness Rows.fnNoBaseURLPatternPrefixTableCard.stood.looks Rows.fnNoBaseURLPatternPrefixTableCard.goes Rows.fnNoBaseURLPatternPrefixTableCard.laidKinds true (by kernel_rfl) rfl rfl rfl laidOut (by kernel_rfl) rfl ⟨rfl, rfl, rfl, rfl, rfl, rfl, rfl⟩ rfl rfl (by kernel_rfl) (by kernel_rfl) Tryf.func3 (by kernel_rfl)
    (of_decide_eq_true (by kernel_rfl)) (by unfold Func.isWrapper; first | (rw [if_pos (by decide +kernel)]; kernel_rfl) | (rw [if_neg (by decide +kernel)]; exact ⟨rfl, rfl⟩)) stops.symm rfl stopKnobs.symm (by kernel_rfl)
    (by kernel_rfl) (by kernel_rfl) (by kernel_rfl) (by kernel_rfl) (by kernel_rfl) (by kernel_rfl) (by kernel_rfl) (by kernel_rfl) (by kernel_rfl) rfl (by kernel_rfl) rfl rfl
    rfl rfl
    rfl (by kernel_rfl) (by kernel_rfl) (by kernel_rfl) (by decide) (by kernel_rfl) fnNoBaseURLPatternPrefixTable_row_tie
    (OpenClaim.moreEntering_of (by kernel_rfl) (by kernel_rfl) (by kernel_rfl) (by kernel_rfl) (by kernel_rfl) (by kernel_rfl) (by kernel_rfl) (by kernel_rfl) (by kernel_rfl) (by kernel_rfl))
    ⟨_, WideRow.started_initial, quiet _⟩
    (fun os started _ H enc _ => lifted os started H enc)
#print axioms proved
end Go.Proofs.YtlgdojbojlbehaaFmt.fnNoBaseURLPatternPrefixTable

