/-
  The small functions of quoting and reading back. No condition.
-/
import Derived.Test.YtocnfapldcjilaaJp
import Derived.Test.YtocnfapldcjilaaOwn
import Derived.Test.YtocnfapldcjilaaOg
import Derived.Test.YtocnfapldcjilaaProg
import Derived.WalkSmall
namespace Go.Proofs.Ytocnfapldcjilaa
open Go.ChangeShapes Go.WideShapes Go.ChangeAt Go.RowKit
set_option linter.unusedVariables false

set_option maxRecDepth 100000 in
set_option maxHeartbeats 2000000 in
theorem can30 (c : Nat) (a : Bool) (hc : c ≤ 1114111) (w : World) :
    Calls Try.prog 30 #[.int .i32 (c : Int), .bool a] w fun e w' => e = .returned (.bool (can a c)) ∧ w = w' := by
  go_enter Try.func30, Try.ntmps30
  by_cases h : c ≤ 126
  · have e : can a c = (decide (32 ≤ c) && decide (c ≠ 92) && decide (c ≠ 34)) := by unfold can; rw [if_pos h]
    rw [e]
    clear e
    by_cases h1 : 32 ≤ c
    · by_cases h2 : c = 92
      · subst h2
        go_wp2
        go_ret
        exact ⟨rfl, rfl⟩
      · by_cases h3 : c = 34
        · subst h3
          go_wp2
          go_ret
          exact ⟨rfl, rfl⟩
        · have c1 : ((c : Int) != 92) = true := by simp; omega
          have c2 : ((c : Int) != 34) = true := by simp; omega
          rw [decide_eq_true h1, decide_eq_true h2, decide_eq_true h3]
          go_wp2
          go_ret
          exact ⟨rfl, rfl⟩
    · rw [decide_eq_false h1]
      go_wp2
      go_ret
      exact ⟨rfl, rfl⟩
  · have e : can a c = (!a && decide (c ≠ 65279) && (decide (c < 55296) || decide (57343 < c))) := by unfold can; rw [if_neg h]
    have HE := Lib.hid e
    clear e
    cases a
    · by_cases h2 : c = 65279
      · subst h2
        rw [show can false 65279 = false from rfl]
        go_wp2
        go_ret
        exact ⟨rfl, rfl⟩
      · have c1 : ((c : Int) != 65279) = true := by simp; omega
        by_cases h3 : c < 55296
        · have ev : can false c = true := by rw [HE.out, decide_eq_true h2, decide_eq_true h3]; rfl
          rw [ev]
          clear ev HE
          go_wp2
          go_ret
          exact ⟨rfl, rfl⟩
        · by_cases h4 : 57343 < c
          · have ev : can false c = true := by rw [HE.out, decide_eq_true h2, decide_eq_true h4]; simp
            rw [ev]
            clear ev HE
            go_wp2
            go_ret
            exact ⟨congrArg (fun b => Ending.returned (Value.bool b)) (show (decide ((c : Int) < 55296) || decide (57343 < (c : Int))) = true by simp; omega), rfl⟩
          · have ev : can false c = false := by rw [HE.out, decide_eq_false h3, decide_eq_false h4]; simp
            rw [ev]
            clear ev HE
            go_wp2
            go_ret
            exact ⟨congrArg (fun b => Ending.returned (Value.bool b)) (show (decide ((c : Int) < 55296) || decide (57343 < (c : Int))) = false by simp; omega), rfl⟩
    · have ev : can true c = false := by rw [HE.out]; rfl
      rw [ev]
      clear ev HE
      go_wp2
      go_ret
      exact ⟨rfl, rfl⟩
set_option maxRecDepth 100000 in
set_option maxHeartbeats 2000000 in
/-- A hexadecimal digit of ours. -/
theorem hex33 (k : Nat) (hk : k < 16) (w : World) :
    Calls Try.prog 33 #[.int .u8 (hexU k : Int)] w fun e w' => e = .returned (.int .i32 (k : Int)) ∧ w = w' := by
  unfold hexU
  split
  · go_enter Try.func33, Try.ntmps33
    go_wp2
    go_ret
    exact ⟨congrArg (fun z => Ending.returned (Value.int .i32 z)) (show 48 + (k : Int) - 48 = k by omega), rfl⟩
  · go_enter Try.func33, Try.ntmps33
    go_wp2
    go_ret
    exact ⟨congrArg (fun z => Ending.returned (Value.int .i32 z)) (show 55 + (k : Int) - 65 + 10 = k by omega), rfl⟩
def twos : List (Nat × Nat) := [(98, 8), (102, 12), (110, 10), (114, 13), (116, 9), (92, 92), (34, 34)]
set_option maxRecDepth 100000 in
set_option maxHeartbeats 2000000 in
theorem two25 (e s : Nat) (h : (e, s) ∈ twos) (w : World) :
    Calls Try.prog 25 #[.int .u8 (e : Int)] w fun q w' => q = .returned (.tuple #[.int .u8 (s : Int), .bool true]) ∧ w = w' := by
  simp only [twos, List.mem_cons, Prod.mk.injEq, List.not_mem_nil, or_false] at h
  rcases h with ⟨rfl, rfl⟩ | ⟨rfl, rfl⟩ | ⟨rfl, rfl⟩ | ⟨rfl, rfl⟩ | ⟨rfl, rfl⟩ | ⟨rfl, rfl⟩ | ⟨rfl, rfl⟩
  all_goals
    go_enter Try.func25, Try.ntmps25
    go_wp2
    go_ret2
    exact ⟨rfl, rfl⟩
set_option maxRecDepth 100000 in
set_option maxHeartbeats 2000000 in
theorem two25u (w : World) :
    Calls Try.prog 25 #[.int .u8 117] w fun q w' => q = .returned (.tuple #[.int .u8 0, .bool false]) ∧ w = w' := by
  go_enter Try.func25, Try.ntmps25
  go_wp2
  go_ret2
  exact ⟨rfl, rfl⟩
end Go.Proofs.Ytocnfapldcjilaa
