/-
  sync.WaitGroup's Add, Done and Wait in one goroutine that never waits. No condition.
-/
import Derived.Test.YtomkknleagncfaaOwn
import Derived.Test.YtomkknleagncfaaProg
import Derived.WalkSmall
import Derived.Laws.LoneSync
import Derived.Conc.LoneCalls
import Derived.Defers
import Derived.LoopN
namespace Go.Proofs.Ytomkknleagncfaa
open Go.ChangeShapes Go.WideShapes Go.ChangeAt Go.RowKit
set_option linter.unusedVariables false

/-- The exits of a body that leaves one deferred call of an entry of the model's, which leaves the memory as it is. -/
def bodyPostE (P : Program) (fn : Func) (R : Ending → World → Prop) : Exit → Act → World → Prop
  | .normal, a, w | .ret, a, w => ∃ f v u, a.defers = [{ target := .fn (.func f) #[], args := #[] }] ∧ (invoke (.fn (.func f) #[]) #[]).run P w = .ok (.value v) w ∧ (results fn a.tmps).run P w = .ok u w ∧ R (.returned u) w
  | _, _, _ => False
theorem step_entry {P : Program} {fr : Frame} {cs : List Frame} {w : World} {f : FuncId} {v : Value} (hm : fr.mode = .returning) (hd : fr.defers = [{ target := .fn (.func f) #[], args := #[] }])
    (hi : (invoke (.fn (.func f) #[]) #[]).run P w = .ok (.value v) w) : step P (lone fr cs w) = .next (lone { fr with defers := [] } cs w) := by
  refine step_lone_go ?_
  simp [stepG, unwind, callDeferred, hm, hd, hi]
theorem calls_of_wp_entry {P : Program} {f : FuncId} {fn : Func} {c : Code} {args : Array Value} {w : World} {R : Ending → World → Prop}
    (hf : P.funcs[f]? = some fn) (hb : fn.body = some c)
    (h : c.wp P (bodyPostE P fn R) { tmps := args ++ Array.replicate (fn.ntmps - args.size) undef, defers := [] } w) : Calls P f args w R := by
  intro cs
  let b : Frame := { (default : Frame) with fn := f, kind := .normal }
  have henter : Frame.enter P f args .normal =
      b.at { tmps := args ++ Array.replicate (fn.ntmps - args.size) undef, defers := [] } [.code c] := by
    simp [Frame.enter, Frame.at, hf, hb, b]
  obtain ⟨e, a', w', hq, harr⟩ := h b [] cs
  rw [← henter] at harr
  cases e with
  | normal =>
    obtain ⟨g, v, u, hd, hi, hr, hR⟩ := hq
    have h1 := step_entry (P := P) (fr := { b.at a' [] with mode := .returning }) (cs := cs) (w := w') rfl hd hi
    exact ⟨.returned u, w', _, hR, Steps.trans harr (Steps.trans (.one step_end) (.one h1)), rfl, rfl, rfl, rfl, fn, hf, hr⟩
  | ret =>
    obtain ⟨g, v, u, hd, hi, hr, hR⟩ := hq
    obtain ⟨todo, hs₀⟩ := harr
    have h1 := step_entry (P := P) (fr := { b.at a' todo with mode := .returning }) (cs := cs) (w := w') rfl hd hi
    exact ⟨.returned u, w', _, hR, Steps.trans hs₀ (.one h1), rfl, rfl, rfl, rfl, fn, hf, hr⟩
  | panic chain => exact hq.elim
  | exit id => exact hq.elim
  | goto l => exact hq.elim
  | outgrown => exact hq.elim

theorem relMerge22 (a : Addr) (w : World) : (callFunc 22 #[.pointer (some a)]).run Try.prog w = .ok (.value (.tuple #[])) w := run_call_marked Try.func22 (by kernel_rfl) (by kernel_rfl) (by kernel_rfl) .releaseMerge (by kernel_rfl) a w
theorem disable23 (w : World) : (callFunc 23 #[]).run Try.prog w = .ok (.value (.tuple #[])) w := run_call_mark0 Try.func23 (by kernel_rfl) (by kernel_rfl) (by kernel_rfl) .disable (by kernel_rfl) w
theorem enable24 (w : World) : (callFunc 24 #[]).run Try.prog w = .ok (.value (.tuple #[])) w := run_call_mark0 Try.func24 (by kernel_rfl) (by kernel_rfl) (by kernel_rfl) .enable (by kernel_rfl) w
theorem read30 (a : Addr) (w : World) : (callFunc 30 #[.pointer (some a)]).run Try.prog w = .ok (.value (.tuple #[])) w := run_call_marked Try.func30 (by kernel_rfl) (by kernel_rfl) (by kernel_rfl) .read (by kernel_rfl) a w
theorem acquire35 (a : Addr) (w : World) : (callFunc 35 #[.pointer (some a)]).run Try.prog w = .ok (.value (.tuple #[])) w := run_call_marked Try.func35 (by kernel_rfl) (by kernel_rfl) (by kernel_rfl) .acquire (by kernel_rfl) a w

theorem bubble25 (w : World) : (callFunc 25 #[]).run Try.prog w = .ok (.value (.bool false)) w := by
  rw [run_callFunc_extern (e := fun _ => pure (.bool false)) Try.func25 (by kernel_rfl) (by kernel_rfl) (by kernel_rfl) (by kernel_rfl)]
  rfl
theorem addU64 (n d s : Int) (w : World) (h : IntKind.u64.wrap (n + d) = s) : (Op.intArith .add .u64 n d).run Try.prog w = .ok (.int .u64 s) w := by
  simp [Op.intArith, h]
theorem uAdd29 (b off : Nat) (n d s : Int) (w : World) (c0 : w.cell? ⟨b, off, none⟩ = some (.int .u64 n)) (hz : w.frozen? ⟨b, off, none⟩ = false) (h : IntKind.u64.wrap (n + d) = s) :
    Calls Try.prog 29 #[.pointer (some ⟨b, off, none⟩), .int .u64 d] w fun e w' => e = .returned (.int .u64 s) ∧ w' = w.setCell ⟨b, off, none⟩ (.int .u64 s) := by
  have hadd := run_call_add (f := 41) Try.func41 (by kernel_rfl) (by kernel_rfl) (by kernel_rfl) .u64 (by kernel_rfl) c0 hz (addU64 n d s w h)
  clear h
  go_enter Try.func29, Try.ntmps29
  go_wp2
  go_ret
  exact ⟨rfl, rfl⟩
theorem uLoad31 (b off : Nat) (n : Int) (w : World) (c0 : w.cell? ⟨b, off, none⟩ = some (.int .u64 n)) :
    Calls Try.prog 31 #[.pointer (some ⟨b, off, none⟩)] w fun e w' => e = .returned (.int .u64 n) ∧ w = w' := by
  have hld := run_call_load (f := 42) Try.func42 (by kernel_rfl) (by kernel_rfl) (by kernel_rfl) .u64 (by kernel_rfl) c0
  go_enter Try.func31, Try.ntmps31
  go_wp2
  go_ret
  exact ⟨rfl, rfl⟩
theorem otherCell (b off : Nat) (v x1 : Value) (w : World) (c1 : w.cell? ⟨b, off + 1, none⟩ = some x1) : (w.setCell ⟨b, off, none⟩ v).cell? ⟨b, off + 1, none⟩ = some x1 := by
  rw [World.cell?_setCell_other _ _ _ _ (by simp)]
  exact c1
set_option maxHeartbeats 4000000 in
set_option maxRecDepth 100000 in
theorem addPos19 (b off : Nat) (x1 : Value) (w : World) (c0 : w.cell? ⟨b, off, none⟩ = some (.int .u64 0)) (c1 : w.cell? ⟨b, off + 1, none⟩ = some x1) (hz : w.frozen? ⟨b, off, none⟩ = false) :
    Calls Try.prog 19 #[.pointer (some ⟨b, off, none⟩), .int .i64 1] w fun e w' => e = .returned (.tuple #[]) ∧ w' = w.setCell ⟨b, off, none⟩ (.int .u64 4294967296) := by
  have h1 := relMerge22
  have h2 := disable23
  have h3 := enable24
  have h4 := read30
  have h5 := bubble25
  have c1' := otherCell b off (.int .u64 4294967296) x1 w c1
  have v1 := run_convert_to_unsafe (P := Try.prog) (src := 64) (dst := 57) (t := 52) (by kernel_rfl) (by kernel_rfl) (by kernel_rfl) c1'
  have hb : bits BinOp.and IntKind.u64 4294967296 2147483647 = 0 := by decide
  refine calls_of_wp_entry Try.func19 rfl ?_
  simp only [Try.ntmps19, List.size_toArray, List.length_cons, List.length_nil, Nat.reduceAdd, Nat.reduceSub, Array.replicate_succ, Array.replicate_zero, List.push_toArray, List.append_toArray, List.nil_append, List.cons_append]
  go_wp2_with (first | (go_at_call 29; (with_reducible refine (uAdd29 b off 0 4294967296 4294967296 w c0 hz (by decide)).mono ?_); rintro _ _ ⟨rfl, rfl⟩))
  all_goals first | exact ⟨24, _, _, rfl, enable24 _, results_none rfl _ _ _, rfl, rfl⟩ | trace_state
  all_goals sorry
set_option maxHeartbeats 4000000 in
set_option maxRecDepth 100000 in
theorem addNeg19 (b off : Nat) (x1 : Value) (w : World) (c0 : w.cell? ⟨b, off, none⟩ = some (.int .u64 4294967296)) (c1 : w.cell? ⟨b, off + 1, none⟩ = some x1) (hz : w.frozen? ⟨b, off, none⟩ = false) :
    Calls Try.prog 19 #[.pointer (some ⟨b, off, none⟩), .int .i64 (-1)] w fun e w' => e = .returned (.tuple #[]) ∧ w' = w.setCell ⟨b, off, none⟩ (.int .u64 0) := by
  have h1 := relMerge22
  have h2 := disable23
  have h3 := enable24
  have h4 := read30
  have h5 := bubble25
  have c1' := otherCell b off (.int .u64 0) x1 w c1
  have v1 := run_convert_to_unsafe (P := Try.prog) (src := 55) (dst := 57) (t := 54) (by kernel_rfl) (by kernel_rfl) (by kernel_rfl) c0
  refine calls_of_wp_entry Try.func19 rfl ?_
  simp only [Try.ntmps19, List.size_toArray, List.length_cons, List.length_nil, Nat.reduceAdd, Nat.reduceSub, Array.replicate_succ, Array.replicate_zero, List.push_toArray, List.append_toArray, List.nil_append, List.cons_append]
  go_wp2_with (first | (go_at_call 29; rw [show IntKind.u64.wrap (IntKind.u64.wrap (-1) * 4294967296) = 18446744069414584320 by decide]; (with_reducible refine (uAdd29 b off 4294967296 18446744069414584320 0 w c0 hz (by decide)).mono ?_); rintro _ _ ⟨rfl, rfl⟩))
  all_goals first | exact ⟨24, _, _, rfl, enable24 _, results_none rfl _ _ _, rfl, rfl⟩ | trace_state
  all_goals sorry
set_option maxHeartbeats 4000000 in
set_option maxRecDepth 100000 in
theorem wait20 (b off : Nat) (x1 : Value) (w : World) (c0 : w.cell? ⟨b, off, none⟩ = some (.int .u64 0)) (c1 : w.cell? ⟨b, off + 1, none⟩ = some x1) :
    Calls Try.prog 20 #[.pointer (some ⟨b, off, none⟩)] w fun e w' => e = .returned (.tuple #[]) ∧ w = w' := by
  have h1 := acquire35
  have h2 := disable23
  have h3 := enable24
  have v1 := run_convert_to_unsafe (P := Try.prog) (src := 55) (dst := 57) (t := 54) (by kernel_rfl) (by kernel_rfl) (by kernel_rfl) c0
  go_enter Try.func20, Try.ntmps20
  go_wp2
  refine wp_loop_rounds 1 ?_
  rw [rounds_succ]
  go_wp2_with (first | (go_at_call 31; (with_reducible refine (uLoad31 b off 0 w c0).mono ?_); rintro _ _ ⟨rfl, rfl⟩))
  all_goals first | (go_end0; exact ⟨rfl, rfl⟩) | (refine bodyPost_ret (results_none rfl _ _ _) rfl ?_; exact ⟨rfl, rfl⟩) | trace_state
  all_goals sorry
end Go.Proofs.Ytomkknleagncfaa
