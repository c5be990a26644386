/-
  A send with room and a receive of what is there: Add at zero, Wait. No condition.
-/
import Derived.Test.YtomkknleagncfaaWg
namespace Go.Proofs.Ytomkknleagncfaa
open Go.ChangeShapes Go.WideShapes Go.ChangeAt Go.RowKit Go.Conc
set_option linter.unusedVariables false

set_option maxRecDepth 100000 in
theorem wait13 (p c : Nat) (n : Int) (s r : Nat) (w : World) (h : TG w p c n #[.agg #[]] s r) :
    Calls Try.prog 13 #[.pointer (some ⟨p, 0, none⟩)] w fun e w' => e = .returned (.tuple #[]) ∧ w' = w.setChan c 1 #[] false s (r + 1) false := by
  obtain ⟨c0, c1, hf⟩ := h.c0
  refine calls_of_loneTo fun cs => ?_
  have e : Frame.enter Try.prog 13 #[.pointer (some ⟨p, 0, none⟩)] .normal = (base 13).at ⟨#[.pointer (some ⟨p, 0, none⟩), undef, undef, undef, undef, undef, undef], []⟩ [.code (Try.f13.body.getD .skip)] := by
    simp [Frame.enter, Frame.at, Try.func13, base, Try.f13]
  rw [e]
  refine LoneTo.goes (n := 5) ?_
  simp only [Try.f13, Option.getD_some]
  s_reg
  s_op
  s_op
  s_op
  s_op
  s_stop
  refine LoneTo.step (step_lone_recv_buf false (c := c) (z := .agg #[]) (stepG_comm (cases := #[rcase c (.agg #[])]) (blocking := true) (shape := .recv false) (w' := w) rfl rfl (by decide) (by simp [go_sem, rcase])) h.ch (by simp)) ?_
  rw [Frame.finish_at]
  simp only [got]
  walk_nrm
  refine LoneTo.goes (n := 2) ?_
  s_c stepG_region_end
  s_c stepG_end
  s_stop
  refine LoneTo.done ⟨.returned (.tuple #[]), _, rfl, ⟨rfl, ?_⟩, rfl, rfl, rfl, rfl, _, Try.func13, by simp [results, Try.f13, Frame.at]⟩
  rfl
set_option maxRecDepth 100000 in
theorem addZero (p c : Nat) (n d : Int) (hz : n + d = 0) (s r : Nat) (w : World) (h : TG w p c n #[] s r) :
    Calls Try.prog 7 #[.pointer (some ⟨p, 0, none⟩), .int .i32 d] w fun e w' => e = .returned (.tuple #[]) ∧ w' = (w.setCell ⟨p, 0, none⟩ (.int .i32 0)).setChan c 1 #[.agg #[]] false (s + 1) r false := by
  obtain ⟨c0, c1, hf⟩ := h.c0
  have hG := h.set 0
  obtain ⟨k0, k1, kf⟩ := hG.c0
  have hadd := run_call_add (f := 18) Try.func18 (by kernel_rfl) (by kernel_rfl) (by kernel_rfl) .i32 (by kernel_rfl) c0 (hf 0) (addI32 n d w (by omega))
  rw [hz] at hadd
  clear hz c0 k0 c1
  refine calls_of_loneTo fun cs => ?_
  have e : Frame.enter Try.prog 7 #[.pointer (some ⟨p, 0, none⟩), .int .i32 d] .normal = (base 7).at ⟨#[.pointer (some ⟨p, 0, none⟩), .int .i32 d, undef, undef, undef, undef, undef, undef, undef, undef, undef, undef, undef, undef, undef, undef, undef, undef, undef, undef], []⟩ [.code (Try.f7.body.getD .skip)] := by
    simp [Frame.enter, Frame.at, Try.func7, base, Try.f7]
  rw [e]
  refine LoneTo.goes (n := 21) ?_
  simp only [Try.f7, Option.getD_some]
  s_c stepG_seq
  s_reg
  s_op
  s_op
  s_op
  s_op
  s_op
  s_op
  s_c stepG_region_end
  s_c stepG_seq
  s_reg
  s_op
  s_op
  s_c stepG_region_end
  s_cond true
  s_reg
  s_op
  s_op
  s_op
  s_op
  s_op
  s_stop
  refine LoneTo.step (step_lone_send_room (c := c) (cap := 1) (buf := #[]) (s := s) (r := r) (tm := false) (stepG_comm (cases := #[scase c (.agg #[]) (.tuple #[])]) (blocking := true) (shape := .send) (w' := (w.setCell ⟨p, 0, none⟩ (.int .i32 0))) rfl rfl (by decide) (by simp [execOp, scase, Act.eval])) hG.ch (by simp)) ?_
  rw [Frame.finish_at]
  walk_nrm
  refine LoneTo.goes (n := 2) ?_
  s_c stepG_region_end
  s_c stepG_end
  s_stop
  refine LoneTo.done ⟨.returned (.tuple #[]), _, rfl, ⟨rfl, ?_⟩, rfl, rfl, rfl, rfl, _, Try.func7, by simp [results, Try.f7, Frame.at]⟩
  rfl
end Go.Proofs.Ytomkknleagncfaa
