/-
  The line tracker over an empty text. No condition.
-/
import Derived.Test.YtlgdojbojlbehaaFmtLa
import Derived.Deep.QuietTactic
import Derived.BigQuiet
import Derived.RegionTactic
import Derived.StillTailTactics
namespace Go.Proofs.YtlgdojbojlbehaaFmt
open Go.ChangeShapes Go.WideShapes Go.ChangeAt Go.RowKit
open Go.MuLone
set_option linter.unusedVariables false

theorem lookNil (w : World) : (Instr.lookup 31 (.map none) (.int .u8 66) true).run Tryf.prog w = .ok (.tuple #[.int .i8 0, .bool false]) w := by kernel_rfl
set_option maxRecDepth 100000 in
theorem allow (w : World) : Calls Tryf.prog 26 #[.map none, .int .u8 66, .int .u8 1] w fun e w' => e = .returned (.tuple #[.int .u8 1, .bool true]) ∧ w = w' := by
  have hl := lookNil
  go_enter Tryf.func26, Tryf.ntmps26
  go_wp2
  go_ret2
  exact ⟨rfl, rfl⟩
/-- An empty source. -/
def srcCells : Array Value := #[.string ⟨#[]⟩, .string ⟨#[]⟩, .string ⟨#[]⟩, .string ⟨#[]⟩, .string ⟨#[]⟩, .string ⟨#[]⟩, .string ⟨#[]⟩, .string ⟨#[]⟩, .int .u8 0, .int .u32 0]
def trkCells (le : Bool) : Array Value := #[.string ⟨#[]⟩, .string ⟨#[]⟩, .string ⟨#[]⟩, .int .i32 0, .int .i32 0, .int .i32 0, .int .i32 0, .bool true, .bool le, .bool true]
set_option maxRecDepth 100000 in
set_option maxHeartbeats 4000000 in
theorem range19 (S : Nat) (w : World) (h : Bk w S 45 srcCells) : Calls Tryf.prog 19 #[.pointer (some ⟨S, 0, none⟩), .agg #[.int .i32 0]] w fun e w' => e = .returned (.agg #[.int .i32 0, .int .i32 0]) ∧ Below w.heap.size w w' := by
  have c3 : w.cell? ⟨S, 3, none⟩ = some (.string ⟨#[]⟩) := h.cell 3
  have hl := h.lt
  have hl1 : S < w.heap.size + 1 := by omega
  have hl2 : S < w.heap.size + 1 + 1 := by omega
  clear h
  go_enter Tryf.func19, Tryf.ntmps19
  go_wp2_with fail
  go_quiet (fail)
  go_wp2_with fail
  refine bodyPost_ret (v := .agg #[.int .i32 0, .int .i32 0]) (by simp [results, Tryf.results19, go_sem]) rfl ?_
  have hb : Below w.heap.size w ((w.alloc (.cells #[.int .i32 0] 50)).alloc (.cells #[.int .i32 0, .int .i32 0] 69)) := by go_grown
  have hb1 : Below w.heap.size w (((w.alloc (.cells #[.int .i32 0] 50)).alloc (.cells #[.int .i32 0, .int .i32 0] 69)).drewN nq) := ⟨hb.os, hb.tape, hb.output, hb.size, hb.block⟩
  exact ⟨rfl, (hb1.setCell (p := ⟨w.heap.size + 1, 0, none⟩) (Nat.le_succ _) _).setCell (p := ⟨w.heap.size + 1, 1, none⟩) (Nat.le_succ _) _⟩
set_option maxRecDepth 100000 in
set_option maxHeartbeats 4000000 in
theorem make20 (S : Nat) (w : World) (h : Bk w S 45 srcCells) : Calls Tryf.prog 20 #[.pointer (some ⟨S, 0, none⟩)] w fun e w' => e = .returned (.agg (trkCells false)) ∧ Below w.heap.size w w' := by
  have c0 : w.cell? ⟨S, 0, none⟩ = some (.string ⟨#[]⟩) := h.cell 0
  have c1 : w.cell? ⟨S, 1, none⟩ = some (.string ⟨#[]⟩) := h.cell 1
  have c3 : w.cell? ⟨S, 3, none⟩ = some (.string ⟨#[]⟩) := h.cell 3
  have hl := h.lt
  have hl1 : S < w.heap.size + 1 := by omega
  clear h
  go_enter Tryf.func20, Tryf.ntmps20
  go_wp2_with fail
  refine wp_region_still_tail 9 (by kernel_rfl) (by kernel_rfl) ?_
  simp only [List.take_succ_cons, List.take_zero, List.drop_succ_cons, List.drop_zero]
  change wpStill _ _ (World.drew _) (fun a' => wpList _ _ _ _ a' (World.drew _)) _ _
  still_step
  still_step
  still_step
  still_step
  still_step
  still_step
  still_step
  still_step
  still_step
  refine wpStill_nil ?_
  go_wp2_with fail
  refine bodyPost_ret (v := .agg (trkCells false)) (by simp [results, Tryf.results20, go_sem, trkCells]) rfl ?_
  exact ⟨rfl, by go_grown⟩
set_option maxRecDepth 100000 in
theorem scan49 (T : Nat) (w : World) (h : Bk w T 72 (trkCells false)) : Calls Tryf.prog 49 #[.pointer (some ⟨T, 0, none⟩), .int .i32 0] w fun e w' => e = .returned (.tuple #[]) ∧ w = w' := by
  have c0 : w.cell? ⟨T, 0, none⟩ = some (.string ⟨#[]⟩) := h.cell 0
  have c3 : w.cell? ⟨T, 3, none⟩ = some (.int .i32 0) := h.cell 3
  clear h
  go_enter Tryf.func49, Tryf.ntmps49
  go_wp2_with fail
  go_end0
  exact ⟨rfl, rfl⟩
set_option maxRecDepth 100000 in
set_option maxHeartbeats 4000000 in
theorem line47 (T : Nat) (w : World) (h : Bk w T 72 (trkCells false)) : Calls Tryf.prog 47 #[.pointer (some ⟨T, 0, none⟩), .int .i64 0] w fun e w' => e = .returned (.tuple #[.int .i64 0, .int .i64 0, .int .i64 0, .int .i64 0]) ∧ Bk w' T 72 (trkCells true) ∧ Fr (fun k => k = T) w w' := by
  have HS := Lib.hid (scan49 T w h)
  have HB := Lib.hid ((h.set 8 (.bool true)).set 6 (.int .i32 0))
  have c0 : w.cell? ⟨T, 0, none⟩ = some (.string ⟨#[]⟩) := h.cell 0
  have c3 : w.cell? ⟨T, 3, none⟩ = some (.int .i32 0) := h.cell 3
  have c4 : w.cell? ⟨T, 4, none⟩ = some (.int .i32 0) := h.cell 4
  have c5 : w.cell? ⟨T, 5, none⟩ = some (.int .i32 0) := h.cell 5
  have c6 : w.cell? ⟨T, 6, none⟩ = some (.int .i32 0) := h.cell 6
  have c7 : w.cell? ⟨T, 7, none⟩ = some (.bool true) := h.cell 7
  have c8 : w.cell? ⟨T, 8, none⟩ = some (.bool false) := h.cell 8
  have f6 := h.free 6
  have f8 := h.free 8
  clear h
  go_enter Tryf.func47, Tryf.ntmps47
  go_wp2_with fail
  refine HS.out.mono ?_
  rintro _ _ ⟨rfl, rfl⟩
  go_wp2_with fail
  go_loopw [13] (fun i wr => i = .int .i32 0 ∧ w = wr) (fun _ _ => 0)
  case atStart => exact ⟨rfl, rfl⟩
  case round =>
    obtain ⟨rfl, rfl⟩ := hrel
    go_wp2_with fail
    go_quiet (fail)
    go_wp2_with fail
    refine bodyPost_ret (v := .tuple #[.int .i64 0, .int .i64 0, .int .i64 0, .int .i64 0]) (by simp [results, Tryf.results47, go_sem]) rfl ?_
    exact ⟨rfl, HB.out, (((Fr.refl (fun k => k = T) w).setCell (p := ⟨T, 8, none⟩) (fun _ => rfl) _).setCell (p := ⟨T, 6, none⟩) (fun _ => rfl) _).drewN nq⟩
end Go.Proofs.YtlgdojbojlbehaaFmt
