/-
  A message's place and data. No condition.
-/
import Derived.Test.YtlgdojbojlbehaaFmtLt
namespace Go.Proofs.YtlgdojbojlbehaaFmt
open Go.ChangeShapes Go.WideShapes Go.ChangeAt Go.RowKit
open Go.MuLone
set_option linter.unusedVariables false

set_option maxRecDepth 100000 in
set_option maxHeartbeats 4000000 in
theorem loc38 (T : Nat) (w : World) (h : Bk w T 72 (trkCells false)) : Calls Tryf.prog 38 #[.pointer (some ⟨T, 0, none⟩), .agg #[.int .i32 0, .int .i32 0]] w fun e w' => ∃ lo, e = .returned (.pointer lo) ∧ Fr (fun k => k = T) w w' := by
  have hb0 : Below w.heap.size w (w.alloc (.cells #[.int .i32 0, .int .i32 0] 69)) := by go_grown
  have hl := h.lt
  have hl1 : T < w.heap.size + 1 := by omega
  have hA := h.alloc (.cells #[.int .i32 0, .int .i32 0] 69)
  have HS := Lib.hid (line47 T _ hA)
  have c9 : w.cell? ⟨T, 9, none⟩ = some (.bool true) := h.cell 9
  have hr := Bk.mk w 69 #[.int .i32 0, .int .i32 0]
  clear h hA
  go_enter Tryf.func38, Tryf.ntmps38
  go_wp2_with fail
  refine HS.out.mono ?_
  rintro _ w1 ⟨rfl, hT, hF⟩
  have hr1 := hr.fr hF (by omega)
  have HF := Lib.hid ((Fr.ofBelow' (S := fun k => k = T) hb0 (fun k h1 h2 => absurd h1 (by omega))).trans hF)
  have c0 : w1.cell? ⟨T, 0, none⟩ = some (.string ⟨#[]⟩) := hT.cell 0
  have c1 : w1.cell? ⟨T, 1, none⟩ = some (.string ⟨#[]⟩) := hT.cell 1
  have c2 : w1.cell? ⟨T, 2, none⟩ = some (.string ⟨#[]⟩) := hT.cell 2
  have r0 : w1.cell? ⟨w.heap.size, 0, none⟩ = some (.int .i32 0) := hr1.cell 0
  have r1 : w1.cell? ⟨w.heap.size, 1, none⟩ = some (.int .i32 0) := hr1.cell 1
  clear hT hF hr hr1 HS c9
  go_wp2_with fail
  refine wp_region_still_tail 18 (by kernel_rfl) (by kernel_rfl) ?_
  simp only [List.take_succ_cons, List.take_zero, List.drop_succ_cons, List.drop_zero]
  change wpStill _ _ (World.drew _) (fun a' => wpList _ _ _ _ a' (World.drew _)) _ _
  still_step
  still_step
  still_step
  still_step
  still_step
  still_step
  still_step
  still_step
  still_step
  still_step
  still_step
  still_step
  still_step
  still_step
  still_step
  still_step
  still_step
  still_step
  refine wpStill_nil ?_
  go_wp2_with fail
  go_ret
  exact ⟨_, rfl, HF.out.drew.alloc _⟩
set_option maxRecDepth 100000 in
set_option maxHeartbeats 4000000 in
theorem msgData (T : Nat) (t : ByteArray) (w : World) (h : Bk w T 72 (trkCells false)) : Calls Tryf.prog 27 #[.pointer (some ⟨T, 0, none⟩), .agg #[.int .i32 0, .int .i32 0], .string t] w fun e w' => ∃ lo, e = .returned (.agg #[.nilIface, .pointer lo, .string t, .bool false]) ∧ Fr (fun k => k = T) w w' := by
  have hl := h.lt
  have e1 : ∀ (W : World) (o : Obj), (W.alloc o).heap.size = W.heap.size + 1 := fun W o => by simp
  have hb0 : Below w.heap.size w ((w.alloc (.cells #[.int .i32 0, .int .i32 0] 69)).alloc (.cells #[.nilIface, .pointer none, .string ⟨#[]⟩, .bool false] 63)) := by go_grown
  have hA := (h.alloc (.cells #[.int .i32 0, .int .i32 0] 69)).alloc (.cells #[.nilIface, .pointer none, .string ⟨#[]⟩, .bool false] 63)
  have HS := Lib.hid (loc38 T _ hA)
  have hbk := Bk.mk (w.alloc (.cells #[.int .i32 0, .int .i32 0] 69)) 63 #[.nilIface, .pointer none, .string ⟨#[]⟩, .bool false]
  rw [e1] at hbk
  clear h hA e1
  go_enter Tryf.func27, Tryf.ntmps27
  go_wp2_with fail
  refine HS.out.mono ?_
  rintro _ w1 ⟨lo, rfl, hF⟩
  have hbk1 := hbk.fr hF (by omega)
  have HF := Lib.hid ((Fr.ofBelow' (S := fun k => k = T) hb0 (fun k h1 h2 => absurd h1 (by omega))).trans hF)
  have c0 : w1.cell? ⟨w.heap.size + 1, 0, none⟩ = some .nilIface := hbk1.cell 0
  have c1 : w1.cell? ⟨w.heap.size + 1, 1, none⟩ = some (.pointer none) := hbk1.cell 1
  have c2 : w1.cell? ⟨w.heap.size + 1, 2, none⟩ = some (.string ⟨#[]⟩) := hbk1.cell 2
  have c3 : w1.cell? ⟨w.heap.size + 1, 3, none⟩ = some (.bool false) := hbk1.cell 3
  have f0 := hbk1.free 0
  have f1 := hbk1.free 1
  have f2 := hbk1.free 2
  have f3 := hbk1.free 3
  have hsn := fun (W : World) (a : Addr) (m : Mode) => run_store Tryf.prog W a .nilIface m rfl
  clear hbk hbk1 hF HS
  go_wp2_with fail
  refine bodyPost_ret (v := .agg #[.nilIface, .pointer lo, .string t, .bool false]) (by simp [results, Tryf.results27, go_sem, World.cell?_setCell_other, World.cell?_setCell_same _ _ _ c0, World.cell?_setCell_same _ _ _ c1, World.cell?_setCell_same _ _ _ c2, World.cell?_setCell_same _ _ _ c3, c0, c1, c2, c3]) rfl ?_
  have hne : w.heap.size + 1 < w.heap.size → w.heap.size + 1 = T := fun h => absurd h (by omega)
  exact ⟨lo, rfl, (((HF.out.setCell (p := ⟨w.heap.size + 1, 0, none⟩) hne _).setCell (p := ⟨w.heap.size + 1, 1, none⟩) hne _).setCell (p := ⟨w.heap.size + 1, 2, none⟩) hne _).setCell (p := ⟨w.heap.size + 1, 3, none⟩) hne _⟩
end Go.Proofs.YtlgdojbojlbehaaFmt
