/-
  MaybeSimplifyNot at some kinds of node. No condition.
-/
import Derived.Test.YtfbmadlcjpaddaaNots
namespace Go.Proofs.Ytfbmadlcjpaddaa
open Go.ChangeShapes Go.WideShapes Go.ChangeAt Go.RowKit
set_option linter.unusedVariables false
set_option linter.unusedSimpArgs false
set_option maxRecDepth 100000 in
set_option maxHeartbeats 2000000 in
theorem ms69w (y : Nat) (l : Int) (T : TypeId) (x : Value) (t : Int) (w : World) (hlt : y < w.heap.size) (h0 : w.cell? ⟨y, 0, none⟩ = some (.iface T x)) (h2 : w.cell? ⟨y, 2, none⟩ = some (.int .u8 3)) (ht : t ≠ 4) (K : ∀ w', Below w.heap.size w w' → Calls Try.prog 11 #[.iface T x] w' (Kn t w')) : Calls Try.prog 13 #[.agg #[.iface 69 (.pointer (some ⟨y, 0, none⟩)), .int .i32 l]] w (MF w) := by
  have HT : Hid (t ≠ 4) := Lib.hid ht
  have HK := Lib.hid K
  have ht4 : (t == 4) = false := by simpa using ht
  clear K ht
  go_enter Try.func13, Try.ntmps13
  go_wp2_with (go_at_call 11; refine (HK.out _ (by go_grown)).mono ?_; rintro e w' ⟨rfl, hb⟩; have zz := hb.size; simp at zz; have zl : w.heap.size + 1 < w'.heap.size := (by omega); have zl0 : w.heap.size < w'.heap.size := (by omega); have hB : Below w.heap.size w w' := (below_step hb (by go_grown) (by go_size)).1; have q0 : w'.cell? ⟨w.heap.size + 1, 0, none⟩ = some .nilIface := (by rw [hb.cell (p := ⟨w.heap.size + 1, 0, none⟩) (by simp)]; simp [go_sem]); have q1 : w'.cell? ⟨w.heap.size + 1, 1, none⟩ = some (.int .i32 0) := (by rw [hb.cell (p := ⟨w.heap.size + 1, 1, none⟩) (by simp)]; simp [go_sem]); have g0 : w'.frozen? ⟨w.heap.size + 1, 0, none⟩ = false := (by rw [hb.frozen (p := ⟨w.heap.size + 1, 0, none⟩) (by simp)]; simp [go_sem]); have g1 : w'.frozen? ⟨w.heap.size + 1, 1, none⟩ = false := (by rw [hb.frozen (p := ⟨w.heap.size + 1, 1, none⟩) (by simp)]; simp [go_sem]))
  all_goals exact bodyPost_ret (by simp [results, Try.results13, go_sem, q0, q1]) rfl ⟨rfl, by go_grown⟩
set_option maxRecDepth 100000 in
set_option maxHeartbeats 2000000 in
theorem ms69i (y : Nat) (l l2 : Int) (z : Nat) (w : World) (hlt : y < w.heap.size) (hz : z < w.heap.size) (h0 : w.cell? ⟨y, 0, none⟩ = some (.iface 69 (.pointer (some ⟨z, 0, none⟩)))) (h1 : w.cell? ⟨y, 1, none⟩ = some (.int .i32 l2)) (h2 : w.cell? ⟨y, 2, none⟩ = some (.int .u8 3)) (h3 : w.cell? ⟨z, 2, none⟩ = some (.int .u8 3)) : Calls Try.prog 13 #[.agg #[.iface 69 (.pointer (some ⟨y, 0, none⟩)), .int .i32 l]] w (fun e w' => e = .returned (.tuple #[.agg #[.iface 69 (.pointer (some ⟨z, 0, none⟩)), .int .i32 l2], .bool true]) ∧ Below w.heap.size w w') := by
  go_enter Try.func13, Try.ntmps13
  go_wp2_with (go_at_call 11; refine (kn69 z _ (((by go_grown : Below w.heap.size w _).cell (p := ⟨z, 2, none⟩) hz).trans h3)).mono ?_; rintro e w' ⟨rfl, hb⟩; have zz := hb.size; simp at zz; have zl : w.heap.size + 1 < w'.heap.size := (by omega); have zl0 : w.heap.size < w'.heap.size := (by omega); have hB : Below w.heap.size w w' := (below_step hb (by go_grown) (by go_size)).1; have q0 : w'.cell? ⟨w.heap.size + 1, 0, none⟩ = some .nilIface := (by rw [hb.cell (p := ⟨w.heap.size + 1, 0, none⟩) (by simp)]; simp [go_sem]); have q1 : w'.cell? ⟨w.heap.size + 1, 1, none⟩ = some (.int .i32 0) := (by rw [hb.cell (p := ⟨w.heap.size + 1, 1, none⟩) (by simp)]; simp [go_sem]); have g0 : w'.frozen? ⟨w.heap.size + 1, 0, none⟩ = false := (by rw [hb.frozen (p := ⟨w.heap.size + 1, 0, none⟩) (by simp)]; simp [go_sem]); have g1 : w'.frozen? ⟨w.heap.size + 1, 1, none⟩ = false := (by rw [hb.frozen (p := ⟨w.heap.size + 1, 1, none⟩) (by simp)]; simp [go_sem]); have r0 : w'.cell? ⟨y, 0, none⟩ = some (.iface 69 (.pointer (some ⟨z, 0, none⟩))) := (hB.cell (p := ⟨y, 0, none⟩) hlt).trans h0; have r1 : w'.cell? ⟨y, 1, none⟩ = some (.int .i32 l2) := (hB.cell (p := ⟨y, 1, none⟩) hlt).trans h1)
  all_goals exact bodyPost_ret (by simp [results, Try.results13, go_sem, q0, q1]) rfl ⟨rfl, by go_grown⟩
end Go.Proofs.Ytfbmadlcjpaddaa
