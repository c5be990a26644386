/-
  A message added to the log; a flush. No condition.
-/
import Derived.Test.YteamfcjfoihehaaGreatDoorLg
import Derived.Laws.EntriesVeiled
import Derived.Conc.MuLone
import Derived.Deep.QuietTactic
import Derived.BigQuiet
namespace Go.Proofs.YteamfcjfoihehaaGreatDoor
open Go.ChangeShapes Go.WideShapes Go.ChangeAt Go.RowKit
open Go.MuLone
set_option linter.unusedVariables false

theorem info48 : (Tryz.prog.info? 48).map (fun i => (i.zero, i.size, i.bytes)) = some (some (.agg #[.slice none 0 0, .string ByteArray.empty, .nilIface, .pointer none, .string ByteArray.empty, .bool false, .int .u8 0, .int .u8 0]), 8, 96) := by kernel_rfl
/-- A message's eight cells. -/
def msg (nv : Value) (what : ByteArray) : List Value := [nv, .string ⟨#[]⟩, .nilIface, .pointer none, .string what, .bool false, .int .u8 4, .int .u8 0]
theorem lookNil (w : World) : (Instr.lookup 57 (.map none) (.int .u8 0) true).run Tryz.prog w = .ok (.tuple #[.int .i8 0, .bool false]) w := by kernel_rfl
set_option maxRecDepth 100000 in
theorem allow (w : World) : Calls Tryz.prog 30 #[.map none, .int .u8 0, .int .u8 4] w fun e w' => e = .returned (.tuple #[.int .u8 4, .bool true]) ∧ w = w' := by
  have hl := lookNil
  go_enter Tryz.func30, Tryz.ntmps30
  go_wp2
  go_ret2
  exact ⟨rfl, rfl⟩
set_option maxRecDepth 100000 in
theorem locNil (w : World) : Calls Tryz.prog 42 #[.pointer none, .agg #[.int .i32 0, .int .i32 0]] w fun e w' => e = .returned (.pointer none) ∧ Below w.heap.size w w' := by
  go_enter Tryz.func42, Tryz.ntmps42
  go_wp2
  go_ret
  exact ⟨rfl, by go_grown⟩
set_option maxRecDepth 100000 in
theorem msgData (t : ByteArray) (w : World) : Calls Tryz.prog 31 #[.pointer none, .agg #[.int .i32 0, .int .i32 0], .string t] w fun e w' => e = .returned (.agg #[.nilIface, .pointer none, .string t, .bool false]) ∧ Below w.heap.size w w' := by
  go_enter Tryz.func31, Tryz.ntmps31
  go_wp2_with fail
  refine (locNil _).mono ?_
  rintro _ w1 ⟨rfl, hb⟩
  have hbk := (Bk.mk (w.alloc (.cells #[.int .i32 0, .int .i32 0] 73)) 45 #[.nilIface, .pointer none, .string ⟨#[]⟩, .bool false]).below hb (by simp)
  have e : (w.alloc (.cells #[.int .i32 0, .int .i32 0] 73)).heap.size = w.heap.size + 1 := by simp
  rw [e] at hbk
  have c0 : w1.cell? ⟨w.heap.size + 1, 0, none⟩ = some .nilIface := hbk.cell 0
  have c1 : w1.cell? ⟨w.heap.size + 1, 1, none⟩ = some (.pointer none) := hbk.cell 1
  have c2 : w1.cell? ⟨w.heap.size + 1, 2, none⟩ = some (.string ⟨#[]⟩) := hbk.cell 2
  have c3 : w1.cell? ⟨w.heap.size + 1, 3, none⟩ = some (.bool false) := hbk.cell 3
  have f0 := hbk.free 0
  have f1 := hbk.free 1
  have f2 := hbk.free 2
  have f3 := hbk.free 3
  have hsn := fun (W : World) (a : Addr) (m : Mode) => run_store Tryz.prog W a .nilIface m rfl
  have h1 : Below w.heap.size w w1 := (((Below.refl _ w).alloc (Nat.le_refl _) _).alloc (by simp) _).trans (hb.mono (by simp; omega))
  have HB := Lib.hid h1
  clear hb hbk e h1
  go_wp2_with fail
  refine bodyPost_ret (v := .agg #[.nilIface, .pointer none, .string t, .bool false]) (by simp [results, Tryz.results31, go_sem, World.cell?_setCell_other, World.cell?_setCell_same _ _ _ c0, World.cell?_setCell_same _ _ _ c1, World.cell?_setCell_same _ _ _ c2, World.cell?_setCell_same _ _ _ c3, c0, c1, c2, c3]) rfl ?_
  have hle : w.heap.size ≤ w.heap.size + 1 := Nat.le_succ _
  exact ⟨rfl, (((HB.out.setCell (p := ⟨w.heap.size + 1, 0, none⟩) hle _).setCell (p := ⟨w.heap.size + 1, 1, none⟩) hle _).setCell (p := ⟨w.heap.size + 1, 2, none⟩) hle _).setCell (p := ⟨w.heap.size + 1, 3, none⟩) hle _⟩
end Go.Proofs.YteamfcjfoihehaaGreatDoor
