/-
  zzItoa of 0, 1, 2; the keyed array. No condition.
-/
import Derived.Test.YtnflgpcbdjkpfaaKeys
import Derived.Lib.SlBytesRow
import Derived.Deep.RegionHeld3
namespace Go.Proofs.Ytnflgpcbdjkpfaa
open Go.ChangeShapes Go.WideShapes Go.ChangeAt Go.RowKit
set_option linter.unusedVariables false

def ent (t : ByteArray) : Array Value := #[.string t, .slice none 0 0, .slice none 0 0, .slice none 0 0, .int .i32 0, .int .i32 0, .int .u8 1]
def kent (x t : ByteArray) : Array Value := #[.string x, .string t, .slice none 0 0, .slice none 0 0, .slice none 0 0, .int .i32 0, .int .i32 0, .int .u8 1, .int .i32 0, .int .i32 0]
theorem entry16 (t : ByteArray) (w : World) :
    Calls Try.prog 16 #[.string t] w fun e w' => e = .returned (.agg (ent t)) ∧ Below w.heap.size w w' := by
  go_enter Try.func16, Try.ntmps16
  go_wp2
  refine bodyPost_ret (by simp [results, Try.results16, go_sem]; rfl) rfl ⟨rfl, by go_grown⟩
set_option maxHeartbeats 1000000 in
theorem entry15 (x t : ByteArray) (w : World) :
    Calls Try.prog 15 #[.string x, .agg (ent t)] w fun e w' => e = .returned (.agg (kent x t)) ∧ Below w.heap.size w w' := by
  unfold ent
  go_enter Try.func15, Try.ntmps15
  go_wp2
  refine bodyPost_ret (by simp [results, Try.results15, go_sem]; rfl) rfl ⟨rfl, by go_grown⟩
theorem info82 : (Try.prog.info? 82).map (fun i => (i.size, i.bytes)) = some (24, 24) := by kernel_rfl
set_option maxHeartbeats 1000000 in
theorem itoa0 (w : World) : Calls Try.prog 17 #[.int .i64 0] w fun e w' => (∃ t, e = .returned (.string t)) ∧ Below w.heap.size w w' := by
  go_enter Try.func17, Try.ntmps17
  go_wp2
  go_ret
  exact ⟨⟨_, rfl⟩, Below.refl _ _⟩
theorem lit24 (w : World) : Own (w.alloc (.cells #[.int .u8 0, .int .u8 0, .int .u8 0, .int .u8 0, .int .u8 0, .int .u8 0, .int .u8 0, .int .u8 0, .int .u8 0, .int .u8 0, .int .u8 0, .int .u8 0, .int .u8 0, .int .u8 0, .int .u8 0, .int .u8 0, .int .u8 0, .int .u8 0, .int .u8 0, .int .u8 0, .int .u8 0, .int .u8 0, .int .u8 0, .int .u8 0] 82)) w.heap.size 24 (fun _ => .int .u8 0) := by
  have h := Own.made w 24 (.int .u8 0) 82
  rwa [show madeCells #[Value.int .u8 0] 24 = _ from Array.toList_inj.1 (toList_madeCells_one (.int .u8 0) 24)] at h
def arr (xs : Nat → Nat) : ByteArray := ⟨(Array.range 24).map fun q => UInt8.ofNat (xs q)⟩
theorem arr_bytes {w : World} {B : Nat} {xs : Nat → Nat} (h : Own w B 24 (fun q => .int .u8 (xs q))) (hx : ∀ q, xs q < 256) : Lib.Bytes w B 0 (arr xs) := fun i hi => by
  have hi' : i < 24 := by simpa [arr, ByteArray.size] using hi
  have h2 : (arr xs)[i] = UInt8.ofNat (xs i) := by
    show (arr xs).data[i]'_ = _
    simp [arr]
  have := hx i
  rw [Nat.zero_add, h.cell i hi', h2]
  congr 2
  simp; omega
set_option maxHeartbeats 1000000 in
theorem itoa1 (w : World) : Calls Try.prog 17 #[.int .i64 1] w fun e w' => (∃ t, e = .returned (.string t)) ∧ Below w.heap.size w w' := by
  have H0 := Lib.hid (lit24 w)
  go_enter Try.func17, Try.ntmps17
  go_wp2
  go_loopw [0, 4] (fun a p wr => (∃ xs : Nat → Nat, (∀ q, xs q < 256) ∧ Own wr w.heap.size 24 (fun q => .int .u8 (xs q))) ∧ Below w.heap.size w wr ∧ ((a = .int .i64 1 ∧ p = .int .i64 24) ∨ (a = .int .i64 0 ∧ p = .int .i64 23))) (fun a _ _ => (intOf a).toNat)
  case atStart => exact ⟨⟨fun _ => 0, fun _ => Nat.succ_pos 255, H0.out⟩, by go_grown, .inl ⟨rfl, rfl⟩⟩
  case round =>
    clear H0
    obtain ⟨⟨xs, hx, ho⟩, hb, ⟨rfl, rfl⟩ | ⟨rfl, rfl⟩⟩ := hrel
    · have c := ho.cell 23 (by omega)
      have f := ho.free 23
      have hs := w.heap.size
      go_wp2
      refine ⟨⟨⟨fun q => if q = 23 then 49 else xs q, fun q => ?_, ?_⟩, hb.setCell (p := ⟨w.heap.size, 23, none⟩) (Nat.le_refl _) _, .inr ⟨rfl, rfl⟩⟩, by simp [intOf]⟩
      · dsimp only; split; omega; exact hx q
      · exact ho.set 23 (by omega) _ _ (by simp) (fun j hj e => by simp [e])
    · have hcv := Lib.run_convert_window (P := Try.prog) wr 22 5 9 Try.underlying22 Try.underlying5 Try.underlying9 w.heap.size 0 (arr xs) (arr_bytes ho hx) 23 1 1 (by simp [arr, ByteArray.size])
      rw [Nat.zero_add] at hcv
      go_wp2
      go_ret
      exact ⟨⟨_, rfl⟩, hb⟩
set_option maxHeartbeats 1000000 in
theorem itoa2 (w : World) : Calls Try.prog 17 #[.int .i64 2] w fun e w' => (∃ t, e = .returned (.string t)) ∧ Below w.heap.size w w' := by
  have H0 := Lib.hid (lit24 w)
  go_enter Try.func17, Try.ntmps17
  go_wp2
  go_loopw [0, 4] (fun a p wr => (∃ xs : Nat → Nat, (∀ q, xs q < 256) ∧ Own wr w.heap.size 24 (fun q => .int .u8 (xs q))) ∧ Below w.heap.size w wr ∧ ((a = .int .i64 2 ∧ p = .int .i64 24) ∨ (a = .int .i64 0 ∧ p = .int .i64 23))) (fun a _ _ => (intOf a).toNat)
  case atStart => exact ⟨⟨fun _ => 0, fun _ => Nat.succ_pos 255, H0.out⟩, by go_grown, .inl ⟨rfl, rfl⟩⟩
  case round =>
    clear H0
    obtain ⟨⟨xs, hx, ho⟩, hb, ⟨rfl, rfl⟩ | ⟨rfl, rfl⟩⟩ := hrel
    · have c := ho.cell 23 (by omega)
      have f := ho.free 23
      have hs := w.heap.size
      go_wp2
      refine ⟨⟨⟨fun q => if q = 23 then 50 else xs q, fun q => ?_, ?_⟩, hb.setCell (p := ⟨w.heap.size, 23, none⟩) (Nat.le_refl _) _, .inr ⟨rfl, rfl⟩⟩, by simp [intOf]⟩
      · dsimp only; split; omega; exact hx q
      · exact ho.set 23 (by omega) _ _ (by simp) (fun j hj e => by simp [e])
    · have hcv := Lib.run_convert_window (P := Try.prog) wr 22 5 9 Try.underlying22 Try.underlying5 Try.underlying9 w.heap.size 0 (arr xs) (arr_bytes ho hx) 23 1 1 (by simp [arr, ByteArray.size])
      rw [Nat.zero_add] at hcv
      go_wp2
      go_ret
      exact ⟨⟨_, rfl⟩, hb⟩
end Go.Proofs.Ytnflgpcbdjkpfaa
