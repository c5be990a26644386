/-
  AddIDWithNotes, a flush, the log's messages. No condition.
-/
import Derived.Test.YteamfcjfoihehaaGreatDoorLa
import Derived.Deep.RegionHeld3
import Derived.RegionTactic
namespace Go.Proofs.YteamfcjfoihehaaGreatDoor
open Go.ChangeShapes Go.WideShapes Go.ChangeAt Go.RowKit
open Go.MuLone
set_option linter.unusedVariables false

def logV (K M X H : Nat) (lvl : Int) : Value := .agg #[.func (.func 19) #[] #[.pointer (some ⟨K, 0, none⟩), .pointer (some ⟨X, 0, none⟩), .pointer (some ⟨H, 0, none⟩), .pointer (some ⟨M, 0, none⟩)], .func (.func 22) #[] #[.pointer (some ⟨X, 0, none⟩), .pointer (some ⟨H, 0, none⟩)], .func (.func 23) #[] #[.pointer (some ⟨X, 0, none⟩), .pointer (some ⟨M, 0, none⟩)], .func (.func 24) #[] #[.pointer (some ⟨X, 0, none⟩), .pointer (some ⟨M, 0, none⟩)], .int .i8 lvl, .map none]
def Msgd (base K M X H n : Nat) (v : Value) (ms : List Value) (nv : Value) (t : ByteArray) (w : World) (e : Ending) (w' : World) : Prop :=
  e = .returned (.tuple #[]) ∧ ∃ v', Lg base K M X H 0 v' (ms ++ msg nv t) (n + 1) w' ∧ Fr (fun k => k = M ∨ k = X ∨ v.ownBlock = some k) w w'
set_option maxRecDepth 100000 in
set_option maxHeartbeats 4000000 in
theorem addID {base K M X H n : Nat} {v : Value} {ms : List Value} {w : World} (h : Lg base K M X H 0 v ms n w) (lvl : Int) (p : Option Addr) (l c : Nat) (t : ByteArray) (hn : n ≤ 65536) (hbB : base ≤ w.heap.size) :
    Calls Tryz.prog 26 #[logV K M X H lvl, .int .u8 0, .int .u8 4, .pointer none, .agg #[.int .i32 0, .int .i32 0], .string t, .slice p l c] w (Msgd base K M X H n v ms (.slice p l c) t w) := by
  have HL := Lib.hid h
  clear h
  unfold logV
  go_enter Tryz.func26, Tryz.ntmps26
  go_wp2_with fail
  refine (allow _).mono ?_
  rintro _ _ ⟨rfl, rfl⟩
  go_wp2_with fail
  have hsn := fun (W : World) (a : Addr) (m : Mode) => run_store Tryz.prog W a .nilIface m rfl
  have hB0 : Below w.heap.size w ((w.alloc (.cells #[.func (.func 19) #[] #[.pointer (some ⟨K, 0, none⟩), .pointer (some ⟨X, 0, none⟩), .pointer (some ⟨H, 0, none⟩), .pointer (some ⟨M, 0, none⟩)], .func (.func 22) #[] #[.pointer (some ⟨X, 0, none⟩), .pointer (some ⟨H, 0, none⟩)], .func (.func 23) #[] #[.pointer (some ⟨X, 0, none⟩), .pointer (some ⟨M, 0, none⟩)], .func (.func 24) #[] #[.pointer (some ⟨X, 0, none⟩), .pointer (some ⟨M, 0, none⟩)], .int .i8 lvl, .map none] 59)).alloc (.cells #[.int .i32 0, .int .i32 0] 73)) := by go_grown
  have hb1 := Bk.mk w 59 #[.func (.func 19) #[] #[.pointer (some ⟨K, 0, none⟩), .pointer (some ⟨X, 0, none⟩), .pointer (some ⟨H, 0, none⟩), .pointer (some ⟨M, 0, none⟩)], .func (.func 22) #[] #[.pointer (some ⟨X, 0, none⟩), .pointer (some ⟨H, 0, none⟩)], .func (.func 23) #[] #[.pointer (some ⟨X, 0, none⟩), .pointer (some ⟨M, 0, none⟩)], .func (.func 24) #[] #[.pointer (some ⟨X, 0, none⟩), .pointer (some ⟨M, 0, none⟩)], .int .i8 lvl, .map none]
  go_region_with (first
    | (go_at_call 31; (with_reducible refine (msgData t _).mono ?_); rintro _ wm ⟨rfl, hbm⟩; have hWM : Below w.heap.size w wm := (by go_grown : Below w.heap.size w _).trans (hbm.mono (by simp; omega)); have hwz := hWM.size; have q : wm.cell? ⟨w.heap.size, 0, none⟩ = some (.func (.func 19) #[] #[.pointer (some ⟨K, 0, none⟩), .pointer (some ⟨X, 0, none⟩), .pointer (some ⟨H, 0, none⟩), .pointer (some ⟨M, 0, none⟩)]) := (hbm.cell (p := ⟨w.heap.size, 0, none⟩) (by simp; omega)).trans (by simp [go_sem]))
    | (go_at_call 19; (refine (addMsg (HL.out.below hWM) p l c t hn (by omega)).mono ?_); rintro _ wz hM; obtain ⟨rfl, hM2⟩ := hM))
  all_goals
    go_end0
    obtain ⟨v2, hL2, hF2⟩ := hM2
    exact ⟨rfl, v2, hL2, (Fr.ofBelow' hWM (fun k h1 h2 => absurd h1 (by omega))).trans hF2⟩
end Go.Proofs.YteamfcjfoihehaaGreatDoor
