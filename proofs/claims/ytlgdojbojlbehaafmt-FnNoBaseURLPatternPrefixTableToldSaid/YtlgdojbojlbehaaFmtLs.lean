/-
  The log's Done at no message or one. No condition.
-/
import Derived.Test.YtlgdojbojlbehaaFmtLa
namespace Go.Proofs.YtlgdojbojlbehaaFmt
open Go.ChangeShapes Go.WideShapes Go.ChangeAt Go.RowKit
open Go.MuLone
set_option linter.unusedVariables false

set_option maxRecDepth 100000 in
theorem len2 (v : Option Addr) (n cap : Nat) (w : World) : Calls Tryf.prog 74 #[.slice v n cap] w fun e w' => e = .returned (.int .i64 n) ∧ w = w' := by
  go_enter Tryf.func74, Tryf.ntmps74
  go_wp2
  go_ret
  exact ⟨rfl, rfl⟩
set_option maxRecDepth 100000 in
set_option maxHeartbeats 4000000 in
theorem insertion (v : Value) (n : Nat) (hn : n ≤ 1) (w : World) :
    Calls Tryf.prog 36 #[.iface 53 v, .int .i64 0, .int .i64 n] w fun e w' => e = .returned (.tuple #[]) ∧ w = w' := by
  go_enter Tryf.func36, Tryf.ntmps36
  go_wp2_with fail
  go_loopw [6] (fun i wr => i = .int .i64 1 ∧ w = wr) (fun i _ => 0)
  case atStart => exact ⟨rfl, rfl⟩
  case round =>
    obtain ⟨rfl, rfl⟩ := hrel
    have h1 : ¬ (1 : Int) < (n : Int) := by omega
    go_wp2_with fail
    go_end0
    exact ⟨rfl, rfl⟩
set_option maxRecDepth 100000 in
set_option maxHeartbeats 4000000 in
theorem stable (v : Value) (n : Nat) (hn : n ≤ 1) (w : World) :
    Calls Tryf.prog 25 #[.iface 53 v, .int .i64 n] w fun e w' => e = .returned (.tuple #[]) ∧ w = w' := by
  have h20 : ¬ (20 : Int) ≤ (n : Int) := by omega
  have h21 : ¬ (20 : Int) < (n : Int) := by omega
  go_enter Tryf.func25, Tryf.ntmps25
  go_wp2_with fail
  go_loopw [5, 6] (fun a b wr => a = .int .i64 0 ∧ b = .int .i64 20 ∧ w = wr) (fun _ _ _ => 0)
  case atStart => exact ⟨rfl, rfl, rfl⟩
  case round =>
    obtain ⟨rfl, rfl, rfl⟩ := hrel
    go_wp2_with fail
    refine (insertion v n hn w).mono ?_
    rintro _ _ ⟨rfl, rfl⟩
    go_wp2_with fail
    go_loopw [4] (fun a wr => a = .int .i64 20 ∧ w = wr) (fun _ _ => 0)
    case atStart => exact ⟨rfl, rfl⟩
    case round =>
      obtain ⟨rfl, rfl⟩ := hrel
      go_wp2_with fail
      go_end0
      exact ⟨rfl, rfl⟩
set_option maxRecDepth 100000 in
theorem sort25 (p : Option Addr) (n cap : Nat) (hn : n ≤ 1) (w : World) :
    Calls Tryf.prog 17 #[.iface 53 (.slice p n cap)] w fun e w' => e = .returned (.tuple #[]) ∧ w = w' := by
  go_enter Tryf.func17, Tryf.ntmps17
  go_wp2_with fail
  refine (len2 _ _ _ _).mono ?_
  rintro _ _ ⟨rfl, rfl⟩
  go_wp2_with fail
  refine (stable _ n hn w).mono ?_
  rintro _ _ ⟨rfl, rfl⟩
  go_wp2_with fail
  go_end0
  exact ⟨rfl, rfl⟩
set_option maxRecDepth 100000 in
set_option maxHeartbeats 4000000 in
theorem done16 {base K M X H n : Nat} {v : Value} {ms : List Value} {w : World} (h : Lg base K M X H 0 v ms n w) (hn : n ≤ 1) (hB : base ≤ w.heap.size) :
    Calls Tryf.prog 16 #[.pointer (some ⟨X, 0, none⟩), .pointer (some ⟨M, 0, none⟩)] w
      fun e w' => (∃ p c, e = .returned (.slice p n c)) ∧ Fr (fun k => k = X) w w' := by
  have HL := Lib.hid (h.setX 1)
  have hF := (Fr.refl (fun k => k = X) w).setCell (p := ⟨X, 0, none⟩) (fun _ => rfl) (.int .i32 1)
  have HF := Lib.hid hF
  have xc : w.cell? ⟨X, 0, none⟩ = some (.int .i32 0) := h.x.cell 0
  have xf := h.x.free 0
  have HX := Lib.hid h.bx
  clear h hF
  go_enter_defers Tryf.func16, Tryf.ntmps16
  go_wp2_with fail
  refine (lock_free Tryf.muLib ⟨X, 0, none⟩ _ xc xf).mono ?_
  rintro _ _ ⟨rfl, rfl⟩
  clear xc xf
  generalize w.setCell ⟨X, 0, none⟩ (.int .i32 1) = wl at *
  obtain ⟨p, cap, rfl⟩ := own_form HL.out.own
  have mc : wl.cell? ⟨M, 0, none⟩ = some (.slice p n cap) := HL.out.m.cell 0
  go_wp2_with fail
  refine (sort25 p n cap hn _).mono ?_
  rintro _ _ ⟨rfl, rfl⟩
  go_wp2_with fail
  refine leaves_cons (f := 13) (args := #[.pointer (some ⟨X, 0, none⟩)]) (by simp) (by simp [go_sem]) ?_
  refine (unlock_deferred Tryf.muLib ⟨X, 0, none⟩ .returning _ (HL.out.x.cell 0) (HL.out.x.free 0)).mono ?_
  rintro e u' w'' ⟨rfl, rfl, rfl⟩
  exact ⟨_, results_tmp rfl _ _ _, ⟨p, cap, rfl⟩, HF.out.setCell (p := ⟨X, 0, none⟩) (fun _ => rfl) _⟩
end Go.Proofs.YtlgdojbojlbehaaFmt
