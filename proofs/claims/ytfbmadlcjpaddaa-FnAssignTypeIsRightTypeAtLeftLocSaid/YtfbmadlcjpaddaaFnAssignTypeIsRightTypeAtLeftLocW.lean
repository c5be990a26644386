/-
  What the law FnAssignTypeIsRightTypeAtLeftLoc does, for every input. No condition.
-/
import Derived.Test.YtfbmadlcjpaddaaBuilt
import Derived.WideLaws
import Derived.WalkSmall
import Derived.Deep.RegionHeld3
namespace Go.Proofs.Ytfbmadlcjpaddaa.fnAssignTypeIsRightTypeAtLeftLoc
open Go.ChangeShapes Go.WideShapes Go.ChangeAt Go.RowKit
set_option linter.unusedVariables false

/-- An assignment's node. -/
def AsgAt (w : World) (b : Nat) (vb : Value) : Prop := b < w.heap.size ∧ w.cell? ⟨b, 2, none⟩ = some vb ∧ w.cell? ⟨b, 4, none⟩ = some (.int .u8 37)
theorem AsgAt.later {w w' : World} {b : Nat} {vb : Value} (h : AsgAt w b vb) (hb : Below w.heap.size w w') : AsgAt w' b vb :=
  ⟨Nat.lt_of_lt_of_le h.1 hb.size, by rw [hb.cell (p := ⟨b, 2, none⟩) h.1]; exact h.2.1, by rw [hb.cell (p := ⟨b, 4, none⟩) h.1]; exact h.2.2⟩
theorem knows_later {w w' : World} {v : Value} {t : Int} (h : Knows w v t) (hb : Below w.heap.size w w') : Knows w' v t :=
  fun w2 h2 => h w2 (hb.trans (h2.mono hb.size))
def Asg (vb : Value) (la : Int) (w : World) (e : Ending) (w' : World) : Prop := ∃ b, e = .returned (.agg #[.iface 103 (.pointer (some ⟨b, 0, none⟩)), .int .i32 la]) ∧ AsgAt w' b vb ∧ Below w.heap.size w w'
theorem asg (va vb : Value) (la lb : Int) (w : World) (ia : Iface va) (ib : Iface vb) : Calls Try.prog 10 #[.agg #[va, .int .i32 la], .agg #[vb, .int .i32 lb]] w (Asg vb la w) := by
  rcases ia with rfl | ⟨Ta, xa, rfl⟩ <;> rcases ib with rfl | ⟨Tb, xb, rfl⟩
  all_goals
    go_enter Try.func10, Try.ntmps10
    go_wp2
    exact bodyPost_ret (by simp [results, Try.results10, go_sem]; rfl) rfl ⟨_, rfl, ⟨by simp, by simp [go_sem], by simp [go_sem]⟩, by go_grown⟩
set_option maxRecDepth 100000 in
set_option maxHeartbeats 1000000 in
theorem notC (b : Nat) (vb : Value) (la : Int) (w : World) (h : AsgAt w b vb) : Calls Try.prog 13 #[.agg #[.iface 103 (.pointer (some ⟨b, 0, none⟩)), .int .i32 la]] w
    fun e w' => e = .returned (.tuple #[.agg #[.nilIface, .int .i32 0], .bool false]) ∧ Below w.heap.size w w' := by
  obtain ⟨hlt, h1, h2⟩ := h
  go_enter Try.func13, Try.ntmps13
  go_wp2_with fail
  exact bodyPost_ret (by simp [results, Try.results13, go_sem]) rfl ⟨rfl, by go_grown⟩
set_option maxRecDepth 100000 in
theorem accC (b : Nat) (la : Int) (w : World) : Calls Try.prog 9 #[.agg #[.iface 103 (.pointer (some ⟨b, 0, none⟩)), .int .i32 la]] w
    fun e w' => e = .returned (.bool false) ∧ Below w.heap.size w w' := by
  go_enter Try.func9, Try.ntmps9
  go_wp2
  go_ret
  exact ⟨rfl, by go_grown⟩
set_option maxRecDepth 100000 in
theorem chainC (b : Nat) (la : Int) (w : World) : Calls Try.prog 14 #[.agg #[.iface 103 (.pointer (some ⟨b, 0, none⟩)), .int .i32 la]] w
    fun e w' => e = .returned (.bool false) ∧ Below w.heap.size w w' := by
  go_enter Try.func14, Try.ntmps14
  go_wp2
  go_ret
  exact ⟨rfl, by go_grown⟩
set_option maxRecDepth 100000 in
set_option maxHeartbeats 1000000 in
theorem knownC (b : Nat) (vb : Value) (t : Int) (w : World) (h : AsgAt w b vb) (ib : Iface vb) (hk : Knows w vb t) : Calls Try.prog 11 #[.iface 103 (.pointer (some ⟨b, 0, none⟩))] w
    fun e w' => e = .returned (.int .u8 t) ∧ Below w.heap.size w w' := by
  obtain ⟨hlt, h1, h2⟩ := h
  have K := hk w (Below.refl _ _)
  clear hk
  rcases ib with rfl | ⟨Tb, xb, rfl⟩
  all_goals
    go_enter Try.func11, Try.ntmps11
    go_wp2_with (go_at_call 11; refine K.mono ?_; rintro e w' ⟨rfl, hb⟩)
    go_ret
    exact ⟨rfl, by go_grown⟩
set_option maxRecDepth 100000 in
set_option maxHeartbeats 2000000 in
theorem law (a0 a1 a2 a3 : Int) (a4 a5 : Bool) (a6 a7 : Nat) (a8 a9 : Int) (w : World) (h0 : 0 ≤ a0) (h1 : 0 ≤ a1) :
    Calls Try.prog 4 #[.int .u8 a0, .int .u8 a1, .int .u8 a2, .int .u8 a3, .bool a4, .bool a5, .float .f64 a6, .float .f64 a7, .int .i32 a8, .int .i32 a9] w fun e w' => e = .returned (.bool true) ∧ Below w.heap.size w w' := by
  go_enter Try.func4, Try.ntmps4
  go_wp2_with fail
  refine (built _ _ _ _ _ _ h0).mono ?_
  rintro e w1 ⟨va, rfl, ia, ka, hb1⟩
  clear ka
  have z1 := hb1.size
  rcases ia with rfl | ⟨Ta, xa, rfl⟩
  · go_wp2_with fail
    refine (built _ _ _ _ _ _ h1).mono ?_
    rintro e w2 ⟨vb, rfl, ib, kb, hb2⟩
    have q0 : w2.cell? ⟨w1.heap.size, 0, none⟩ = some .nilIface := by rw [hb2.cell (p := ⟨w1.heap.size, 0, none⟩) (by simp)]; simp [go_sem]
    have q1 : w2.cell? ⟨w1.heap.size, 1, none⟩ = some (.int .i32 a8) := by rw [hb2.cell (p := ⟨w1.heap.size, 1, none⟩) (by simp)]; simp [go_sem]
    have z2 : w1.heap.size < w2.heap.size := by have := hb2.size; simp at this; omega
    have B2 : Below w.heap.size w w2 := (below_step hb2 (by go_grown) (by go_size)).1
    rcases ib with rfl | ⟨Tb, xb, rfl⟩
    · go_wp2_with fail
      refine (asg _ _ _ _ _ (.inl rfl) (.inl rfl)).mono ?_
      rintro e w3 ⟨b, rfl, hA, hb3⟩
      have z3 : w2.heap.size < w3.heap.size := by have := hb3.size; simp at this; omega
      have K3 := knows_later kb (((Below.refl _ _).alloc (Nat.le_refl _) _).trans (hb3.mono (by simp)))
      have B3 : Below w.heap.size w w3 := (below_step hb3 (by go_grown) (by go_size)).1
      clear kb q0 q1
      go_wp2_with fail
      refine (knownC b _ _ _ (hA.later (by go_grown)) (.inl rfl) (knows_later K3 (by go_grown))).mono ?_
      rintro e w4 ⟨rfl, hb4⟩
      have r0 : w4.cell? ⟨w3.heap.size, 0, none⟩ = some (.iface 103 (.pointer (some ⟨b, 0, none⟩))) := by rw [hb4.cell (p := ⟨w3.heap.size, 0, none⟩) (by simp)]; simp [go_sem]
      have r1 : w4.cell? ⟨w3.heap.size, 1, none⟩ = some (.int .i32 a8) := by rw [hb4.cell (p := ⟨w3.heap.size, 1, none⟩) (by simp)]; simp [go_sem]
      have z4 : w3.heap.size < w4.heap.size := by have := hb4.size; simp at this; omega
      have hA4 := hA.later (w' := w4) (((Below.refl _ _).alloc (Nat.le_refl _) _).trans (hb4.mono (by simp)))
      have B4 : Below w.heap.size w w4 := (below_step hb4 (by go_grown) (by go_size)).1
      clear hA K3 hb3 hb4 hb2 hb1 B3
      go_wp2_with (go_at_call 12; refine (zzType _ _ h1).mono ?_; rintro e w' ⟨rfl, rfl⟩)
      refine (notC b _ _ _ hA4).mono ?_
      rintro e w5 ⟨rfl, hb5⟩
      have s0 : w5.cell? ⟨w3.heap.size, 0, none⟩ = some (.iface 103 (.pointer (some ⟨b, 0, none⟩))) := by rw [hb5.cell (p := ⟨w3.heap.size, 0, none⟩) (by simp; omega)]; exact r0
      have s1 : w5.cell? ⟨w3.heap.size, 1, none⟩ = some (.int .i32 a8) := by rw [hb5.cell (p := ⟨w3.heap.size, 1, none⟩) (by simp; omega)]; exact r1
      have z5 : w3.heap.size < w5.heap.size := by have := hb5.size; omega
      have B5 : Below w.heap.size w w5 := (below_step hb5 (by go_grown) (by go_size)).1
      clear hA4 r0 r1 hb5 B4
      go_wp2_with fail
      refine (accC b _ _).mono ?_
      rintro e w6 ⟨rfl, hb6⟩
      have t0 : w6.cell? ⟨w3.heap.size, 0, none⟩ = some (.iface 103 (.pointer (some ⟨b, 0, none⟩))) := by rw [hb6.cell (p := ⟨w3.heap.size, 0, none⟩) (by first | omega | (simp; omega))]; simp [go_sem, s0, z5]
      have t1 : w6.cell? ⟨w3.heap.size, 1, none⟩ = some (.int .i32 a8) := by rw [hb6.cell (p := ⟨w3.heap.size, 1, none⟩) (by first | omega | (simp; omega))]; simp [go_sem, s1, z5]
      have B6 := below_step hb6 (B := w.heap.size) (w0 := w) (by go_grown) (by go_size)
      clear s0 s1 hb6 B5
      go_wp2_with fail
      refine (chainC b _ _).mono ?_
      rintro e w7 ⟨rfl, hb7⟩
      have B7 := below_step hb7 B6.1 B6.2
      go_wp2_with fail
      go_ret
      exact ⟨rfl, B7.1⟩
    · go_wp2_with fail
      refine (asg _ _ _ _ _ (.inl rfl) (.inr ⟨_, _, rfl⟩)).mono ?_
      rintro e w3 ⟨b, rfl, hA, hb3⟩
      have z3 : w2.heap.size < w3.heap.size := by have := hb3.size; simp at this; omega
      have K3 := knows_later kb (((Below.refl _ _).alloc (Nat.le_refl _) _).trans (hb3.mono (by simp)))
      have B3 : Below w.heap.size w w3 := (below_step hb3 (by go_grown) (by go_size)).1
      clear kb q0 q1
      go_wp2_with fail
      refine (knownC b _ _ _ (hA.later (by go_grown)) (.inr ⟨_, _, rfl⟩) (knows_later K3 (by go_grown))).mono ?_
      rintro e w4 ⟨rfl, hb4⟩
      have r0 : w4.cell? ⟨w3.heap.size, 0, none⟩ = some (.iface 103 (.pointer (some ⟨b, 0, none⟩))) := by rw [hb4.cell (p := ⟨w3.heap.size, 0, none⟩) (by simp)]; simp [go_sem]
      have r1 : w4.cell? ⟨w3.heap.size, 1, none⟩ = some (.int .i32 a8) := by rw [hb4.cell (p := ⟨w3.heap.size, 1, none⟩) (by simp)]; simp [go_sem]
      have z4 : w3.heap.size < w4.heap.size := by have := hb4.size; simp at this; omega
      have hA4 := hA.later (w' := w4) (((Below.refl _ _).alloc (Nat.le_refl _) _).trans (hb4.mono (by simp)))
      have B4 : Below w.heap.size w w4 := (below_step hb4 (by go_grown) (by go_size)).1
      clear hA K3 hb3 hb4 hb2 hb1 B3
      go_wp2_with (go_at_call 12; refine (zzType _ _ h1).mono ?_; rintro e w' ⟨rfl, rfl⟩)
      refine (notC b _ _ _ hA4).mono ?_
      rintro e w5 ⟨rfl, hb5⟩
      have s0 : w5.cell? ⟨w3.heap.size, 0, none⟩ = some (.iface 103 (.pointer (some ⟨b, 0, none⟩))) := by rw [hb5.cell (p := ⟨w3.heap.size, 0, none⟩) (by simp; omega)]; exact r0
      have s1 : w5.cell? ⟨w3.heap.size, 1, none⟩ = some (.int .i32 a8) := by rw [hb5.cell (p := ⟨w3.heap.size, 1, none⟩) (by simp; omega)]; exact r1
      have z5 : w3.heap.size < w5.heap.size := by have := hb5.size; omega
      have B5 : Below w.heap.size w w5 := (below_step hb5 (by go_grown) (by go_size)).1
      clear hA4 r0 r1 hb5 B4
      go_wp2_with fail
      refine (accC b _ _).mono ?_
      rintro e w6 ⟨rfl, hb6⟩
      have t0 : w6.cell? ⟨w3.heap.size, 0, none⟩ = some (.iface 103 (.pointer (some ⟨b, 0, none⟩))) := by rw [hb6.cell (p := ⟨w3.heap.size, 0, none⟩) (by first | omega | (simp; omega))]; simp [go_sem, s0, z5]
      have t1 : w6.cell? ⟨w3.heap.size, 1, none⟩ = some (.int .i32 a8) := by rw [hb6.cell (p := ⟨w3.heap.size, 1, none⟩) (by first | omega | (simp; omega))]; simp [go_sem, s1, z5]
      have B6 := below_step hb6 (B := w.heap.size) (w0 := w) (by go_grown) (by go_size)
      clear s0 s1 hb6 B5
      go_wp2_with fail
      refine (chainC b _ _).mono ?_
      rintro e w7 ⟨rfl, hb7⟩
      have B7 := below_step hb7 B6.1 B6.2
      go_wp2_with fail
      go_ret
      exact ⟨rfl, B7.1⟩
  · go_wp2_with fail
    refine (built _ _ _ _ _ _ h1).mono ?_
    rintro e w2 ⟨vb, rfl, ib, kb, hb2⟩
    have q0 : w2.cell? ⟨w1.heap.size, 0, none⟩ = some (.iface Ta xa) := by rw [hb2.cell (p := ⟨w1.heap.size, 0, none⟩) (by simp)]; simp [go_sem]
    have q1 : w2.cell? ⟨w1.heap.size, 1, none⟩ = some (.int .i32 a8) := by rw [hb2.cell (p := ⟨w1.heap.size, 1, none⟩) (by simp)]; simp [go_sem]
    have z2 : w1.heap.size < w2.heap.size := by have := hb2.size; simp at this; omega
    have B2 : Below w.heap.size w w2 := (below_step hb2 (by go_grown) (by go_size)).1
    rcases ib with rfl | ⟨Tb, xb, rfl⟩
    · go_wp2_with fail
      refine (asg _ _ _ _ _ (.inr ⟨_, _, rfl⟩) (.inl rfl)).mono ?_
      rintro e w3 ⟨b, rfl, hA, hb3⟩
      have z3 : w2.heap.size < w3.heap.size := by have := hb3.size; simp at this; omega
      have K3 := knows_later kb (((Below.refl _ _).alloc (Nat.le_refl _) _).trans (hb3.mono (by simp)))
      have B3 : Below w.heap.size w w3 := (below_step hb3 (by go_grown) (by go_size)).1
      clear kb q0 q1
      go_wp2_with fail
      refine (knownC b _ _ _ (hA.later (by go_grown)) (.inl rfl) (knows_later K3 (by go_grown))).mono ?_
      rintro e w4 ⟨rfl, hb4⟩
      have r0 : w4.cell? ⟨w3.heap.size, 0, none⟩ = some (.iface 103 (.pointer (some ⟨b, 0, none⟩))) := by rw [hb4.cell (p := ⟨w3.heap.size, 0, none⟩) (by simp)]; simp [go_sem]
      have r1 : w4.cell? ⟨w3.heap.size, 1, none⟩ = some (.int .i32 a8) := by rw [hb4.cell (p := ⟨w3.heap.size, 1, none⟩) (by simp)]; simp [go_sem]
      have z4 : w3.heap.size < w4.heap.size := by have := hb4.size; simp at this; omega
      have hA4 := hA.later (w' := w4) (((Below.refl _ _).alloc (Nat.le_refl _) _).trans (hb4.mono (by simp)))
      have B4 : Below w.heap.size w w4 := (below_step hb4 (by go_grown) (by go_size)).1
      clear hA K3 hb3 hb4 hb2 hb1 B3
      go_wp2_with (go_at_call 12; refine (zzType _ _ h1).mono ?_; rintro e w' ⟨rfl, rfl⟩)
      refine (notC b _ _ _ hA4).mono ?_
      rintro e w5 ⟨rfl, hb5⟩
      have s0 : w5.cell? ⟨w3.heap.size, 0, none⟩ = some (.iface 103 (.pointer (some ⟨b, 0, none⟩))) := by rw [hb5.cell (p := ⟨w3.heap.size, 0, none⟩) (by simp; omega)]; exact r0
      have s1 : w5.cell? ⟨w3.heap.size, 1, none⟩ = some (.int .i32 a8) := by rw [hb5.cell (p := ⟨w3.heap.size, 1, none⟩) (by simp; omega)]; exact r1
      have z5 : w3.heap.size < w5.heap.size := by have := hb5.size; omega
      have B5 : Below w.heap.size w w5 := (below_step hb5 (by go_grown) (by go_size)).1
      clear hA4 r0 r1 hb5 B4
      go_wp2_with fail
      refine (accC b _ _).mono ?_
      rintro e w6 ⟨rfl, hb6⟩
      have t0 : w6.cell? ⟨w3.heap.size, 0, none⟩ = some (.iface 103 (.pointer (some ⟨b, 0, none⟩))) := by rw [hb6.cell (p := ⟨w3.heap.size, 0, none⟩) (by first | omega | (simp; omega))]; simp [go_sem, s0, z5]
      have t1 : w6.cell? ⟨w3.heap.size, 1, none⟩ = some (.int .i32 a8) := by rw [hb6.cell (p := ⟨w3.heap.size, 1, none⟩) (by first | omega | (simp; omega))]; simp [go_sem, s1, z5]
      have B6 := below_step hb6 (B := w.heap.size) (w0 := w) (by go_grown) (by go_size)
      clear s0 s1 hb6 B5
      go_wp2_with fail
      refine (chainC b _ _).mono ?_
      rintro e w7 ⟨rfl, hb7⟩
      have B7 := below_step hb7 B6.1 B6.2
      go_wp2_with fail
      go_ret
      exact ⟨rfl, B7.1⟩
    · go_wp2_with fail
      refine (asg _ _ _ _ _ (.inr ⟨_, _, rfl⟩) (.inr ⟨_, _, rfl⟩)).mono ?_
      rintro e w3 ⟨b, rfl, hA, hb3⟩
      have z3 : w2.heap.size < w3.heap.size := by have := hb3.size; simp at this; omega
      have K3 := knows_later kb (((Below.refl _ _).alloc (Nat.le_refl _) _).trans (hb3.mono (by simp)))
      have B3 : Below w.heap.size w w3 := (below_step hb3 (by go_grown) (by go_size)).1
      clear kb q0 q1
      go_wp2_with fail
      refine (knownC b _ _ _ (hA.later (by go_grown)) (.inr ⟨_, _, rfl⟩) (knows_later K3 (by go_grown))).mono ?_
      rintro e w4 ⟨rfl, hb4⟩
      have r0 : w4.cell? ⟨w3.heap.size, 0, none⟩ = some (.iface 103 (.pointer (some ⟨b, 0, none⟩))) := by rw [hb4.cell (p := ⟨w3.heap.size, 0, none⟩) (by simp)]; simp [go_sem]
      have r1 : w4.cell? ⟨w3.heap.size, 1, none⟩ = some (.int .i32 a8) := by rw [hb4.cell (p := ⟨w3.heap.size, 1, none⟩) (by simp)]; simp [go_sem]
      have z4 : w3.heap.size < w4.heap.size := by have := hb4.size; simp at this; omega
      have hA4 := hA.later (w' := w4) (((Below.refl _ _).alloc (Nat.le_refl _) _).trans (hb4.mono (by simp)))
      have B4 : Below w.heap.size w w4 := (below_step hb4 (by go_grown) (by go_size)).1
      clear hA K3 hb3 hb4 hb2 hb1 B3
      go_wp2_with (go_at_call 12; refine (zzType _ _ h1).mono ?_; rintro e w' ⟨rfl, rfl⟩)
      refine (notC b _ _ _ hA4).mono ?_
      rintro e w5 ⟨rfl, hb5⟩
      have s0 : w5.cell? ⟨w3.heap.size, 0, none⟩ = some (.iface 103 (.pointer (some ⟨b, 0, none⟩))) := by rw [hb5.cell (p := ⟨w3.heap.size, 0, none⟩) (by simp; omega)]; exact r0
      have s1 : w5.cell? ⟨w3.heap.size, 1, none⟩ = some (.int .i32 a8) := by rw [hb5.cell (p := ⟨w3.heap.size, 1, none⟩) (by simp; omega)]; exact r1
      have z5 : w3.heap.size < w5.heap.size := by have := hb5.size; omega
      have B5 : Below w.heap.size w w5 := (below_step hb5 (by go_grown) (by go_size)).1
      clear hA4 r0 r1 hb5 B4
      go_wp2_with fail
      refine (accC b _ _).mono ?_
      rintro e w6 ⟨rfl, hb6⟩
      have t0 : w6.cell? ⟨w3.heap.size, 0, none⟩ = some (.iface 103 (.pointer (some ⟨b, 0, none⟩))) := by rw [hb6.cell (p := ⟨w3.heap.size, 0, none⟩) (by first | omega | (simp; omega))]; simp [go_sem, s0, z5]
      have t1 : w6.cell? ⟨w3.heap.size, 1, none⟩ = some (.int .i32 a8) := by rw [hb6.cell (p := ⟨w3.heap.size, 1, none⟩) (by first | omega | (simp; omega))]; simp [go_sem, s1, z5]
      have B6 := below_step hb6 (B := w.heap.size) (w0 := w) (by go_grown) (by go_size)
      clear s0 s1 hb6 B5
      go_wp2_with fail
      refine (chainC b _ _).mono ?_
      rintro e w7 ⟨rfl, hb7⟩
      have B7 := below_step hb7 B6.1 B6.2
      go_wp2_with fail
      go_ret
      exact ⟨rfl, B7.1⟩
theorem u8_range {a : Int} (h : (Lit.int .u8 a).wf = true) : 0 ≤ a ∧ a ≤ 255 := by
  simpa [Lit.wf, IntKind.min, IntKind.max, IntKind.signed, IntKind.bits] using h
theorem walk (a0 a1 a2 a3 : Int) (a4 a5 : Bool) (a6 a7 : Nat) (a8 a9 : Int) (w : World) (w0 : (Lit.int .u8 a0).wf = true) (w1 : (Lit.int .u8 a1).wf = true) (w2 : (Lit.int .u8 a2).wf = true) (w3 : (Lit.int .u8 a3).wf = true) (w6 : (Lit.float .f64 a6).wf = true) (w7 : (Lit.float .f64 a7).wf = true) (w8 : (Lit.int .i32 a8).wf = true) (w9 : (Lit.int .i32 a9).wf = true) :
    Calls Try.prog 4 #[.int .u8 a0, .int .u8 a1, .int .u8 a2, .int .u8 a3, .bool a4, .bool a5, .float .f64 a6, .float .f64 a7, .int .i32 a8, .int .i32 a9] w fun e w' => e = .returned (.bool true) ∧ Below w.heap.size w w' :=
  law a0 a1 a2 a3 a4 a5 a6 a7 a8 a9 w (u8_range w0).1 (u8_range w1).1
end Go.Proofs.Ytfbmadlcjpaddaa.fnAssignTypeIsRightTypeAtLeftLoc
