/-
  A flush, the log's messages. No condition.
-/
import Derived.Test.YteamfcjfoihehaaGreatDoorLb
import Derived.StillTailTactics
namespace Go.Proofs.YteamfcjfoihehaaGreatDoor
open Go.ChangeShapes Go.WideShapes Go.ChangeAt Go.RowKit
open Go.MuLone
set_option linter.unusedVariables false

/-- The query value: its resolver and its notes. -/
def qryV (R Bd : Nat) : Value := .agg #[.pointer (some ⟨R, 0, none⟩), .pointer none, .pointer (some ⟨Bd, 0, none⟩), .int .u8 0]
theorem Rs.below {R K M X H : Nat} {lvl : Int} {w w' : World} (h : Rs R K M X H lvl w) (hb : Below w.heap.size w w') : Rs R K M X H lvl w' := by
  obtain ⟨cs, hk, h2⟩ := h
  exact ⟨cs, hk.below hb hk.lt, h2⟩
set_option maxRecDepth 100000 in
set_option maxHeartbeats 4000000 in
theorem flush {base baseD K M X H n R Bd : Nat} {v nv : Value} {ms : List Value} {lvl : Int} {w : World} {what ind : ByteArray} {ns : List ByteArray} (h : Lg base K M X H 0 v ms n w) (hR : Rs R K M X H lvl w) (hD : Db baseD Bd what ind ns nv w) (hn : n ≤ 65536) (hbB : base ≤ w.heap.size) :
    Calls Tryz.prog 18 #[qryV R Bd, .int .u8 0] w (Msgd base K M X H n v ms nv what w) := by
  obtain ⟨cs, hk, r0, r1, r2, r3, r4, r5⟩ := hR
  obtain ⟨p, c, rfl⟩ := own_form hD.own
  have HL := Lib.hid h
  have lk := hk.lt
  have l1 : R < w.heap.size + 1 := by omega
  have ld := hD.blk.lt
  have l2 : Bd < w.heap.size + 1 := by omega
  have e0 : w.cell? ⟨R, 1, none⟩ = some (.func (.func 19) #[] #[.pointer (some ⟨K, 0, none⟩), .pointer (some ⟨X, 0, none⟩), .pointer (some ⟨H, 0, none⟩), .pointer (some ⟨M, 0, none⟩)]) := (hk.cell 1).trans r0
  have e1 : w.cell? ⟨R, 2, none⟩ = some (.func (.func 22) #[] #[.pointer (some ⟨X, 0, none⟩), .pointer (some ⟨H, 0, none⟩)]) := (hk.cell 2).trans r1
  have e2 : w.cell? ⟨R, 3, none⟩ = some (.func (.func 23) #[] #[.pointer (some ⟨X, 0, none⟩), .pointer (some ⟨M, 0, none⟩)]) := (hk.cell 3).trans r2
  have e3 : w.cell? ⟨R, 4, none⟩ = some (.func (.func 24) #[] #[.pointer (some ⟨X, 0, none⟩), .pointer (some ⟨M, 0, none⟩)]) := (hk.cell 4).trans r3
  have e4 : w.cell? ⟨R, 5, none⟩ = some (.int .i8 lvl) := (hk.cell 5).trans r4
  have e5 : w.cell? ⟨R, 6, none⟩ = some (.map none) := (hk.cell 6).trans r5
  have d0 : w.cell? ⟨Bd, 0, none⟩ = some (.string what) := hD.blk.cell 0
  have d2 : w.cell? ⟨Bd, 2, none⟩ = some (.slice p ns.length c) := hD.blk.cell 2
  clear h hk hD r0 r1 r2 r3 r4 r5
  unfold qryV
  go_enter Tryz.func18, Tryz.ntmps18
  go_wp2_with fail
  refine wp_region_still_tail 16 (by kernel_rfl) (by kernel_rfl) ?_
  simp only [List.take_succ_cons, List.take_zero, List.drop_succ_cons, List.drop_zero]
  change wpStill _ _ (World.drew _) (fun a' => wpList _ _ _ _ a' (World.drew _)) _ _
  still_step
  still_step
  still_step
  still_step
  still_step
  still_step
  still_step
  still_step
  still_step
  still_step
  still_step
  still_step
  still_step
  still_step
  still_step
  still_step
  refine wpStill_nil ?_
  go_wp2_with fail
  have hb0 : Below w.heap.size w ((w.alloc (.cells #[.pointer (some ⟨R, 0, none⟩), .pointer none, .pointer (some ⟨Bd, 0, none⟩), .int .u8 0] 33)).drew) := by go_grown
  refine (addID (HL.out.below hb0) lvl p ns.length c what hn (by simp; omega)).mono ?_
  rintro _ wz hM
  obtain ⟨rfl, v2, hL2, hF2⟩ := hM
  go_wp2_with fail
  go_end0
  exact ⟨rfl, v2, hL2, (Fr.ofBelow' hb0 (fun k h1 h2 => absurd h1 (by omega))).trans hF2⟩
set_option maxRecDepth 100000 in
theorem flushZ {base baseD K M X H n R Bd : Nat} {v nv : Value} {ms : List Value} {lvl : Int} {w : World} {what ind : ByteArray} {ns : List ByteArray} (h : Lg base K M X H 0 v ms n w) (hR : Rs R K M X H lvl w) (hD : Db baseD Bd what ind ns nv w) (hn : n ≤ 65536) (hbB : base ≤ w.heap.size) :
    Calls Tryz.prog 11 #[qryV R Bd] w (Msgd base K M X H n v ms nv what w) := by
  have hb0 : Below w.heap.size w (w.alloc (.cells #[.pointer (some ⟨R, 0, none⟩), .pointer none, .pointer (some ⟨Bd, 0, none⟩), .int .u8 0] 33)) := by go_grown
  have HF := Lib.hid (flush (h.below hb0) (hR.below hb0) (hD.below hb0) hn (by simp; omega))
  have hsw : w.heap.size ≤ w.heap.size := Nat.le_refl _
  unfold qryV at *
  clear h hR hD
  go_enter Tryz.func11, Tryz.ntmps11
  go_wp2_with fail
  refine HF.out.mono ?_
  rintro _ wz hM
  obtain ⟨rfl, v2, hL2, hF2⟩ := hM
  go_wp2_with fail
  go_end0
  exact ⟨rfl, v2, hL2, (Fr.ofBelow' hb0 (fun k h1 h2 => absurd h1 (by omega))).trans hF2⟩
end Go.Proofs.YteamfcjfoihehaaGreatDoor
