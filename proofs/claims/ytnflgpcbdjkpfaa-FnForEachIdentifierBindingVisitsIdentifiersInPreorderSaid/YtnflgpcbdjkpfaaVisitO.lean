/-
  The visit of a tree: arrays, objects, all. No condition.
-/
import Derived.Test.YtnflgpcbdjkpfaaVisitA
namespace Go.Proofs.Ytnflgpcbdjkpfaa
open Go.ChangeShapes Go.WideShapes Go.ChangeAt Go.RowKit
set_option linter.unusedVariables false
set_option linter.unusedSimpArgs false

set_option maxRecDepth 100000 in
set_option maxHeartbeats 16000000 in
theorem vis_obj (base bl br : Nat) (w0 : World) (n p base0 : Nat) (v : Value) (kids : List (Bd × List Nat)) (hn : Bk w0 n 69 #[v, .int .i32 0, .bool false]) (ho : w0.ownsRow base0 66 11 v kids.length (kids.flatMap fun k => itemO k.1)) (ih : ∀ k ∈ kids, Vis base bl br w0 k.1 k.2) (hkm : kids.length ≤ 1048576) : Vis base bl br w0 ⟨67, .pointer (some ⟨n, 0, none⟩), p⟩ (kids.flatMap (·.2)) := by
  intro w L v1 v2 hk hsz h hL
  unfold Bd.v cbv
  dsimp only
  have hx : Cb base bl br L v1 v2 (w.alloc (.cells #[.iface 67 (.pointer (some ⟨n, 0, none⟩)), .int .i32 (p : Int)] 30)) := h.fr ((Below.refl _ w).alloc (Nat.le_refl _) _)
  have hb := hk.bk hn (by decide)
  have hbl := hb.lt
  have hb0 : w.cell? ⟨n, 0, none⟩ = some v := hb.cell 0
  obtain ⟨pa, cap, rfl⟩ := own_form ho
  have HX := Lib.hid hx
  have HK := Lib.hid hk
  have HSZ := Lib.hid hsz
  have HOO := Lib.hid ho
  have HIH := Lib.hid ih
  have HL := Lib.hid hL
  clear hx h hk hn ho ih hb hL hsz
  go_enter Try.func8, Try.ntmps8
  go_wp2
  go_loopw [52] (fun s wr => ∃ (k : Nat) (v1' v2' : Value), k ≤ kids.length ∧ s = .int .i64 k ∧ Cb base bl br (L ++ (kids.take k).flatMap (·.2)) v1' v2' wr ∧ Fr (S4 base w) w wr) (fun s _ => kids.length - (intOf s).toNat)
  case atStart => exact ⟨0, v1, v2, Nat.zero_le _, rfl, by simpa using HX.out, (Fr.refl _ w).alloc _⟩
  case round =>
    clear HX hb0
    obtain ⟨k, v1', v2', hkle, rfl, hcb, hfr⟩ := hrel
    have HCB := Lib.hid hcb
    have HFR := Lib.hid hfr
    clear hcb hfr
    by_cases hkl : k < kids.length
    · have HKB := Lib.hid (HK.out.fr HFR.out)
      have HO := Lib.hid (HKB.out.own HOO.out (by decide))
      obtain ⟨g, cap', hpa⟩ := HO.out.form (by omega)
      obtain ⟨rfl, rfl⟩ : pa = some ⟨g, 0, none⟩ ∧ cap = cap' := by simp at hpa; exact hpa.1
      clear hpa
      have hvis := HIH.out kids[k] (List.getElem_mem hkl)
      have htk : (kids.take (k + 1)).flatMap (·.2) = (kids.take k).flatMap (·.2) ++ kids[k].2 := by rw [List.take_add_one, List.getElem?_eq_getElem hkl, Option.toList_some, List.flatMap_append, List.flatMap_cons, List.flatMap_nil, List.append_nil]
      have hlen : ((kids.take (k + 1)).flatMap (·.2)).length ≤ (kids.flatMap (·.2)).length := by
        conv => rhs; rw [← List.take_append_drop (k + 1) kids]
        rw [List.flatMap_append, List.length_append]; omega
      have HL2 : Hid ((L ++ (kids.take k).flatMap (·.2)).length + kids[k].2.length ≤ 1048576) := by
        show _ ≤ _
        have := HL.out
        rw [htk] at hlen
        simp only [List.length_append] at hlen ⊢
        omega
      generalize hkd : kids[k] = kd at *
      obtain ⟨⟨T, q, p'⟩, lx⟩ := kd
      have z0 : wr.cell? ⟨g, k * 11, none⟩ = some (.nilIface) := by
        have e := HO.out.cellAt (k * 11 + 0) (by have : (k + 1) * 11 ≤ kids.length * 11 := Nat.mul_le_mul_right _ hkl; rw [Nat.succ_mul] at this; omega)
        rw [flat_at (fun k : Bd × List Nat => itemO k.1) 11 (fun x => rfl) kids k 0 hkl (by omega), hkd] at e
        exact e
      have z1 : wr.cell? ⟨g, k * 11 + 1, none⟩ = some (.int .i32 0) := by
        have e := HO.out.cellAt (k * 11 + 1) (by have : (k + 1) * 11 ≤ kids.length * 11 := Nat.mul_le_mul_right _ hkl; rw [Nat.succ_mul] at this; omega)
        rw [flat_at (fun k : Bd × List Nat => itemO k.1) 11 (fun x => rfl) kids k 1 hkl (by omega), hkd] at e
        exact e
      have z2 : wr.cell? ⟨g, k * 11 + 2, none⟩ = some (.iface T q) := by
        have e := HO.out.cellAt (k * 11 + 2) (by have : (k + 1) * 11 ≤ kids.length * 11 := Nat.mul_le_mul_right _ hkl; rw [Nat.succ_mul] at this; omega)
        rw [flat_at (fun k : Bd × List Nat => itemO k.1) 11 (fun x => rfl) kids k 2 hkl (by omega), hkd] at e
        exact e
      have z3 : wr.cell? ⟨g, k * 11 + 3, none⟩ = some (.int .i32 (p' : Int)) := by
        have e := HO.out.cellAt (k * 11 + 3) (by have : (k + 1) * 11 ≤ kids.length * 11 := Nat.mul_le_mul_right _ hkl; rw [Nat.succ_mul] at this; omega)
        rw [flat_at (fun k : Bd × List Nat => itemO k.1) 11 (fun x => rfl) kids k 3 hkl (by omega), hkd] at e
        exact e
      have z4 : wr.cell? ⟨g, k * 11 + 4, none⟩ = some (.nilIface) := by
        have e := HO.out.cellAt (k * 11 + 4) (by have : (k + 1) * 11 ≤ kids.length * 11 := Nat.mul_le_mul_right _ hkl; rw [Nat.succ_mul] at this; omega)
        rw [flat_at (fun k : Bd × List Nat => itemO k.1) 11 (fun x => rfl) kids k 4 hkl (by omega), hkd] at e
        exact e
      have z5 : wr.cell? ⟨g, k * 11 + 5, none⟩ = some (.int .i32 0) := by
        have e := HO.out.cellAt (k * 11 + 5) (by have : (k + 1) * 11 ≤ kids.length * 11 := Nat.mul_le_mul_right _ hkl; rw [Nat.succ_mul] at this; omega)
        rw [flat_at (fun k : Bd × List Nat => itemO k.1) 11 (fun x => rfl) kids k 5 hkl (by omega), hkd] at e
        exact e
      have z6 : wr.cell? ⟨g, k * 11 + 6, none⟩ = some (.int .i32 (p' : Int)) := by
        have e := HO.out.cellAt (k * 11 + 6) (by have : (k + 1) * 11 ≤ kids.length * 11 := Nat.mul_le_mul_right _ hkl; rw [Nat.succ_mul] at this; omega)
        rw [flat_at (fun k : Bd × List Nat => itemO k.1) 11 (fun x => rfl) kids k 6 hkl (by omega), hkd] at e
        exact e
      have z7 : wr.cell? ⟨g, k * 11 + 7, none⟩ = some (.int .i32 0) := by
        have e := HO.out.cellAt (k * 11 + 7) (by have : (k + 1) * 11 ≤ kids.length * 11 := Nat.mul_le_mul_right _ hkl; rw [Nat.succ_mul] at this; omega)
        rw [flat_at (fun k : Bd × List Nat => itemO k.1) 11 (fun x => rfl) kids k 7 hkl (by omega), hkd] at e
        exact e
      have z8 : wr.cell? ⟨g, k * 11 + 8, none⟩ = some (.bool false) := by
        have e := HO.out.cellAt (k * 11 + 8) (by have : (k + 1) * 11 ≤ kids.length * 11 := Nat.mul_le_mul_right _ hkl; rw [Nat.succ_mul] at this; omega)
        rw [flat_at (fun k : Bd × List Nat => itemO k.1) 11 (fun x => rfl) kids k 8 hkl (by omega), hkd] at e
        exact e
      have z9 : wr.cell? ⟨g, k * 11 + 9, none⟩ = some (.bool false) := by
        have e := HO.out.cellAt (k * 11 + 9) (by have : (k + 1) * 11 ≤ kids.length * 11 := Nat.mul_le_mul_right _ hkl; rw [Nat.succ_mul] at this; omega)
        rw [flat_at (fun k : Bd × List Nat => itemO k.1) 11 (fun x => rfl) kids k 9 hkl (by omega), hkd] at e
        exact e
      have z10 : wr.cell? ⟨g, k * 11 + 10, none⟩ = some (.bool false) := by
        have e := HO.out.cellAt (k * 11 + 10) (by have : (k + 1) * 11 ≤ kids.length * 11 := Nat.mul_le_mul_right _ hkl; rw [Nat.succ_mul] at this; omega)
        rw [flat_at (fun k : Bd × List Nat => itemO k.1) 11 (fun x => rfl) kids k 10 hkl (by omega), hkd] at e
        exact e
      have HW := Lib.hid (hvis (wr.alloc (.cells #[.nilIface, .int .i32 0, .iface T q, .int .i32 (p' : Int), .nilIface, .int .i32 0, .int .i32 (p' : Int), .int .i32 0, .bool false, .bool false, .bool false] 66)) _ v1' v2' (HKB.out.alloc _ (Nat.le_trans HSZ.out HFR.out.size)) (Nat.le_trans HSZ.out (Nat.le_trans HFR.out.size (by simp))) (HCB.out.fr ((Below.refl _ wr).alloc (Nat.le_refl _) _)) HL2.out)
      unfold Bd.v cbv at HW
      dsimp only at HW
      have HTK := Lib.hid htk
      clear hvis htk hlen hkd
      go_wp2_with (first | (go_at_call 8; (with_reducible refine HW.out.mono ?_); rintro _ w1 ⟨rfl, u1, u2, hc2, hf2⟩; have HC2 := Lib.hid hc2; have HF2 := Lib.hid hf2; clear hc2 hf2))
      refine ⟨⟨k + 1, u1, u2, by omega, by go_num, ?_, S4.trans (S4.trans HFR.out ((Fr.refl _ wr).alloc _)) HF2.out⟩, by simp [intOf]; omega⟩
      rw [HTK.out, ← List.append_assoc]
      exact HC2.out
    · obtain rfl : k = kids.length := by omega
      go_wp2
      go_end0
      have := HCB.out
      rw [List.take_length] at this
      exact ⟨rfl, _, _, this, HFR.out⟩
theorem visit {base bl br : Nat} {w0 : World} {P : Nat → Prop} {x : Bd} {l : List Nat} (h : Tr w0 P x l) : Vis base bl br w0 x l := by
  induction h with
  | miss q p => exact vis_miss base bl br w0 q p
  | id n p h hp => exact vis_id base bl br w0 n p h
  | arr n p base0 v kids hl h hp ho hv hk ih => exact vis_arr base bl br w0 n p base0 v kids h ho ih (by omega)
  | obj n p base0 v kids hl h hp ho hv hk ih => exact vis_obj base bl br w0 n p base0 v kids h ho ih (by omega)
end Go.Proofs.Ytnflgpcbdjkpfaa
