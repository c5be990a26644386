/-
  The contract of b3Clone. No condition.
-/
import Derived.Test.YtfbmadlcjpaddaaTre
namespace Go.Proofs.Ytfbmadlcjpaddaa
open Go.ChangeShapes Go.WideShapes Go.ChangeAt Go.RowKit
set_option linter.unusedVariables false

/-- Seven cells written. -/
def set7 (w : World) (b o : Nat) (v0 v1 v2 v3 v4 v5 v6 : Value) : World :=
  (((((((w.setCell ⟨b, o, none⟩ v0).setCell ⟨b, o + 1, none⟩ v1).setCell ⟨b, o + 2, none⟩ v2).setCell ⟨b, o + 3, none⟩ v3).setCell ⟨b, o + 4, none⟩ v4).setCell ⟨b, o + 5, none⟩ v5).setCell ⟨b, o + 6, none⟩ v6)
theorem sc_ne {w : World} {b o o' : Nat} {v : Value} (h : o ≠ o') : (w.setCell ⟨b, o, none⟩ v).cell? ⟨b, o', none⟩ = w.cell? ⟨b, o', none⟩ := World.cell?_setCell_other _ _ _ _ (by simp [h])
theorem sc_ex {w : World} {b o o' : Nat} {v : Value} (h : ∃ u, w.cell? ⟨b, o', none⟩ = some u) : ∃ u, (w.setCell ⟨b, o, none⟩ v).cell? ⟨b, o', none⟩ = some u := by
  by_cases e : o = o'
  · subst e
    obtain ⟨u, hu⟩ := h
    exact ⟨v, World.cell?_setCell_same _ _ _ hu⟩
  · rw [sc_ne e]; exact h
theorem sc_eq {w : World} {b o : Nat} {v : Value} (h : ∃ u, w.cell? ⟨b, o, none⟩ = some u) : (w.setCell ⟨b, o, none⟩ v).cell? ⟨b, o, none⟩ = some v := by
  obtain ⟨u, hu⟩ := h
  exact World.cell?_setCell_same _ _ _ hu
theorem set7_ne {w : World} {b o o' : Nat} {v0 v1 v2 v3 v4 v5 v6 : Value} (h : o' < o ∨ o + 6 < o') : (set7 w b o v0 v1 v2 v3 v4 v5 v6).cell? ⟨b, o', none⟩ = w.cell? ⟨b, o', none⟩ := by
  unfold set7
  rw [sc_ne (by omega), sc_ne (by omega), sc_ne (by omega), sc_ne (by omega), sc_ne (by omega), sc_ne (by omega), sc_ne (by omega)]
theorem set7_ex {w : World} {b o o' : Nat} {v0 v1 v2 v3 v4 v5 v6 : Value} (h : ∃ u, w.cell? ⟨b, o', none⟩ = some u) : ∃ u, (set7 w b o v0 v1 v2 v3 v4 v5 v6).cell? ⟨b, o', none⟩ = some u :=
  sc_ex (sc_ex (sc_ex (sc_ex (sc_ex (sc_ex (sc_ex h))))))
theorem set7_nod {w : World} {b o : Nat} {k op : Int} {f : Bool} {c a1 a2 a3 : Int} (h : ∀ j, j < 7 → ∃ u, w.cell? ⟨b, o + j, none⟩ = some u) (rk : 0 ≤ k ∧ k ≤ 255) (r1 : -2147483648 ≤ a1 ∧ a1 ≤ 2147483647) (r2 : -2147483648 ≤ a2 ∧ a2 ≤ 2147483647) (r3 : -2147483648 ≤ a3 ∧ a3 ≤ 2147483647) :
    Nod (set7 w b o (.int .u8 k) (.int .u8 op) (.bool f) (.int .u8 c) (.int .i32 a1) (.int .i32 a2) (.int .i32 a3)) b o k op f c a1 a2 a3 := by
  have h0 := h 0 (by omega); have h1 := h 1 (by omega); have h2 := h 2 (by omega); have h3 := h 3 (by omega); have h4 := h 4 (by omega); have h5 := h 5 (by omega); have h6 := h 6 (by omega)
  rw [Nat.add_zero] at h0
  unfold set7
  refine ⟨?_, ?_, ?_, ?_, ?_, ?_, ?_, rk, r1, r2, r3⟩
  · rw [sc_ne (by omega), sc_ne (by omega), sc_ne (by omega), sc_ne (by omega), sc_ne (by omega), sc_ne (by omega)]; exact sc_eq h0
  · rw [sc_ne (by omega), sc_ne (by omega), sc_ne (by omega), sc_ne (by omega), sc_ne (by omega)]; exact sc_eq (sc_ex h1)
  · rw [sc_ne (by omega), sc_ne (by omega), sc_ne (by omega), sc_ne (by omega)]; exact sc_eq (sc_ex (sc_ex h2))
  · rw [sc_ne (by omega), sc_ne (by omega), sc_ne (by omega)]; exact sc_eq (sc_ex (sc_ex (sc_ex h3)))
  · rw [sc_ne (by omega), sc_ne (by omega)]; exact sc_eq (sc_ex (sc_ex (sc_ex (sc_ex h4))))
  · rw [sc_ne (by omega)]; exact sc_eq (sc_ex (sc_ex (sc_ex (sc_ex (sc_ex h5)))))
  · exact sc_eq (sc_ex (sc_ex (sc_ex (sc_ex (sc_ex (sc_ex h6))))))
theorem Nod.moved {w w' : World} {b o : Nat} {k op : Int} {f : Bool} {c a1 a2 a3 : Int} (h : Nod w b o k op f c a1 a2 a3) (e : ∀ j, j < 7 → w'.cell? ⟨b, o + j, none⟩ = w.cell? ⟨b, o + j, none⟩) : Nod w' b o k op f c a1 a2 a3 :=
  ⟨(e 0 (by omega)).trans h.k0, (e 1 (by omega)).trans h.k1, (e 2 (by omega)).trans h.k2, (e 3 (by omega)).trans h.k3, (e 4 (by omega)).trans h.k4, (e 5 (by omega)).trans h.k5, (e 6 (by omega)).trans h.k6, h.rk, h.r1, h.r2, h.r3⟩
/-- At the copying loop's head. -/
structure Cn (w wr : World) (n k : Nat) : Prop where
  below : Below w.heap.size w wr
  size : w.heap.size < wr.heap.size
  free : ∀ j, wr.frozen? ⟨w.heap.size, j, none⟩ = false
  some : ∀ j, j < n * 7 → ∃ v, wr.cell? ⟨w.heap.size, j, none⟩ = .some v
  done : ∀ i, i < k → ∃ k op f c a1 a2 a3, Nod wr w.heap.size (0 + i * 7) k op f c a1 a2 a3
theorem Cn.step {w wr : World} {n k : Nat} (h : Cn w wr n k) (hk : k < n) {q op : Int} {f : Bool} {c a1 a2 a3 : Int} (rk : 0 ≤ q ∧ q ≤ 255) (r1 : -2147483648 ≤ a1 ∧ a1 ≤ 2147483647) (r2 : -2147483648 ≤ a2 ∧ a2 ≤ 2147483647) (r3 : -2147483648 ≤ a3 ∧ a3 ≤ 2147483647) :
    Cn w (set7 wr w.heap.size (k * 7) (.int .u8 q) (.int .u8 op) (.bool f) (.int .u8 c) (.int .i32 a1) (.int .i32 a2) (.int .i32 a3)) n (k + 1) := by
  refine ⟨?_, ?_, fun j => ?_, fun j hj => set7_ex (h.some j hj), fun i hi => ?_⟩
  · unfold set7
    exact ((((((h.below.setCell (Nat.le_refl _) _).setCell (Nat.le_refl _) _).setCell (Nat.le_refl _) _).setCell (Nat.le_refl _) _).setCell (Nat.le_refl _) _).setCell (Nat.le_refl _) _).setCell (Nat.le_refl _) _
  · unfold set7; simpa using h.size
  · unfold set7; simpa using h.free j
  · by_cases e : i = k
    · subst e
      refine ⟨q, op, f, c, a1, a2, a3, ?_⟩
      rw [Nat.zero_add]
      exact set7_nod (fun j hj => h.some _ (by omega)) rk r1 r2 r3
    · obtain ⟨q', op', f', c', b1, b2, b3, nd⟩ := h.done i (by omega)
      exact ⟨q', op', f', c', b1, b2, b3, nd.moved fun j hj => set7_ne (by omega)⟩
theorem cn_start (w : World) (n : Nat) (z : Array Value) (E : TypeId) : Cn w (w.alloc (.cells (madeCells z (n * 7)) E)) n 0 := by
  refine ⟨(Below.refl _ _).alloc (Nat.le_refl _) _, by simp, fun j => by simp [go_sem], fun j hj => ?_, fun i hi => absurd hi (by omega)⟩
  rw [World.cell?_alloc_new]
  have : j < (madeCells z (n * 7)).size := by rw [size_madeCells]; exact hj
  exact ⟨_, Array.getElem?_eq_getElem this⟩
def zNod : Value := .agg #[.int .u8 0, .int .u8 0, .bool false, .int .u8 0, .int .i32 0, .int .i32 0, .int .i32 0]
theorem mkN (len : Nat) (hl : len ≤ 4194304) : ∀ u : World, (Instr.makeSlice 39 (.int .i64 (len : Int)) (.int .i64 (len : Int))).run Try.prog u =
        .ok (.slice (some ⟨u.heap.size, 0, none⟩) len len) (u.alloc (.cells (madeCells zNod.cells (len * 7)) 141)) := fun u => by
  obtain ⟨i0, hi, hz0, hz1, hz2⟩ := pInfo (show (Try.prog.info? 141).map (fun i => (i.zero, i.size, i.bytes)) = some (some zNod, 7, 16) by kernel_rfl)
  have q := run_make (P := Try.prog) u 39 141 i0 zNod Try.underlying39 hi hz0 .i64 .i64 (len : Int) (len : Int) (by omega) (Int.le_refl _) (by rw [hz2]; omega) (by omega)
  simpa [hz1] using q
set_option maxRecDepth 100000 in
set_option maxHeartbeats 8000000 in
theorem clone17 (a : Option Addr) (len cap : Nat) (w : World) (h : IsNods w a len cap) (hl : len ≤ 4096) (h0 : 0 < len) :
    Calls Try.prog 17 #[.slice a len cap] w fun e w' => e = .returned (.slice (some ⟨w.heap.size, 0, none⟩) len len) ∧ IsNods w' (some ⟨w.heap.size, 0, none⟩) len len ∧ Below w.heap.size w w' := by
  have hmk := mkN len (by omega)
  have hnil := fun (W : World) (p : Option Addr) (n c n' c' : Nat) => Lib.run_eql_slice_nil (P := Try.prog) W 39 141 p n c n' c' Try.underlying39
  obtain ⟨b, off, rfl, hb, hc⟩ := h.2.2.2 h0
  have HC := Lib.hid hc
  have HM := Lib.hid (show len ≤ maxLen from Nat.le_trans h.1 h.2.1)
  clear h hc
  go_enter Try.func17, Try.ntmps17
  go_wp2_with fail
  clear hmk hnil
  go_loopw [4] (fun i wr => ∃ k : Nat, k ≤ len ∧ i = .int .i64 k ∧ Cn w wr len k) (fun i _ => len - (jOf i).toNat)
  case atStart => exact ⟨0, Nat.zero_le _, rfl, cn_start w len _ _⟩
  case round =>
    obtain ⟨i, hi, rfl, cn⟩ := hrel
    by_cases hlt : i < len
    · obtain ⟨k, op, f, c, a1, a2, a3, nd⟩ := HC.out i hlt
      have n0 := nd.below cn.below hb
      have d0 := n0.k0; have d1 := n0.k1; have d2 := n0.k2; have d3 := n0.k3; have d4 := n0.k4; have d5 := n0.k5; have d6 := n0.k6
      obtain ⟨u0, e0⟩ := cn.some (i * 7) (by omega)
      obtain ⟨u1, e1⟩ := cn.some (i * 7 + 1) (by omega)
      obtain ⟨u2, e2⟩ := cn.some (i * 7 + 2) (by omega)
      obtain ⟨u3, e3⟩ := cn.some (i * 7 + 3) (by omega)
      obtain ⟨u4, e4⟩ := cn.some (i * 7 + 4) (by omega)
      obtain ⟨u5, e5⟩ := cn.some (i * 7 + 5) (by omega)
      obtain ⟨u6, e6⟩ := cn.some (i * 7 + 6) (by omega)
      have ff := cn.free
      have ST := Lib.hid (cn.step hlt (op := op) (f := f) (c := c) nd.rk nd.r1 nd.r2 nd.r3)
      clear cn n0 nd
      go_wp2_with fail
      refine ⟨⟨i + 1, by omega, by go_num, ?_⟩, by simp [jOf]; omega⟩
      have q := ST.out
      unfold set7 at q
      exact q
    · have : i = len := by omega
      subst this
      go_wp2_with fail
      go_ret
      exact ⟨rfl, ⟨Nat.le_refl _, HM.out, fun h => by simp at h, fun _ => ⟨_, 0, rfl, cn.size, cn.done⟩⟩, cn.below⟩
end Go.Proofs.Ytfbmadlcjpaddaa
