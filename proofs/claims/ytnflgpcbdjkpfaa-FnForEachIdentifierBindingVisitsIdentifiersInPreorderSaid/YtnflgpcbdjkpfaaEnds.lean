/-
  The bytes' clone, their count, and where the tree ends. No condition.
-/
import Derived.Test.YtnflgpcbdjkpfaaTree
import Derived.Laws.CopyOwn
import Derived.Lib.SliceRun
namespace Go.Proofs.Ytnflgpcbdjkpfaa
open Go.ChangeShapes Go.WideShapes Go.ChangeAt Go.RowKit
set_option linter.unusedVariables false
set_option linter.unusedSimpArgs false

set_option maxRecDepth 100000 in
theorem anyBytes (a : Option Addr) (n cap : Nat) (w : World) (hn : n ≤ 9223372036854775807) : Calls Try.prog 5 #[.slice a n cap] w fun e w' => ∃ b, e = .returned (.bool b) ∧ w = w' := by
  by_cases h : n ≤ 1048576
  · go_enter Try.func5, Try.ntmps5
    go_wp2
    go_ret
    exact ⟨_, rfl, rfl⟩
  · go_enter Try.func5, Try.ntmps5
    go_wp2
    go_ret
    exact ⟨_, rfl, rfl⟩
theorem made_cur (w : World) (n : Nat) (z : Value) (E : TypeId) : (w.alloc (.cells (madeCells #[z] n) E)).heap[w.heap.size]? = some (.cells (List.replicate n z).toArray E (0, 0)) := by
  rw [heap_alloc_new]
  have : madeCells #[z] n = (List.replicate n z).toArray := by
    apply Array.ext'
    rw [toList_madeCells_one]
  rw [this]
theorem src (w : World) (o : Obj) {b off n : Nat} {code : Nat → Nat} (hlt : b < w.heap.size) (hc : ∀ i, i < n → w.cell? ⟨b, off + i, none⟩ = some (.int .u8 (code i : Int))) : ∀ j v, ((List.range n).map fun i => Value.int .u8 (code i : Int))[j]? = some v → (w.alloc o).cell? ((⟨b, off, none⟩ : Addr).add j) = some v := by
  intro j v hj
  have hjn : j < n := by
    have := (List.getElem?_eq_some_iff.1 hj).1
    simpa using this
  rw [Go.WideShapes.add_plain, World.cell?_alloc_past (w := w) o b (off + j) hlt, hc j hjn]
  simp [hjn] at hj
  rw [hj]
theorem info5 : (Try.prog.info? 5).map (fun i => (i.zero, i.size, i.bytes)) = some (some (.int .u8 0), 1, 1) := by kernel_rfl
set_option maxRecDepth 100000 in
set_option maxHeartbeats 4000000 in
theorem clone (a : Option Addr) (n cap : Nat) (code : Nat → Nat) (w : World) (hc : Code w a n code) (h0 : 0 < n) (hn : n ≤ 65536) : Calls Try.prog 6 #[.slice a n cap] w fun e w' => e = .returned (.slice (some ⟨w.heap.size, 0, none⟩) n n) ∧ Code w' (some ⟨w.heap.size, 0, none⟩) n code ∧ Below w.heap.size w w' := by
  obtain ⟨b, off, rfl, hlt, hcell⟩ := hc.at_ h0
  have HW := Lib.hid hc.lt
  have HC := Lib.hid hcell
  clear hc hcell
  have hnil := fun (W : World) (p : Option Addr) (n c n' c' : Nat) => Lib.run_eql_slice_nil (P := Try.prog) W 22 5 p n c n' c' Try.underlying22
  obtain ⟨i0, hi, hz0, hz1, hz2⟩ := info_parts info5
  have hmk : ∀ u : World, (Instr.makeSlice 22 (.int .i64 (n : Int)) (.int .i64 (n : Int))).run Try.prog u =
      .ok (.slice (some ⟨u.heap.size, 0, none⟩) n n) (u.alloc (.cells (madeCells #[.int .u8 0] n) 5)) := fun u => by
    have q := run_make (P := Try.prog) u 22 5 i0 (.int .u8 0) Try.underlying22 hi hz0 .i64 .i64 (n : Int) (n : Int) (by omega) (Int.le_refl _) (by rw [hz2]; omega) (by omega)
    simpa [hz1, Value.cells] using q
  clear hi hz0 hz1 hz2
  go_enter Try.func6, Try.ntmps6
  go_wp2_with (refine wpList_copy_splice (by rfl) (.tmp 9) (.tmp 10) 22 22 (by rfl) 5 Try.underlying22 (by kernel_rfl) (some ⟨w.heap.size, 0, none⟩) (some ⟨b, off, none⟩) n n n cap (by rfl) (by rfl) w.heap.size 0 (List.replicate n (.int .u8 0)) 5 (made_cur w n (.int .u8 0) 5) ((List.range n).map fun i => .int .u8 (code i : Int)) (by rw [List.length_map, List.length_range]; exact (Nat.min_self n).symm) (fun _ => ⟨rfl, _, rfl, src w _ hlt HC.out⟩) (by simp) (fun v hv => by obtain ⟨z, _, rfl⟩ := List.mem_map.1 hv; rfl) w.heap.size w ((Below.refl _ w).alloc (Nat.le_refl _) _) (Nat.le_refl _) ?_; intro wq hq1 hq2)
  go_ret
  refine ⟨rfl, ⟨fun _ => ⟨w.heap.size, 0, rfl, ?_, fun i hi => ?_⟩, HW.out⟩, hq2⟩
  · exact (Array.getElem?_eq_some_iff.1 hq1.out).1
  · have hs : splice (List.replicate n (Value.int .u8 0)) 0 ((List.range n).map fun i => Value.int .u8 (code i : Int)) = (List.range n).map fun i => Value.int .u8 (code i : Int) := by simp [splice]
    have e := hq1.out
    rw [hs] at e
    rw [cell_of_row _ _ _ _ _ _ e]
    simp [hi]
set_option maxRecDepth 100000 in
set_option maxHeartbeats 4000000 in
theorem treeEnd (a : Option Addr) (n cap : Nat) (code : Nat → Nat) (w : World) (hc : Code w a n code) (h0 : 0 < n) (hn : n ≤ 65536) : Calls Try.prog 10 #[.slice a n cap, .int .i64 0] w fun e w' => e = .returned (.int .i64 ((te code n n 1 0 : Nat) : Int)) ∧ w = w' := by
  obtain ⟨b, off, rfl, hlt, hcell⟩ := hc.at_ h0
  have HW := Lib.hid hc.lt
  have HC := Lib.hid hcell
  clear hc hcell
  go_enter Try.func10, Try.ntmps10
  go_wp2
  go_loopw [5, 6] (fun s5 s6 wr => ∃ (i need : Nat), i ≤ n ∧ need ≤ 1 + 2 * i ∧ s6 = .int .i64 i ∧ s5 = .int .i64 need ∧ w = wr ∧ te code n n 1 0 = te code n (n - i) need i) (fun _ s6 _ => n - (intOf s6).toNat)
  case atStart => exact ⟨0, 1, Nat.zero_le _, by omega, rfl, rfl, rfl, rfl⟩
  case round =>
    obtain ⟨i, need, hi, hneed, rfl, rfl, rfl, hte⟩ := hrel
    have HTE := Lib.hid hte
    clear hte
    by_cases hgo : i < n ∧ 0 < need
    · obtain ⟨hin, hnd⟩ := hgo
      have ci := HC.out i hin
      have HAR := Lib.hid (arity (code i) (HW.out i hin) w)
      have har : ar (code i) ≤ 3 := by unfold ar; split <;> omega
      have HT : Hid (te code n (n - i) need i = te code n (n - (i + 1)) (need + ar (code i) - 1) (i + 1)) := by
        show _ = _
        rw [show n - i = (n - (i + 1)) + 1 by omega, te, if_pos ⟨hin, hnd⟩]
      generalize code i = c at *
      generalize ar c = d at *
      go_wp2_with (first | (go_at_call 14; (with_reducible refine HAR.out.mono ?_); rintro _ _ ⟨rfl, rfl⟩))
      refine ⟨⟨i + 1, need + d - 1, by omega, by omega, by go_num, by congr 1; omega, by first | rfl | trivial, HTE.out.trans HT.out⟩, by simp [intOf]; omega⟩
    · have HT : Hid (te code n n 1 0 = i) := HTE.out.trans (te_stop code n _ need i hgo)
      by_cases hin : i < n
      · have hnd : ¬ 0 < need := fun q => hgo ⟨hin, q⟩
        clear hgo
        go_wp2
        go_ret
        exact ⟨by rw [HT.out]; rfl, rfl⟩
      · go_wp2
        go_ret
        exact ⟨by rw [HT.out]; rfl, rfl⟩
end Go.Proofs.Ytnflgpcbdjkpfaa
