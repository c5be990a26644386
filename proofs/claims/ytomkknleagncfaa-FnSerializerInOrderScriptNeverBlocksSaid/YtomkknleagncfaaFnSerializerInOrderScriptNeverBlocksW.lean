/-
  A serializer of n steps, walked in order in one goroutine, never blocks. No condition.
-/
import Derived.Test.YtomkknleagncfaaSerial
namespace Go.Proofs.Ytomkknleagncfaa.fnSerializerInOrderScriptNeverBlocks
open Go.ChangeShapes Go.WideShapes Go.ChangeAt Go.RowKit
set_option linter.unusedVariables false

set_option maxHeartbeats 1000000 in
theorem walk (a0 : Int) (w : World) (w0 : (Lit.int .i64 a0).wf = true) :
    Calls Try.prog 5 #[.int .i64 a0] w fun e w' => e = .returned (.bool true) ∧ Below w.heap.size w w' := by
  by_cases h1 : a0 < 0
  · go_enter Try.func5, Try.ntmps5
    go_wp2
    go_ret
    exact ⟨rfl, Below.refl _ _⟩
  by_cases h2 : a0 > 65536
  · go_enter Try.func5, Try.ntmps5
    go_wp2
    go_ret
    exact ⟨rfl, Below.refl _ _⟩
  obtain ⟨n, rfl⟩ : ∃ n : Nat, a0 = n := ⟨a0.toNat, by omega⟩
  have hn : n ≤ 65536 := by omega
  clear w0
  go_enter Try.func5, Try.ntmps5
  go_wp2_with (first | (go_at_call 14; (with_reducible refine (make14 n hn w).mono ?_); rintro _ w1 ⟨rfl, hf1, hb1⟩; have HF1 := Lib.hid hf1; have HB1 := Lib.hid hb1; clear hf1 hb1))
  have hB : w.heap.size + 1 < w1.heap.size := HF1.out.size
  go_loopw [4] (fun s4 wr => ∃ i : Nat, i ≤ n ∧ s4 = .int .i64 i ∧ Fl wr (w.heap.size + 1) n (upTo i 0 4294967296) ∧ Below w.heap.size w wr ∧ wr.cell? ⟨w1.heap.size, 0, none⟩ = some (.slice (some ⟨w.heap.size + 1, 0, none⟩) n n)) (fun s4 _ => n - (intOf s4).toNat)
  case atStart =>
    refine ⟨0, by omega, rfl, (Own.alloc HF1.out _).congr (fun j hj => by simp [flagVal, upTo]), HB1.out.alloc (by have := HB1.out.size; omega) _, by simp [go_sem]⟩
  case round =>
    obtain ⟨i, hi, rfl, hfl, hb, hc⟩ := hrel
    by_cases hin : i < n
    · have hE1 := enter15 w1.heap.size (w.heap.size + 1) n i _ wr hc hfl hn (by omega) (fun j hj => by rw [upTo, if_pos (by omega)])
      have hL := leave16 w1.heap.size (w.heap.size + 1) n i _ wr hc hfl hn hin (by rw [upTo, if_neg (by omega)])
      have hfl2 := hfl.set i hin 0 (upTo (i + 1) 0 4294967296) (by simp [upTo]) (fun j hj hne => by simp only [upTo]; split <;> split <;> first | rfl | omega)
      have hc2 : (wr.setCell ⟨w.heap.size + 1, i * 2, none⟩ (.int .u64 0)).cell? ⟨w1.heap.size, 0, none⟩ = some (.slice (some ⟨w.heap.size + 1, 0, none⟩) n n) := by
        rw [World.cell?_setCell_other _ _ _ _ (by first | (simp; omega) | simp)]; exact hc
      have hE2 := enter15 w1.heap.size (w.heap.size + 1) n i _ _ hc2 hfl2 hn (by omega) (fun j hj => by rw [upTo, if_pos (by omega)])
      have hE3 := enter15 w1.heap.size (w.heap.size + 1) n (i + 1) _ _ hc2 hfl2 hn (by omega) (fun j hj => by rw [upTo, if_pos (by omega)])
      have e1 : ((i + 1 : Nat) : Int) = (i : Int) + 1 := by omega
      rw [e1] at hE3
      have HF := Lib.hid hfl2
      have HC := Lib.hid hc2
      have HB := Lib.hid (hb.setCell (p := ⟨w.heap.size + 1, i * 2, none⟩) (by simp) (.int .u64 0))
      clear e1 hfl hfl2 hc2 hb hc
      go_wp2_with (first | (go_at_call 15; (with_reducible first | refine hE1.mono ?_ | refine hE2.mono ?_ | refine hE3.mono ?_); rintro _ _ ⟨rfl, rfl⟩) | (go_at_call 16; (with_reducible refine hL.mono ?_); rintro _ _ ⟨rfl, rfl⟩))
      exact ⟨⟨i + 1, by omega, by go_num, HF.out, HB.out, HC.out⟩, by simp [intOf]; omega⟩
    · obtain rfl : i = n := by omega
      have hl := len17 w1.heap.size (w.heap.size + 1) i wr hc
      have HB := Lib.hid hb
      clear hb hfl hc
      go_wp2_with (first | (go_at_call 17; (with_reducible refine hl.mono ?_); rintro _ _ ⟨rfl, rfl⟩))
      go_ret
      exact ⟨by simp, HB.out⟩
end Go.Proofs.Ytomkknleagncfaa.fnSerializerInOrderScriptNeverBlocks
